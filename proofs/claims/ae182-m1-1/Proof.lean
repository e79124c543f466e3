import JvmDerived
import JvmDerived.Pilot.@@N@@Statement
import JvmDerived.Pilot.@@N@@Code
set_option linter.unusedVariables false
set_option linter.unusedSimpArgs false
namespace Jvm.RoadKit
open Sem ClassFile Op Lib Jvm.Stand Jvm.Free Jvm.LawKit
section New
variable {p : Program} {l : Launch} {e : Env} {R : Room} {s : State} {m : MethodId} {args : Array Value} {below : List Frame} {meth : Method} {c : Code} {T : State} {locs : List Loc} {cells slots : Nat}
theorem retI (X : Stand p l e R s m args below meth c T locs cells slots) (hx : p.tables.exec = Jvm.exec) {pc : Nat} {Ls : Array Slot} {z : Int32} {rest : List Value} (hret : meth.sig.returnType = some .int) (hd : decode c.code pc = .ok (.ireturn, 1)) {fs : List Frame}
    (hl : ∀ (f : JFrame) (acts : List Action), f.method = m → f.locked = none → f.entered = [] → (doReturn e (T.setTop f) acts (some (.int z))).1 = T.setFrames fs) : Steps p.tables e below (T.setTop (mkF m pc Ls (.int z :: rest))) (T.setFrames fs) := by
  have hm' : T.vm.method? m = some meth := X.method'
  have hn : narrow .int (.int z) = .int z := rfl
  show Steps p.tables e below (T.setTop { method := m, pc := pc, locals := Ls, stack := _ :: rest, locked := none }) _
  jvm_step X.here [X.here.top, hx, hd, hm', hret, hn]
  first | (intro acts; rw [hl _ acts rfl rfl rfl]) | rw [hl _ _ rfl rfl rfl]
  exact Steps.refl _
end New
end Jvm.RoadKit
namespace Jvm.Pilot.@@N@@
open Jvm Jvm.ClassFile Sem Op Lib Jvm.Free Jvm.Stand Jvm.LawKit Jvm.RoadKit Bundle Jvm.Pilot.@@N@@.Jvm.D
theorem ow {Z : State} {a0 : Array Value} (hw : ∀ d ∈ tables_1, d.before a0 Z = true) (i : Nat) {d : Jvm.Cond} (h : tables_1[i]? = some d) : d.before a0 Z = true := hw d (List.mem_of_getElem? h)
abbrev HW (a0 : Array Value) (Z : State) : Prop := ∀ d ∈ tables_1, d.before a0 Z = true
abbrev MF (l : Launch) (y : MethodName) (bytes : ByteArray) (ml : Nat) (ret : Option FieldType) (ws : List Jvm.Cond) (rm : Room) (Z : State) (as : Array Value) (h0 : Heap) (Q : Option Value → Heap → List Loc → Prop) : Prop := MetFree l y (head1 (Jvm.Cond.code y bytes ml ret :: ws) rm) (fun a U => a = as ∧ Z.Warmed39 U.vm ∧ U.heap = h0) (fun _ _ _ _ _ => True) (fun _ U o U' => ∃ v L, o = .returned v ∧ Q v U'.heap L ∧ FrameEnd U o U' L rm.cells rm.slots)
abbrev MFS (l : Launch) (y : MethodName) (bytes : ByteArray) (ml : Nat) (ret : Option FieldType) (ws : List Jvm.Cond) (rm : Room) (Z : State) (as : Array Value) (h0 : Heap) (Q : Option Value → Heap → List Loc → Prop) : Prop := MetFree l y (head1 (Jvm.Cond.code y bytes ml ret :: ws) rm) (fun a U => a = as ∧ Z.Warmed39 U.vm ∧ U.heap = h0) (fun _ _ _ _ _ => True) (fun _ U o U' => ∃ v L, o = .returned v ∧ Q v U'.heap L ∧ ReturnedEndW U o U' L rm.cells rm.slots)
abbrev St (p : Program) (e : Env) (below : List Frame) (T : State) (m : MethodId) (pc : Nat) (Ls : Array Slot) (st : List Value) (t : State) : Prop := Steps p.tables e below (T.setTop (mkF m pc Ls st)) t
theorem own_since {s : State} {vm : Vm} {n n' : Nat} (h : s.Since vm n) (hn : n ≤ n') : s.Since vm n' := ⟨h.1, fun j p hj hp => ⟨(h.2 j p hj hp).1, Nat.lt_of_lt_of_le (h.2 j p hj hp).2 hn⟩⟩
theorem own_i8 (x : Int32) : x.toInt8.toInt32.toInt8.toInt32 = x.toInt8.toInt32 := by simp
theorem own_narb (x : Int32) : nar .byte (x.toInt8.toInt32) = x.toInt8.toInt32 := by simp [nar]
def Base (Z : State) (wKind_SUCCESS : Addr) (wKind_RETRYABLE_FAILURE : Addr) (wKind_FINAL_FAILURE : Addr) : Prop := Sta Z Z.heap "com/example/nervous_key/nervouskey/Outcome$Kind" "SUCCESS" "Lcom/example/nervous_key/nervouskey/Outcome$Kind;" (.ref wKind_SUCCESS) ∧ Exa Z Z.heap wKind_SUCCESS "com/example/nervous_key/nervouskey/Outcome$Kind" ∧ Sta Z Z.heap "com/example/nervous_key/nervouskey/Outcome$Kind" "RETRYABLE_FAILURE" "Lcom/example/nervous_key/nervouskey/Outcome$Kind;" (.ref wKind_RETRYABLE_FAILURE) ∧ Exa Z Z.heap wKind_RETRYABLE_FAILURE "com/example/nervous_key/nervouskey/Outcome$Kind" ∧ Sta Z Z.heap "com/example/nervous_key/nervouskey/Outcome$Kind" "FINAL_FAILURE" "Lcom/example/nervous_key/nervouskey/Outcome$Kind;" (.ref wKind_FINAL_FAILURE) ∧ Exa Z Z.heap wKind_FINAL_FAILURE "com/example/nervous_key/nervouskey/Outcome$Kind"
set_option maxRecDepth 65536 in
set_option maxHeartbeats 40000000 in
theorem g0_1 {p : Program} {l : Launch} {e : Env} {R : Room} {s : State} {m : MethodId} {args : Array Value} {below : List Frame} {meth : Method} {c : Code} {T0 : State} {locs : List Loc} {cells slots : Nat} {Z : State} {a0 : Array Value} {h0 : Heap} {n0 : Nat} (p1 : Int32) (p2 : Int32) (p3 : Int32) (p4 : Int32) (p5 : Int32) (a6 : Addr) (p7 : Int32) (p8 : Int32) (p9 : Int32) (p10 : Int32)
    (X0 : Stand p l e R s m args below meth c T0 locs cells slots) (hx : p.tables.exec = Jvm.exec) (hZ : Z.Warmed39 s.vm) (hw : HW a0 Z) (hby : c.code = code) (hml : c.maxLocals = 15) (hown : s.vm.findClass "com/example/nervous_key/nervouskey/OutcomeOfPinLaw" = some m.cls) (e0 : T0.heap = h0) (O0 : Old Z n0 h0) (N0 : Fr n0 locs) (rc : cells + 1 ≤ R.cells) (rs : slots + 0 ≤ R.slots) (rf : 0 ≤ R.frames) (rl : 0 ≤ R.locals) :
    ∃ (T' : State) (h' : Heap) (L' : List Loc) (b11 : Addr) (k11 : ClassId), Stand p l e R s m args below meth c T' L' (cells + 1) (slots + 0) ∧ T'.heap = h' ∧ Fr n0 L' ∧ Keep h0 h' [] ∧ h0.size ≤ b11 ∧ Arv Z h' b11 k11 .byte (0 : Int32) [] (.int (0 : Int32)) ∧ Exa Z h' b11 "[B" ∧
      ∀ target, St p e below T' m 145 #[iv p1, iv p2, iv p3, iv p4, iv p5, rv a6, iv (0 : Int32), iv p7, iv p8, iv p9, iv p10, rv b11, .unset, .unset, .unset] [] target → St p e below T0 m 69 #[iv p1, iv p2, iv p3, iv p4, iv p5, rv a6, iv (0 : Int32), iv p7, iv p8, iv p9, iv p10, .unset, .unset, .unset, .unset] [] target := by
  obtain ⟨T11, h11, k11, X11, e11, E11, A11, C11, st11⟩ := newPE X0 hx hZ (ow hw 4 rfl) e0 (g := (mkF m 75 #[iv p1, iv p2, iv p3, iv p4, iv p5, rv a6, iv (0 : Int32), iv p7, iv p8, iv p9, iv p10, .unset, .unset, .unset, .unset] [(.int (0 : Int32))])) rfl (hb hby at_75) rfl (by decide) (cap := 0) (by decide) (by decide) (by omega) (by omega) (ad := "[B") (by decide)
  obtain ⟨b11, g11⟩ : ∃ z, z = h0.size := ⟨_, rfl⟩
  rw [← g11] at A11 C11 st11
  have O_E11 : Old Z n0 h11 := O0.ext E11
  have Kp_E11 : Keep h0 h11 [] := (Keep.refl h0 []).ext E11
  have V11 : Arv Z h11 b11 k11 .byte (0 : Int32) [] (.int (0 : Int32)) := Arv.new A11 (by decide)
  have z12 : h0.size ≤ b11 := Nat.le_trans (Keep.refl h0 []).1 (Nat.le_of_eq g11.symm)
  refine ⟨T11, _, _, b11, k11, X11.more (by omega) (by omega), e11, N0, Kp_E11, z12, V11, C11, fun target kt => ?_⟩
  show St p e below T0 m 69 #[iv p1, iv p2, iv p3, iv p4, iv p5, rv a6, iv (0 : Int32), iv p7, iv p8, iv p9, iv p10, .unset, .unset, .unset, .unset] [] _
  refine XS.iload X0.here hx rfl (hb hby at_69) rfl ?_
  show St p e below T0 m 71 #[iv p1, iv p2, iv p3, iv p4, iv p5, rv a6, iv (0 : Int32), iv p7, iv p8, iv p9, iv p10, .unset, .unset, .unset, .unset] [(.int (0 : Int32))] _
  refine XS.ifNo X0.here hx rfl (hb hby at_71) rfl ((if0 _ _).trans (teq (rfl : (0 : Int32) = (0 : Int32))).2) ?_
  show St p e below T0 m 74 #[iv p1, iv p2, iv p3, iv p4, iv p5, rv a6, iv (0 : Int32), iv p7, iv p8, iv p9, iv p10, .unset, .unset, .unset, .unset] [] _
  refine XS.iconst X0.here hx rfl (hb hby at_74) ?_
  show St p e below T0 m 75 #[iv p1, iv p2, iv p3, iv p4, iv p5, rv a6, iv (0 : Int32), iv p7, iv p8, iv p9, iv p10, .unset, .unset, .unset, .unset] [(.int (0 : Int32))] _
  refine st11 _ ?_
  show St p e below T11 m 77 #[iv p1, iv p2, iv p3, iv p4, iv p5, rv a6, iv (0 : Int32), iv p7, iv p8, iv p9, iv p10, .unset, .unset, .unset, .unset] [(.ref b11)] _
  refine XS.astore X11.here hx rfl (hb hby at_77) rfl rfl (l' := #[iv p1, iv p2, iv p3, iv p4, iv p5, rv a6, iv (0 : Int32), iv p7, iv p8, iv p9, iv p10, rv b11, .unset, .unset, .unset]) rfl ?_
  show St p e below T11 m 79 #[iv p1, iv p2, iv p3, iv p4, iv p5, rv a6, iv (0 : Int32), iv p7, iv p8, iv p9, iv p10, rv b11, .unset, .unset, .unset] [] _
  refine XS.goto X11.here hx rfl (pc0 := 79) (pc' := 145) rfl (hb hby at_79) (by decide) (by decide) ?_
  exact kt
theorem d1_0 : decode prog_7_method_5_code 0 = .ok (.new 8, 3) := by decide +kernel
theorem d1_3 : decode prog_7_method_5_code 3 = .ok (.dup, 1) := by decide +kernel
theorem d1_4 : decode prog_7_method_5_code 4 = .ok (.aload_n 0, 1) := by decide +kernel
theorem d1_5 : decode prog_7_method_5_code 5 = .ok (.ldc 32, 2) := by decide +kernel
theorem strW : ∀ a ∈ Bundle.stringAtoms, a ∈ tables_1 := by decide +kernel
theorem d1_7 : decode prog_7_method_5_code 7 = .ok (.invokestatic 33, 3) := by decide +kernel
theorem d2_0 : decode jdk_31_method_11_code 0 = .ok (.aload_n 0, 1) := by decide +kernel
theorem d2_1 : decode jdk_31_method_11_code 1 = .ok (.ifnonnull 12, 3) := by decide +kernel
theorem d2_13 : decode jdk_31_method_11_code 13 = .ok (.aload_n 0, 1) := by decide +kernel
theorem d2_14 : decode jdk_31_method_11_code 14 = .ok (.areturn, 1) := by decide +kernel
abbrev y2 : MethodName := ⟨"java/util/Objects", "requireNonNull", "(Ljava/lang/Object;Ljava/lang/String;)Ljava/lang/Object;"⟩
theorem pn_java_util_Objects : plainName "java/util/Objects" = true := by first | (simp [plainName, overriddenIn]; done) | decide +kernel
def r2_1Q (Z : State) (a1 : Addr) (a2 : Addr) (h0 : Heap) (n0 : Nat) (v : Option Value) (h : Heap) (L : List Loc) : Prop := v = some (.ref a1) ∧ Fr n0 L ∧ h = h0
theorem r2_1e (m : MethodId) (a1 : Addr) (a2 : Addr) : entryFrame m #[(.ref a1), (.ref a2)] 2 = mkF m 0 #[rv a1, rv a2] [] := by first | (simp [entryFrame, mkF, argsToLocals, Value.category]; done) | rfl
set_option maxRecDepth 65536 in
set_option maxHeartbeats 40000000 in
theorem r2_1 (l : Launch) (Z : State) (a0 : Array Value) (hw : HW a0 Z) (ws : List Jvm.Cond) (a1 : Addr) (a2 : Addr) (h0 : Heap) (n0 : Nat) (O0 : Old Z n0 h0) :
    MF l y2 jdk_31_method_11_code 2 (some (.object "java/lang/Object")) ws ({ frames := 0, cells := 0, slots := 0, locals := 0 } : Room) Z #[(.ref a1), (.ref a2)] h0 (r2_1Q Z a1 a2 h0 n0) := by
  refine MetFree.of_bodySF (plainFor_of_name pn_java_util_Objects) hisR ?_
  intro p e s m args below meth c s₁ Bd hml0 hP hK
  obtain ⟨rfl, hZ, hh⟩ := hP
  have hx := Bd.exec
  have hby := Bd.bytes
  have hml : c.maxLocals = 2 := hml0
  have hown : s.vm.findClass "java/util/Objects" = some m.cls := findClass_of_methodNamed Bd.named
  have hnm := (name_of_methodNamed Bd.named Bd.method).1
  have X0 : Stand p l e ({ frames := 0, cells := 0, slots := 0, locals := 0 } : Room) s m #[(.ref a1), (.ref a2)] below meth c s₁ [] 0 0 := Stand.of_body Bd
  have e0 : s₁.heap = h0 := by rw [← hh, Bd.state]; rfl
  have N0 := Fr.nil n0
  have pre0 : ∀ t, Steps p.tables e below (s₁.setTop (mkF m 0 #[rv a1, rv a2] [])) t → Steps p.tables e below (s₁.setTop (entryFrame m #[(.ref a1), (.ref a2)] 2)) t := fun t k => castTop (r2_1e m a1 a2) k
  obtain ⟨fs, hr, hrun, hended, hW, hsame⟩ := X0.leave (v := some (.ref a1)) (fun h => by rw [Bd.returns] at h; cases h)
  refine ⟨_, _, pre0 _ ?_, hrun, hended, _, _, rfl, ?_, ⟨_, rfl⟩, hW, hsame.mono (by decide) (by decide)⟩
  · show St p e below s₁ m 0 #[rv a1, rv a2] [] _
    refine XS.aloadN X0.here hx rfl (hb hby d2_0) rfl rfl ?_
    show St p e below s₁ m 1 #[rv a1, rv a2] [(.ref a1)] _
    refine XS.ifnonnullYes X0.here hx rfl (pc0 := 1) (pc' := 13) rfl (hb hby d2_1) rfl (by decide) (by decide) ?_
    show St p e below s₁ m 13 #[rv a1, rv a2] [] _
    refine XS.aloadN X0.here hx rfl (hb hby d2_13) rfl rfl ?_
    show St p e below s₁ m 14 #[rv a1, rv a2] [(.ref a1)] _
    jvm_step X0.here [X0.here.top, hx, (hb hby d2_14), X0.method', Bd.returns, Value.isRef, FieldType.isReference]
    first | (intro acts; rw [hr _ acts rfl rfl rfl]) | rw [hr _ _ rfl rfl rfl]
    exact Steps.refl _
  · show r2_1Q Z a1 a2 h0 n0 _ s₁.heap _
    rw [e0]
    exact ⟨rfl, N0, rfl⟩
theorem pd__Ljava_lang_Object_Ljava_lang_String__Ljava_lang_Object_ : parseMethodDescriptor "(Ljava/lang/Object;Ljava/lang/String;)Ljava/lang/Object;" = some ⟨[(.object "java/lang/Object"), (.object "java/lang/String")], some (.object "java/lang/Object")⟩ := by decide +kernel
theorem d1_10 : decode prog_7_method_5_code 10 = .ok (.checkcast 18, 3) := by decide +kernel
theorem d1_13 : decode prog_7_method_5_code 13 = .ok (.aload_n 1, 1) := by decide +kernel
theorem d1_14 : decode prog_7_method_5_code 14 = .ok (.ldc 39, 2) := by decide +kernel
theorem d1_16 : decode prog_7_method_5_code 16 = .ok (.invokestatic 33, 3) := by decide +kernel
theorem d1_19 : decode prog_7_method_5_code 19 = .ok (.checkcast 40, 3) := by decide +kernel
theorem d1_22 : decode prog_7_method_5_code 22 = .ok (.invokevirtual 41, 3) := by decide +kernel
theorem d1_25 : decode prog_7_method_5_code 25 = .ok (.checkcast 40, 3) := by decide +kernel
theorem d1_28 : decode prog_7_method_5_code 28 = .ok (.invokespecial 45, 3) := by decide +kernel
theorem d3_0 : decode prog_7_method_1_code 0 = .ok (.aload_n 0, 1) := by decide +kernel
theorem d3_1 : decode prog_7_method_1_code 1 = .ok (.invokespecial 1, 3) := by decide +kernel
theorem d3_4 : decode prog_7_method_1_code 4 = .ok (.aload_n 0, 1) := by decide +kernel
theorem d3_5 : decode prog_7_method_1_code 5 = .ok (.aload_n 1, 1) := by decide +kernel
theorem d3_6 : decode prog_7_method_1_code 6 = .ok (.putfield 7, 3) := by decide +kernel
theorem d3_9 : decode prog_7_method_1_code 9 = .ok (.aload_n 0, 1) := by decide +kernel
theorem d3_10 : decode prog_7_method_1_code 10 = .ok (.aload_n 2, 1) := by decide +kernel
theorem d3_11 : decode prog_7_method_1_code 11 = .ok (.putfield 13, 3) := by decide +kernel
theorem d3_14 : decode prog_7_method_1_code 14 = .ok (.return_, 1) := by decide +kernel
abbrev y3 : MethodName := ⟨"com/example/nervous_key/nervouskey/Outcome", "<init>", "(Lcom/example/nervous_key/nervouskey/Outcome$Kind;[B)V"⟩
theorem pn_com_example_nervous_key_nervouskey_Outcome : plainName "com/example/nervous_key/nervouskey/Outcome" = true := by first | (simp [plainName, overriddenIn]; done) | decide +kernel
def r3_1Q (Z : State) (a1 : Addr) (a2 : Addr) (a3 : Addr) (h0 : Heap) (n0 : Nat) (v : Option Value) (h : Heap) (L : List Loc) : Prop := v = none ∧ Fr n0 L ∧ Keep h0 h [a1] ∧ Fld Z h a1 "com/example/nervous_key/nervouskey/Outcome" "kind" "Lcom/example/nervous_key/nervouskey/Outcome$Kind;" (.ref a2) ∧ Exa Z h a1 "com/example/nervous_key/nervouskey/Outcome" ∧ Fld Z h a1 "com/example/nervous_key/nervouskey/Outcome" "result" "[B" (.ref a3)
theorem r3_1e (m : MethodId) (a1 : Addr) (a2 : Addr) (a3 : Addr) : entryFrame m #[(.ref a1), (.ref a2), (.ref a3)] 3 = mkF m 0 #[rv a1, rv a2, rv a3] [] := by first | (simp [entryFrame, mkF, argsToLocals, Value.category]; done) | rfl
set_option maxRecDepth 65536 in
set_option maxHeartbeats 40000000 in
theorem r3_1 (l : Launch) (Z : State) (a0 : Array Value) (hw : HW a0 Z) (ws : List Jvm.Cond) (a1 : Addr) (a2 : Addr) (a3 : Addr) (h0 : Heap) (n0 : Nat) (O0 : Old Z n0 h0) (H5 : Fld Z h0 a1 "com/example/nervous_key/nervouskey/Outcome" "kind" "Lcom/example/nervous_key/nervouskey/Outcome$Kind;" .null) (H6 : Exa Z h0 a1 "com/example/nervous_key/nervouskey/Outcome") (H8 : n0 ≤ a1) (H11 : Fld Z h0 a1 "com/example/nervous_key/nervouskey/Outcome" "result" "[B" .null) :
    MF l y3 prog_7_method_1_code 3 none ws ({ frames := 1, cells := 0, slots := 0, locals := 12 } : Room) Z #[(.ref a1), (.ref a2), (.ref a3)] h0 (r3_1Q Z a1 a2 a3 h0 n0) := by
  refine MetFree.of_bodySF (plainFor_of_name pn_com_example_nervous_key_nervouskey_Outcome) hisR ?_
  intro p e s m args below meth c s₁ Bd hml0 hP hK
  obtain ⟨rfl, hZ, hh⟩ := hP
  have hx := Bd.exec
  have hby := Bd.bytes
  have hml : c.maxLocals = 3 := hml0
  have hown : s.vm.findClass "com/example/nervous_key/nervouskey/Outcome" = some m.cls := findClass_of_methodNamed Bd.named
  have hnm := (name_of_methodNamed Bd.named Bd.method).1
  have X0 : Stand p l e ({ frames := 1, cells := 0, slots := 0, locals := 12 } : Room) s m #[(.ref a1), (.ref a2), (.ref a3)] below meth c s₁ [] 0 0 := Stand.of_body Bd
  have e0 : s₁.heap = h0 := by rw [← hh, Bd.state]; rfl
  have N0 := Fr.nil n0
  have pre0 : ∀ t, Steps p.tables e below (s₁.setTop (mkF m 0 #[rv a1, rv a2, rv a3] [])) t → Steps p.tables e below (s₁.setTop (entryFrame m #[(.ref a1), (.ref a2), (.ref a3)] 3)) t := fun t k => castTop (r3_1e m a1 a2 a3) k
  obtain ⟨T4, X4, e4, st4⟩ := initO X0 hx hZ hown (ow hw 37 rfl) (ow hw 38 rfl) (ow hw 39 rfl) e0 (g := (mkF m 1 #[rv a1, rv a2, rv a3] [(.ref a1)])) rfl (by rw [hml]; rfl) rfl (hb hby d3_1) (by decide) (W := 0) (by show 2 * 0 + _ ≤ _; exact Nat.le_of_eq rfl) (by decide)
  obtain ⟨T7, h7, X7, e7, W7, st7⟩ := putF X4 hx hZ hown (host := "") (Or.inl (ow hw 40 rfl)) Via.refl e4 H5 H6 (Or.inr ⟨(ow hw 41 rfl), rfl, hnm⟩) (ow hw 10 rfl) (ty := (.object "com/example/nervous_key/nervouskey/Outcome$Kind")) (by decide) rfl rfl (g := (mkF m 6 #[rv a1, rv a2, rv a3] [(.ref a2), (.ref a1)])) rfl rfl (hb hby d3_6)
  have O_W7 : Old Z n0 h7 := O0.wr W7 H8
  have Kp_W7 : Keep h0 h7 [a1] := (Keep.refl h0 [a1]).wr W7 (Or.inl (List.mem_of_getElem? (i := 0) rfl))
  have N9 := Fr.snoc X7 N0 H8
  have f10 := H5.same W7
  have f12 := (H6.wr W7)
  have f13 := (H11.other W7 (Or.inr (slot_ne (Or.inr (ow hw 43 rfl)) (Or.inr (ow hw 41 rfl)) (by decide) (t := (.array .byte)) (t' := (.object "com/example/nervous_key/nervouskey/Outcome$Kind")) (by decide) (by decide))))
  obtain ⟨T14, h14, X14, e14, W14, st14⟩ := putF X7 hx hZ hown (host := "") (Or.inl (ow hw 42 rfl)) Via.refl e7 f13 f12 (Or.inr ⟨(ow hw 43 rfl), rfl, hnm⟩) (ow hw 10 rfl) (ty := (.array .byte)) (by decide) rfl rfl (g := (mkF m 11 #[rv a1, rv a2, rv a3] [(.ref a3), (.ref a1)])) rfl rfl (hb hby d3_11)
  have O_W14 : Old Z n0 h14 := O_W7.wr W14 H8
  have Kp_W14 : Keep h0 h14 [a1] := Kp_W7.wr W14 (Or.inl (List.mem_of_getElem? (i := 0) rfl))
  have N15 := Fr.snoc X14 N9 H8
  have f16 := f13.same W14
  have f17 := (f12.wr W14)
  have f18 := (f10.other W14 (Or.inr (slot_ne (Or.inr (ow hw 41 rfl)) (Or.inr (ow hw 43 rfl)) (by decide) (t := (.object "com/example/nervous_key/nervouskey/Outcome$Kind")) (t' := (.array .byte)) (by decide) (by decide))))
  obtain ⟨fs, hr, hrun, hended, hW, hsame⟩ := X14.leave (v := none) (fun _ => rfl)
  refine ⟨_, _, pre0 _ ?_, hrun, hended, _, _, rfl, ?_, ⟨_, rfl⟩, hW, hsame.mono (by decide) (by decide)⟩
  · show St p e below s₁ m 0 #[rv a1, rv a2, rv a3] [] _
    refine XS.aloadN X0.here hx rfl (hb hby d3_0) rfl rfl ?_
    show St p e below s₁ m 1 #[rv a1, rv a2, rv a3] [(.ref a1)] _
    refine st4 _ ?_
    show St p e below T4 m 4 #[rv a1, rv a2, rv a3] [] _
    refine XS.aloadN X4.here hx rfl (hb hby d3_4) rfl rfl ?_
    show St p e below T4 m 5 #[rv a1, rv a2, rv a3] [(.ref a1)] _
    refine XS.aloadN X4.here hx rfl (hb hby d3_5) rfl rfl ?_
    show St p e below T4 m 6 #[rv a1, rv a2, rv a3] [(.ref a2), (.ref a1)] _
    refine st7 _ ?_
    show St p e below T7 m 9 #[rv a1, rv a2, rv a3] [] _
    refine XS.aloadN X7.here hx rfl (hb hby d3_9) rfl rfl ?_
    show St p e below T7 m 10 #[rv a1, rv a2, rv a3] [(.ref a1)] _
    refine XS.aloadN X7.here hx rfl (hb hby d3_10) rfl rfl ?_
    show St p e below T7 m 11 #[rv a1, rv a2, rv a3] [(.ref a3), (.ref a1)] _
    refine st14 _ ?_
    show St p e below T14 m 14 #[rv a1, rv a2, rv a3] [] _
    exact X14.returnOut hx Bd.returns (hb hby d3_14) hr
  · show r3_1Q Z a1 a2 a3 h0 n0 _ T14.heap _
    rw [e14]
    exact ⟨rfl, N15, Kp_W14, f18, f17, f16⟩
theorem pd__Lcom_example_nervous_key_nervouskey_Outcome_Kind__B_V : parseMethodDescriptor "(Lcom/example/nervous_key/nervouskey/Outcome$Kind;[B)V" = some ⟨[(.object "com/example/nervous_key/nervouskey/Outcome$Kind"), (.array .byte)], none⟩ := by decide +kernel
theorem d1_31 : decode prog_7_method_5_code 31 = .ok (.areturn, 1) := by decide +kernel
abbrev y1 : MethodName := ⟨"com/example/nervous_key/nervouskey/Outcome", "of", "(Lcom/example/nervous_key/nervouskey/Outcome$Kind;[B)Lcom/example/nervous_key/nervouskey/Outcome;"⟩
def r1_1Q (Z : State) (a1 : Addr) (a2 : Addr) (k13 : ClassId) (h0 : Heap) (n0 : Nat) (v : Option Value) (h : Heap) (L : List Loc) : Prop := ∃ (b3 : Addr) (b16 : Addr), v = some (.ref b3) ∧ Fr n0 L ∧ Keep h0 h [] ∧ h0.size ≤ b3 ∧ h0.size ≤ b16 ∧ b3 ≠ b16 ∧ Exa Z h b3 "com/example/nervous_key/nervouskey/Outcome" ∧ Fld Z h b3 "com/example/nervous_key/nervouskey/Outcome" "kind" "Lcom/example/nervous_key/nervouskey/Outcome$Kind;" (.ref a1) ∧ Fld Z h b3 "com/example/nervous_key/nervouskey/Outcome" "result" "[B" (.ref b16) ∧ Arv Z h b16 k13 .byte (0 : Int32) [] (.int (0 : Int32)) ∧ Exa Z h b16 "[B"
theorem r1_1e (m : MethodId) (a1 : Addr) (a2 : Addr) (k13 : ClassId) : entryFrame m #[(.ref a1), (.ref a2)] 2 = mkF m 0 #[rv a1, rv a2] [] := by first | (simp [entryFrame, mkF, argsToLocals, Value.category]; done) | rfl
set_option maxRecDepth 65536 in
set_option maxHeartbeats 40000000 in
theorem r1_1 (l : Launch) (Z : State) (a0 : Array Value) (hw : HW a0 Z) (ws : List Jvm.Cond) (a1 : Addr) (a2 : Addr) (k13 : ClassId) (h0 : Heap) (n0 : Nat) (O0 : Old Z n0 h0) (H7 : Exa Z Z.heap a1 "com/example/nervous_key/nervouskey/Outcome$Kind") (H11 : Exa Z h0 a2 "[B") (H14 : Arv Z h0 a2 k13 .byte (0 : Int32) [] (.int (0 : Int32))) :
    MFS l y1 prog_7_method_5_code 2 (some (.object "com/example/nervous_key/nervouskey/Outcome")) ws ({ frames := 2, cells := 6, slots := 50, locals := 27 } : Room) Z #[(.ref a1), (.ref a2)] h0 (r1_1Q Z a1 a2 k13 h0 n0) := by
  refine MetFree.of_bodySF (plainFor_of_name pn_com_example_nervous_key_nervouskey_Outcome) hisR ?_
  intro p e s m args below meth c s₁ Bd hml0 hP hK
  obtain ⟨rfl, hZ, hh⟩ := hP
  have hx := Bd.exec
  have hby := Bd.bytes
  have hml : c.maxLocals = 2 := hml0
  have hown : s.vm.findClass "com/example/nervous_key/nervouskey/Outcome" = some m.cls := findClass_of_methodNamed Bd.named
  have hnm := (name_of_methodNamed Bd.named Bd.method).1
  have X0 : Stand p l e ({ frames := 2, cells := 6, slots := 50, locals := 27 } : Room) s m #[(.ref a1), (.ref a2)] below meth c s₁ [] 0 0 := Stand.of_body Bd
  have e0 : s₁.heap = h0 := by rw [← hh, Bd.state]; rfl
  have N0 := Fr.nil n0
  have pre0 : ∀ t, Steps p.tables e below (s₁.setTop (mkF m 0 #[rv a1, rv a2] [])) t → Steps p.tables e below (s₁.setTop (entryFrame m #[(.ref a1), (.ref a2)] 2)) t := fun t k => castTop (r1_1e m a1 a2 k13) k
  obtain ⟨T3, h3, X3, e3, E3, A3, D3, -, st3⟩ := newO X0 hx hZ hown (ow hw 9 rfl) (ow hw 10 rfl) (ow hw 7 rfl) e0 (g := (mkF m 0 #[rv a1, rv a2] [])) rfl (hb hby d1_0) (by decide) (by decide)
  obtain ⟨b3, g3⟩ : ∃ z, z = h0.size := ⟨_, rfl⟩
  rw [← g3] at A3 D3 st3
  have O_E3 : Old Z n0 h3 := O0.ext E3
  have Kp_E3 : Keep h0 h3 [] := (Keep.refl h0 []).ext E3
  obtain ⟨a4, T4, h4, kk4, X4, e4, E4, hS4, hk4, hZ4, hown4, st4⟩ := ldcS (s := s) (vm0 := s.vm) X3 hx hZ (own := "com/example/nervous_key/nervouskey/Outcome") hown (ow hw 11 rfl) (fun d hd => hw d (strW d hd)) e3 (State.WarmedH.since (State.WarmedH.refl s) 0) (Nat.zero_le _) (g := (mkF m 5 #[rv a1, rv a2] [(.ref a1), (.ref b3), (.ref b3)])) rfl (hb hby d1_5) (n := 16) (by decide) (by decide) (by decide) (by decide)
  have O_E4 : Old Z n0 h4 := O_E3.ext E4
  have Kp_E4 : Keep h0 h4 [] := Kp_E3.ext E4
  obtain ⟨_, _, ⟨T5, L5, k5, n5⟩, -, X5, ⟨Lc5, hQ5, l5, y5, z5⟩, st5⟩ := Jvm.LawKit.callS X4 hx (y := y2) hown4 (mvT hZ4 (ow hw 18 rfl)) (mvT hZ4 (ow hw 19 rfl)) (mvT hZ4 (ow hw 20 rfl)) (mvT hZ4 (ow hw 21 rfl)) (by decide) (backOf (W := 2) (r2_1 l Z a0 hw [] a1 a4 h4 n0 O_E4) hZ4 (ow hw 21 rfl) (ow hw 20 rfl) (by decide) (by decide)) (g := (mkF m 7 #[rv a1, rv a2] [(.ref a4), (.ref a1), (.ref b3), (.ref b3)])) rfl (by rw [hml]; rfl) (argsL := [(.ref a1), (.ref a4)]) (rest := [(.ref b3), (.ref b3)]) (lenOf pd__Ljava_lang_Object_Ljava_lang_String__Ljava_lang_Object_ rfl) rfl (by show 2 * 0 + _ ≤ _; exact Nat.le_of_eq rfl) (hb hby d1_7) (fun _ _ => ⟨rfl, e4, (by decide : 3 + 0 ≤ _), (by decide : 22 + 0 ≤ _)⟩)
  dsimp only [Pt.U, Pt.locs, Pt.cells, Pt.slots] at X5 l5 y5 z5 st5 hQ5
  subst l5 y5 z5
  obtain ⟨rfl, N5q, e5⟩ := hQ5
  have N5 := Fr.app N0 N5q
  obtain ⟨T6, X6, e6, st6⟩ := castY X5 hx hZ4 hown4 (ow hw 22 rfl) e5 (Ins.self (H7.ext O_E4.2)) (g := (mkF m 10 #[rv a1, rv a2] [(.ref a1), (.ref b3), (.ref b3)])) rfl rfl (hb hby d1_10)
  obtain ⟨a8, T8, h8, kk8, X8, e8, E8, hS8, hk8, hZ8, hown8, st8⟩ := ldcS (s := s) (vm0 := T4.vm) X6 hx hZ4 (own := "com/example/nervous_key/nervouskey/Outcome") hown4 (ow hw 24 rfl) (fun d hd => hw d (strW d hd)) e6 hS4 hk4 (g := (mkF m 14 #[rv a1, rv a2] [(.ref a2), (.ref a1), (.ref b3), (.ref b3)])) rfl (hb hby d1_14) (n := 24) (by decide) (by decide) (by decide) (by decide)
  have O_E8 : Old Z n0 h8 := O_E4.ext E8
  have Kp_E8 : Keep h0 h8 [] := Kp_E4.ext E8
  obtain ⟨_, _, ⟨T9, L9, k9, n9⟩, -, X9, ⟨Lc9, hQ9, l9, y9, z9⟩, st9⟩ := Jvm.LawKit.callS X8 hx (y := y2) hown8 (mvT hZ8 (ow hw 18 rfl)) (mvT hZ8 (ow hw 19 rfl)) (mvT hZ8 (ow hw 20 rfl)) (mvT hZ8 (ow hw 21 rfl)) (by decide) (backOf (W := 3) (r2_1 l Z a0 hw [] a2 a8 h8 n0 O_E8) hZ8 (ow hw 21 rfl) (ow hw 20 rfl) (by decide) (by decide)) (g := (mkF m 16 #[rv a1, rv a2] [(.ref a8), (.ref a2), (.ref a1), (.ref b3), (.ref b3)])) rfl (by rw [hml]; rfl) (argsL := [(.ref a2), (.ref a8)]) (rest := [(.ref a1), (.ref b3), (.ref b3)]) (lenOf pd__Ljava_lang_Object_Ljava_lang_String__Ljava_lang_Object_ rfl) rfl (by show 2 * 0 + _ ≤ _; exact Nat.le_of_eq rfl) (hb hby d1_16) (fun _ _ => ⟨rfl, e8, (by decide : 5 + 0 ≤ _), (by decide : 50 + 0 ≤ _)⟩)
  dsimp only [Pt.U, Pt.locs, Pt.cells, Pt.slots] at X9 l9 y9 z9 st9 hQ9
  subst l9 y9 z9
  obtain ⟨rfl, N9q, e9⟩ := hQ9
  have N9 := Fr.app N5 N9q
  have f12 := (((H11.ext E3).ext E4).ext E8)
  obtain ⟨T10, X10, e10, st10⟩ := castY X9 hx hZ8 hown8 (ow hw 25 rfl) e9 (Ins.self f12) (g := (mkF m 19 #[rv a1, rv a2] [(.ref a2), (.ref a1), (.ref b3), (.ref b3)])) rfl rfl (hb hby d1_19)
  have f15 := (((H14.ext E3).ext E4).ext E8)
  obtain ⟨T16, h16, X16, e16, E16, A16, C16, st16⟩ := cloneH X10 hx hZ8 hown8 (ow hw 27 rfl) (ow hw 28 rfl) (ow hw 32 rfl) (ow hw 30 rfl) (ow hw 31 rfl) (ow hw 33 rfl) e10 (Arv.arh f15) f12 (g := (mkF m 22 #[rv a1, rv a2] [(.ref a2), (.ref a1), (.ref b3), (.ref b3)])) rfl (by rw [hml]; rfl) rfl (hb hby d1_22) (by decide) (W := 3) (cap := 0) (by show 2 * 0 + _ ≤ _; exact Nat.le_of_eq rfl) (by decide) (by decide) (by decide) (by decide)
  obtain ⟨b16, g16⟩ : ∃ z, z = h8.size := ⟨_, rfl⟩
  rw [← g16] at A16 C16 st16
  have O_E16 : Old Z n0 h16 := O_E8.ext E16
  have Kp_E16 : Keep h0 h16 [] := Kp_E8.ext E16
  have V16 : Arv Z h16 b16 k13 .byte (0 : Int32) [] (.int (0 : Int32)) := A16
  obtain ⟨T17, X17, e17, st17⟩ := castY X16 hx hZ8 hown8 (ow hw 25 rfl) e16 (Ins.self C16) (g := (mkF m 25 #[rv a1, rv a2] [(.ref b16), (.ref a1), (.ref b3), (.ref b3)])) rfl rfl (hb hby d1_25)
  have f18 : Fld Z h3 b3 "com/example/nervous_key/nervouskey/Outcome" "kind" "Lcom/example/nervous_key/nervouskey/Outcome$Kind;" .null := D3 (Or.inr (ow hw 41 rfl)) (ty := (.object "com/example/nervous_key/nervouskey/Outcome$Kind")) (by decide)
  have f19 := (((f18.ext E4).ext E8).ext E16)
  have f20 := (((A3.ext E4).ext E8).ext E16)
  have g21 : n0 ≤ b3 := Nat.le_trans (Nat.le_trans (Nat.le_of_eq O0.1.symm) O0.2.1) (Nat.le_of_eq g3.symm)
  have f22 : Fld Z h3 b3 "com/example/nervous_key/nervouskey/Outcome" "result" "[B" .null := D3 (Or.inr (ow hw 43 rfl)) (ty := (.array .byte)) (by decide)
  have f23 := (((f22.ext E4).ext E8).ext E16)
  obtain ⟨_, _, ⟨T24, L24, k24, n24⟩, -, X24, ⟨Lc24, hQ24, l24, y24, z24⟩, st24⟩ := X17.specialBack hx (y := y3) rfl hown8 (mvT hZ8 (ow hw 34 rfl)) (mvT hZ8 (ow hw 35 rfl)) (mvT hZ8 (ow hw 36 rfl)) (by decide) (backOf (W := 1) (r3_1 l Z a0 hw [] b3 a1 b16 h16 n0 O_E16 f19 f20 g21 f23) hZ8 (ow hw 36 rfl) (ow hw 7 rfl) (by decide) (by decide)) (g := (mkF m 28 #[rv a1, rv a2] [(.ref b16), (.ref a1), (.ref b3), (.ref b3)])) rfl (by rw [hml]; rfl) (Steps.refl _) (a := b3) (argsL := [(.ref a1), (.ref b16)]) (rest := [(.ref b3)]) (lenOf pd__Lcom_example_nervous_key_nervouskey_Outcome_Kind__B_V rfl) rfl (by show 2 * 0 + _ ≤ _; exact Nat.le_of_eq rfl) (hb hby d1_28) (fun _ _ => ⟨rfl, e17, (by decide : 6 + 0 ≤ _), (by decide : 50 + 0 ≤ _)⟩)
  dsimp only [Pt.U, Pt.locs, Pt.cells, Pt.slots] at X24 l24 y24 z24 st24 hQ24
  subst l24 y24 z24
  obtain ⟨rfl, N24q, K24, f24_1, f24_2, f24_3⟩ := hQ24
  have N24 := Fr.app N9 N24q
  have z25 : h0.size ≤ b3 := Nat.le_trans (Keep.refl h0 []).1 (Nat.le_of_eq g3.symm)
  have O_K24 : Old Z n0 T24.heap := O_E16.keep K24 (allS g21 all0)
  have Kp_K24 : Keep h0 T24.heap [] := Kp_E16.trans K24 (allS (Or.inr z25) all0)
  have z26 : h0.size ≤ b16 := Nat.le_trans Kp_E8.1 (Nat.le_of_eq g16.symm)
  have ne27 : b3 ≠ b16 := Nat.ne_of_lt (Nat.lt_of_lt_of_le ((A3.ext E4).ext E8).lt (Nat.le_of_eq g16.symm))
  have f28 := (V16.keep K24 (ninS (Ne.symm ne27) nin0))
  have f29 := (C16.keep K24)
  obtain ⟨fs, hr, hrun, hended, hE⟩ := Stand.leaveW (s := s) (vm₁ := T8.vm) X24 hS8 (Nat.le_trans (Nat.le_trans hk8 E16.1) K24.1) (v := some (.ref b3)) (fun h => by rw [Bd.returns] at h; cases h)
  refine ⟨_, _, pre0 _ ?_, hrun, hended, _, _, rfl, ?_, hE.1, hE.2.1, hE.2.2.1, hE.2.2.2.mono (by decide) (by decide)⟩
  · show St p e below s₁ m 0 #[rv a1, rv a2] [] _
    refine st3 _ ?_
    show St p e below T3 m 3 #[rv a1, rv a2] [(.ref b3)] _
    refine XS.dup X3.here hx rfl (hb hby d1_3) rfl rfl ?_
    show St p e below T3 m 4 #[rv a1, rv a2] [(.ref b3), (.ref b3)] _
    refine XS.aloadN X3.here hx rfl (hb hby d1_4) rfl rfl ?_
    show St p e below T3 m 5 #[rv a1, rv a2] [(.ref a1), (.ref b3), (.ref b3)] _
    refine st4 _ ?_
    show St p e below T4 m 7 #[rv a1, rv a2] [(.ref a4), (.ref a1), (.ref b3), (.ref b3)] _
    refine st5 _ ?_
    show St p e below T5 m 10 #[rv a1, rv a2] [(.ref a1), (.ref b3), (.ref b3)] _
    refine st6 _ ?_
    show St p e below T6 m 13 #[rv a1, rv a2] [(.ref a1), (.ref b3), (.ref b3)] _
    refine XS.aloadN X6.here hx rfl (hb hby d1_13) rfl rfl ?_
    show St p e below T6 m 14 #[rv a1, rv a2] [(.ref a2), (.ref a1), (.ref b3), (.ref b3)] _
    refine st8 _ ?_
    show St p e below T8 m 16 #[rv a1, rv a2] [(.ref a8), (.ref a2), (.ref a1), (.ref b3), (.ref b3)] _
    refine st9 _ ?_
    show St p e below T9 m 19 #[rv a1, rv a2] [(.ref a2), (.ref a1), (.ref b3), (.ref b3)] _
    refine st10 _ ?_
    show St p e below T10 m 22 #[rv a1, rv a2] [(.ref a2), (.ref a1), (.ref b3), (.ref b3)] _
    refine st16 _ ?_
    show St p e below T16 m 25 #[rv a1, rv a2] [(.ref b16), (.ref a1), (.ref b3), (.ref b3)] _
    refine st17 _ ?_
    show St p e below T17 m 28 #[rv a1, rv a2] [(.ref b16), (.ref a1), (.ref b3), (.ref b3)] _
    refine st24.trans ?_
    show St p e below T24 m 31 #[rv a1, rv a2] [(.ref b3)] _
    jvm_step X24.here [X24.here.top, hx, (hb hby d1_31), X24.method', Bd.returns, Value.isRef, FieldType.isReference]
    first | (intro acts; rw [hr _ acts rfl rfl rfl]) | rw [hr _ _ rfl rfl rfl]
    exact Steps.refl _
  · show r1_1Q Z a1 a2 k13 h0 n0 _ T24.heap _
    exact ⟨b3, b16, rfl, N24, Kp_K24, z25, z26, ne27, f24_2, f24_1, f24_3, f28, f29⟩
theorem pd__Lcom_example_nervous_key_nervouskey_Outcome_Kind__B_Lcom_example_nervous_key_nervouskey_Outcome_ : parseMethodDescriptor "(Lcom/example/nervous_key/nervouskey/Outcome$Kind;[B)Lcom/example/nervous_key/nervouskey/Outcome;" = some ⟨[(.object "com/example/nervous_key/nervouskey/Outcome$Kind"), (.array .byte)], some (.object "com/example/nervous_key/nervouskey/Outcome")⟩ := by decide +kernel
theorem d4_0 : decode prog_7_method_6_code 0 = .ok (.aload_n 0, 1) := by decide +kernel
theorem d4_1 : decode prog_7_method_6_code 1 = .ok (.getfield 7, 3) := by decide +kernel
theorem d4_4 : decode prog_7_method_6_code 4 = .ok (.areturn, 1) := by decide +kernel
abbrev y4 : MethodName := ⟨"com/example/nervous_key/nervouskey/Outcome", "kind", "()Lcom/example/nervous_key/nervouskey/Outcome$Kind;"⟩
def r4_1Q (Z : State) (a1 : Addr) (a2 : Addr) (h0 : Heap) (n0 : Nat) (v : Option Value) (h : Heap) (L : List Loc) : Prop := v = some (.ref a2) ∧ Fr n0 L ∧ h = h0
theorem r4_1e (m : MethodId) (a1 : Addr) (a2 : Addr) : entryFrame m #[(.ref a1)] 1 = mkF m 0 #[rv a1] [] := by first | (simp [entryFrame, mkF, argsToLocals, Value.category]; done) | rfl
set_option maxRecDepth 65536 in
set_option maxHeartbeats 40000000 in
theorem r4_1 (l : Launch) (Z : State) (a0 : Array Value) (hw : HW a0 Z) (ws : List Jvm.Cond) (a1 : Addr) (a2 : Addr) (h0 : Heap) (n0 : Nat) (O0 : Old Z n0 h0) (H3 : Fld Z h0 a1 "com/example/nervous_key/nervouskey/Outcome" "kind" "Lcom/example/nervous_key/nervouskey/Outcome$Kind;" (.ref a2)) :
    MF l y4 prog_7_method_6_code 1 (some (.object "com/example/nervous_key/nervouskey/Outcome$Kind")) ws ({ frames := 0, cells := 0, slots := 0, locals := 0 } : Room) Z #[(.ref a1)] h0 (r4_1Q Z a1 a2 h0 n0) := by
  refine MetFree.of_bodySF (plainFor_of_name pn_com_example_nervous_key_nervouskey_Outcome) hisR ?_
  intro p e s m args below meth c s₁ Bd hml0 hP hK
  obtain ⟨rfl, hZ, hh⟩ := hP
  have hx := Bd.exec
  have hby := Bd.bytes
  have hml : c.maxLocals = 1 := hml0
  have hown : s.vm.findClass "com/example/nervous_key/nervouskey/Outcome" = some m.cls := findClass_of_methodNamed Bd.named
  have hnm := (name_of_methodNamed Bd.named Bd.method).1
  have X0 : Stand p l e ({ frames := 0, cells := 0, slots := 0, locals := 0 } : Room) s m #[(.ref a1)] below meth c s₁ [] 0 0 := Stand.of_body Bd
  have e0 : s₁.heap = h0 := by rw [← hh, Bd.state]; rfl
  have N0 := Fr.nil n0
  have pre0 : ∀ t, Steps p.tables e below (s₁.setTop (mkF m 0 #[rv a1] [])) t → Steps p.tables e below (s₁.setTop (entryFrame m #[(.ref a1)] 1)) t := fun t k => castTop (r4_1e m a1 a2) k
  obtain ⟨T4, X4, e4, st4⟩ := getF X0 hx hZ hown (host := "") (Or.inl (ow hw 40 rfl)) Via.refl e0 H3 (g := (mkF m 1 #[rv a1] [(.ref a1)])) rfl rfl (hb hby d4_1)
  obtain ⟨fs, hr, hrun, hended, hW, hsame⟩ := X4.leave (v := some (.ref a2)) (fun h => by rw [Bd.returns] at h; cases h)
  refine ⟨_, _, pre0 _ ?_, hrun, hended, _, _, rfl, ?_, ⟨_, rfl⟩, hW, hsame.mono (by decide) (by decide)⟩
  · show St p e below s₁ m 0 #[rv a1] [] _
    refine XS.aloadN X0.here hx rfl (hb hby d4_0) rfl rfl ?_
    show St p e below s₁ m 1 #[rv a1] [(.ref a1)] _
    refine st4 _ ?_
    show St p e below T4 m 4 #[rv a1] [(.ref a2)] _
    jvm_step X4.here [X4.here.top, hx, (hb hby d4_4), X4.method', Bd.returns, Value.isRef, FieldType.isReference]
    first | (intro acts; rw [hr _ acts rfl rfl rfl]) | rw [hr _ _ rfl rfl rfl]
    exact Steps.refl _
  · show r4_1Q Z a1 a2 h0 n0 _ T4.heap _
    rw [e4]
    exact ⟨rfl, N0, rfl⟩
theorem pd___Lcom_example_nervous_key_nervouskey_Outcome_Kind_ : parseMethodDescriptor "()Lcom/example/nervous_key/nervouskey/Outcome$Kind;" = some ⟨[], some (.object "com/example/nervous_key/nervouskey/Outcome$Kind")⟩ := by decide +kernel
theorem d5_0 : decode prog_7_method_7_code 0 = .ok (.aload_n 0, 1) := by decide +kernel
theorem d5_1 : decode prog_7_method_7_code 1 = .ok (.getfield 13, 3) := by decide +kernel
theorem d5_4 : decode prog_7_method_7_code 4 = .ok (.invokevirtual 41, 3) := by decide +kernel
theorem d5_7 : decode prog_7_method_7_code 7 = .ok (.checkcast 40, 3) := by decide +kernel
theorem d5_10 : decode prog_7_method_7_code 10 = .ok (.areturn, 1) := by decide +kernel
abbrev y5 : MethodName := ⟨"com/example/nervous_key/nervouskey/Outcome", "result", "()[B"⟩
def r5_1Q (Z : State) (a1 : Addr) (a2 : Addr) (k5 : ClassId) (h0 : Heap) (n0 : Nat) (v : Option Value) (h : Heap) (L : List Loc) : Prop := ∃ (b8 : Addr), v = some (.ref b8) ∧ Fr n0 L ∧ Keep h0 h [] ∧ h0.size ≤ b8 ∧ Arv Z h b8 k5 .byte (0 : Int32) [] (.int (0 : Int32)) ∧ Exa Z h b8 "[B"
theorem r5_1e (m : MethodId) (a1 : Addr) (a2 : Addr) (k5 : ClassId) : entryFrame m #[(.ref a1)] 1 = mkF m 0 #[rv a1] [] := by first | (simp [entryFrame, mkF, argsToLocals, Value.category]; done) | rfl
set_option maxRecDepth 65536 in
set_option maxHeartbeats 40000000 in
theorem r5_1 (l : Launch) (Z : State) (a0 : Array Value) (hw : HW a0 Z) (ws : List Jvm.Cond) (a1 : Addr) (a2 : Addr) (k5 : ClassId) (h0 : Heap) (n0 : Nat) (O0 : Old Z n0 h0) (H3 : Fld Z h0 a1 "com/example/nervous_key/nervouskey/Outcome" "result" "[B" (.ref a2)) (H6 : Arv Z h0 a2 k5 .byte (0 : Int32) [] (.int (0 : Int32))) (H7 : Exa Z h0 a2 "[B") :
    MF l y5 prog_7_method_7_code 1 (some (.array .byte)) ws ({ frames := 1, cells := 1, slots := 0, locals := 14 } : Room) Z #[(.ref a1)] h0 (r5_1Q Z a1 a2 k5 h0 n0) := by
  refine MetFree.of_bodySF (plainFor_of_name pn_com_example_nervous_key_nervouskey_Outcome) hisR ?_
  intro p e s m args below meth c s₁ Bd hml0 hP hK
  obtain ⟨rfl, hZ, hh⟩ := hP
  have hx := Bd.exec
  have hby := Bd.bytes
  have hml : c.maxLocals = 1 := hml0
  have hown : s.vm.findClass "com/example/nervous_key/nervouskey/Outcome" = some m.cls := findClass_of_methodNamed Bd.named
  have hnm := (name_of_methodNamed Bd.named Bd.method).1
  have X0 : Stand p l e ({ frames := 1, cells := 1, slots := 0, locals := 14 } : Room) s m #[(.ref a1)] below meth c s₁ [] 0 0 := Stand.of_body Bd
  have e0 : s₁.heap = h0 := by rw [← hh, Bd.state]; rfl
  have N0 := Fr.nil n0
  have pre0 : ∀ t, Steps p.tables e below (s₁.setTop (mkF m 0 #[rv a1] [])) t → Steps p.tables e below (s₁.setTop (entryFrame m #[(.ref a1)] 1)) t := fun t k => castTop (r5_1e m a1 a2 k5) k
  obtain ⟨T4, X4, e4, st4⟩ := getF X0 hx hZ hown (host := "") (Or.inl (ow hw 42 rfl)) Via.refl e0 H3 (g := (mkF m 1 #[rv a1] [(.ref a1)])) rfl rfl (hb hby d5_1)
  obtain ⟨T8, h8, X8, e8, E8, A8, C8, st8⟩ := cloneH X4 hx hZ hown (ow hw 27 rfl) (ow hw 28 rfl) (ow hw 32 rfl) (ow hw 30 rfl) (ow hw 31 rfl) (ow hw 33 rfl) e4 (Arv.arh H6) H7 (g := (mkF m 4 #[rv a1] [(.ref a2)])) rfl (by rw [hml]; rfl) rfl (hb hby d5_4) (by decide) (W := 0) (cap := 0) (by show 2 * 0 + _ ≤ _; exact Nat.le_of_eq rfl) (by decide) (by decide) (by decide) (by decide)
  obtain ⟨b8, g8⟩ : ∃ z, z = h0.size := ⟨_, rfl⟩
  rw [← g8] at A8 C8 st8
  have O_E8 : Old Z n0 h8 := O0.ext E8
  have Kp_E8 : Keep h0 h8 [] := (Keep.refl h0 []).ext E8
  have V8 : Arv Z h8 b8 k5 .byte (0 : Int32) [] (.int (0 : Int32)) := A8
  obtain ⟨T9, X9, e9, st9⟩ := castY X8 hx hZ hown (ow hw 25 rfl) e8 (Ins.self C8) (g := (mkF m 7 #[rv a1] [(.ref b8)])) rfl rfl (hb hby d5_7)
  have z10 : h0.size ≤ b8 := Nat.le_trans (Keep.refl h0 []).1 (Nat.le_of_eq g8.symm)
  obtain ⟨fs, hr, hrun, hended, hW, hsame⟩ := X9.leave (v := some (.ref b8)) (fun h => by rw [Bd.returns] at h; cases h)
  refine ⟨_, _, pre0 _ ?_, hrun, hended, _, _, rfl, ?_, ⟨_, rfl⟩, hW, hsame.mono (by decide) (by decide)⟩
  · show St p e below s₁ m 0 #[rv a1] [] _
    refine XS.aloadN X0.here hx rfl (hb hby d5_0) rfl rfl ?_
    show St p e below s₁ m 1 #[rv a1] [(.ref a1)] _
    refine st4 _ ?_
    show St p e below T4 m 4 #[rv a1] [(.ref a2)] _
    refine st8 _ ?_
    show St p e below T8 m 7 #[rv a1] [(.ref b8)] _
    refine st9 _ ?_
    show St p e below T9 m 10 #[rv a1] [(.ref b8)] _
    jvm_step X9.here [X9.here.top, hx, (hb hby d5_10), X9.method', Bd.returns, Value.isRef, FieldType.isReference]
    first | (intro acts; rw [hr _ acts rfl rfl rfl]) | rw [hr _ _ rfl rfl rfl]
    exact Steps.refl _
  · show r5_1Q Z a1 a2 k5 h0 n0 _ T9.heap _
    rw [e9]
    exact ⟨b8, rfl, N0, Kp_E8, z10, V8, C8⟩
theorem pd____B : parseMethodDescriptor "()[B" = some ⟨[], some (.array .byte)⟩ := by decide +kernel
theorem d6_0 : decode method_2_code 0 = .ok (.aload_n 0, 1) := by decide +kernel
theorem d6_1 : decode method_2_code 1 = .ok (.ifnonnull 5, 3) := by decide +kernel
theorem d6_6 : decode method_2_code 6 = .ok (.aload_n 0, 1) := by decide +kernel
theorem d6_7 : decode method_2_code 7 = .ok (.arraylength, 1) := by decide +kernel
theorem d6_8 : decode method_2_code 8 = .ok (.iload_n 1, 1) := by decide +kernel
theorem d6_9 : decode method_2_code 9 = .ok (.if_icmp .eq 5, 3) := by decide +kernel
theorem d6_14 : decode method_2_code 14 = .ok (.iload_n 1, 1) := by decide +kernel
theorem d6_15 : decode method_2_code 15 = .ok (.iconst 1, 1) := by decide +kernel
theorem d6_16 : decode method_2_code 16 = .ok (.if_icmp .lt 12, 3) := by decide +kernel
theorem d6_28 : decode method_2_code 28 = .ok (.iload_n 1, 1) := by decide +kernel
theorem d6_29 : decode method_2_code 29 = .ok (.iconst 2, 1) := by decide +kernel
theorem d6_30 : decode method_2_code 30 = .ok (.if_icmp .lt 12, 3) := by decide +kernel
theorem d6_42 : decode method_2_code 42 = .ok (.iload_n 1, 1) := by decide +kernel
theorem d6_43 : decode method_2_code 43 = .ok (.iconst 3, 1) := by decide +kernel
theorem d6_44 : decode method_2_code 44 = .ok (.if_icmp .lt 13, 3) := by decide +kernel
theorem d6_57 : decode method_2_code 57 = .ok (.iconst 1, 1) := by decide +kernel
theorem d6_58 : decode method_2_code 58 = .ok (.ireturn, 1) := by decide +kernel
abbrev y6 : MethodName := ⟨"com/example/nervous_key/nervouskey/OutcomeOfPinLaw", "same", "([BIBBB)Z"⟩
theorem pn_com_example_nervous_key_nervouskey_OutcomeOfPinLaw : plainName "com/example/nervous_key/nervouskey/OutcomeOfPinLaw" = true := by first | (simp [plainName, overriddenIn]; done) | decide +kernel
def r6_1Q (Z : State) (a1 : Addr) (p2 : Int32) (p3 : Int32) (p4 : Int32) (k5 : ClassId) (h0 : Heap) (n0 : Nat) (v : Option Value) (h : Heap) (L : List Loc) : Prop := v = some (.int (1 : Int32)) ∧ Fr n0 L ∧ h = h0
theorem r6_1e (m : MethodId) (a1 : Addr) (p2 : Int32) (p3 : Int32) (p4 : Int32) (k5 : ClassId) : entryFrame m #[(.ref a1), (.int (0 : Int32)), (.int p2), (.int p3), (.int p4)] 5 = mkF m 0 #[rv a1, iv (0 : Int32), iv p2, iv p3, iv p4] [] := by first | (simp [entryFrame, mkF, argsToLocals, Value.category]; done) | rfl
set_option maxRecDepth 65536 in
set_option maxHeartbeats 40000000 in
theorem r6_1 (l : Launch) (Z : State) (a0 : Array Value) (hw : HW a0 Z) (ws : List Jvm.Cond) (a1 : Addr) (p2 : Int32) (p3 : Int32) (p4 : Int32) (k5 : ClassId) (h0 : Heap) (n0 : Nat) (O0 : Old Z n0 h0) (H6 : Arv Z h0 a1 k5 .byte (0 : Int32) [] (.int (0 : Int32))) :
    MF l y6 method_2_code 5 (some .boolean) ws ({ frames := 0, cells := 0, slots := 0, locals := 0 } : Room) Z #[(.ref a1), (.int (0 : Int32)), (.int p2), (.int p3), (.int p4)] h0 (r6_1Q Z a1 p2 p3 p4 k5 h0 n0) := by
  refine MetFree.of_bodySF (plainFor_of_name pn_com_example_nervous_key_nervouskey_OutcomeOfPinLaw) hisR ?_
  intro p e s m args below meth c s₁ Bd hml0 hP hK
  obtain ⟨rfl, hZ, hh⟩ := hP
  have hx := Bd.exec
  have hby := Bd.bytes
  have hml : c.maxLocals = 5 := hml0
  have hown : s.vm.findClass "com/example/nervous_key/nervouskey/OutcomeOfPinLaw" = some m.cls := findClass_of_methodNamed Bd.named
  have hnm := (name_of_methodNamed Bd.named Bd.method).1
  have X0 : Stand p l e ({ frames := 0, cells := 0, slots := 0, locals := 0 } : Room) s m #[(.ref a1), (.int (0 : Int32)), (.int p2), (.int p3), (.int p4)] below meth c s₁ [] 0 0 := Stand.of_body Bd
  have e0 : s₁.heap = h0 := by rw [← hh, Bd.state]; rfl
  have N0 := Fr.nil n0
  have pre0 : ∀ t, Steps p.tables e below (s₁.setTop (mkF m 0 #[rv a1, iv (0 : Int32), iv p2, iv p3, iv p4] [])) t → Steps p.tables e below (s₁.setTop (entryFrame m #[(.ref a1), (.int (0 : Int32)), (.int p2), (.int p3), (.int p4)] 5)) t := fun t k => castTop (r6_1e m a1 p2 p3 p4 k5) k
  obtain ⟨cl7, Ar7, q7, S7, M7, H7, G7⟩ := id H6
  obtain ⟨fs, hr, hrun, hended, hW, hsame⟩ := X0.leave (v := some (.int (1 : Int32))) (fun h => by rw [Bd.returns] at h; cases h)
  refine ⟨_, _, pre0 _ ?_, hrun, hended, _, _, rfl, ?_, ⟨_, rfl⟩, hW, hsame.mono (by decide) (by decide)⟩
  · show St p e below s₁ m 0 #[rv a1, iv (0 : Int32), iv p2, iv p3, iv p4] [] _
    refine XS.aloadN X0.here hx rfl (hb hby d6_0) rfl rfl ?_
    show St p e below s₁ m 1 #[rv a1, iv (0 : Int32), iv p2, iv p3, iv p4] [(.ref a1)] _
    refine XS.ifnonnullYes X0.here hx rfl (pc0 := 1) (pc' := 6) rfl (hb hby d6_1) rfl (by decide) (by decide) ?_
    show St p e below s₁ m 6 #[rv a1, iv (0 : Int32), iv p2, iv p3, iv p4] [] _
    refine XS.aloadN X0.here hx rfl (hb hby d6_6) rfl rfl ?_
    show St p e below s₁ m 7 #[rv a1, iv (0 : Int32), iv p2, iv p3, iv p4] [(.ref a1)] _
    refine X0.arraylength hx (by rw [e0]; exact Ar7.1) (State.isArrayOf_alike hZ.alike Ar7.2.1) (g := (mkF m 7 #[rv a1, iv (0 : Int32), iv p2, iv p3, iv p4] [(.ref a1)])) rfl rfl (hb hby d6_7) _ ?_
    rw [len_of S7 M7]
    show St p e below s₁ m 8 #[rv a1, iv (0 : Int32), iv p2, iv p3, iv p4] [(.int (0 : Int32))] _
    refine XS.iloadN X0.here hx rfl (hb hby d6_8) rfl ?_
    show St p e below s₁ m 9 #[rv a1, iv (0 : Int32), iv p2, iv p3, iv p4] [(.int (0 : Int32)), (.int (0 : Int32))] _
    refine XS.icmpYes X0.here hx rfl (pc0 := 9) (pc' := 14) rfl (hb hby d6_9) rfl (teq (rfl : (0 : Int32) = (0 : Int32))).1 (by decide) (by decide) ?_
    show St p e below s₁ m 14 #[rv a1, iv (0 : Int32), iv p2, iv p3, iv p4] [] _
    refine XS.iloadN X0.here hx rfl (hb hby d6_14) rfl ?_
    show St p e below s₁ m 15 #[rv a1, iv (0 : Int32), iv p2, iv p3, iv p4] [(.int (0 : Int32))] _
    refine XS.iconst X0.here hx rfl (hb hby d6_15) ?_
    show St p e below s₁ m 16 #[rv a1, iv (0 : Int32), iv p2, iv p3, iv p4] [(.int (1 : Int32)), (.int (0 : Int32))] _
    refine XS.icmpYes X0.here hx rfl (pc0 := 16) (pc' := 28) rfl (hb hby d6_16) rfl (tlt (by decide : (0 : Int32) < (1 : Int32))).1 (by decide) (by decide) ?_
    show St p e below s₁ m 28 #[rv a1, iv (0 : Int32), iv p2, iv p3, iv p4] [] _
    refine XS.iloadN X0.here hx rfl (hb hby d6_28) rfl ?_
    show St p e below s₁ m 29 #[rv a1, iv (0 : Int32), iv p2, iv p3, iv p4] [(.int (0 : Int32))] _
    refine XS.iconst X0.here hx rfl (hb hby d6_29) ?_
    show St p e below s₁ m 30 #[rv a1, iv (0 : Int32), iv p2, iv p3, iv p4] [(.int (2 : Int32)), (.int (0 : Int32))] _
    refine XS.icmpYes X0.here hx rfl (pc0 := 30) (pc' := 42) rfl (hb hby d6_30) rfl (tlt (by decide : (0 : Int32) < (2 : Int32))).1 (by decide) (by decide) ?_
    show St p e below s₁ m 42 #[rv a1, iv (0 : Int32), iv p2, iv p3, iv p4] [] _
    refine XS.iloadN X0.here hx rfl (hb hby d6_42) rfl ?_
    show St p e below s₁ m 43 #[rv a1, iv (0 : Int32), iv p2, iv p3, iv p4] [(.int (0 : Int32))] _
    refine XS.iconst X0.here hx rfl (hb hby d6_43) ?_
    show St p e below s₁ m 44 #[rv a1, iv (0 : Int32), iv p2, iv p3, iv p4] [(.int (3 : Int32)), (.int (0 : Int32))] _
    refine XS.icmpYes X0.here hx rfl (pc0 := 44) (pc' := 57) rfl (hb hby d6_44) rfl (tlt (by decide : (0 : Int32) < (3 : Int32))).1 (by decide) (by decide) ?_
    show St p e below s₁ m 57 #[rv a1, iv (0 : Int32), iv p2, iv p3, iv p4] [] _
    refine XS.iconst X0.here hx rfl (hb hby d6_57) ?_
    show St p e below s₁ m 58 #[rv a1, iv (0 : Int32), iv p2, iv p3, iv p4] [(.int (1 : Int32))] _
    exact retN X0 hx (t := .boolean) Bd.returns (by simp) (hb hby d6_58) hr
  · show r6_1Q Z a1 p2 p3 p4 k5 h0 n0 _ s₁.heap _
    rw [e0]
    exact ⟨rfl, N0, rfl⟩
theorem pd___BIBBB_Z : parseMethodDescriptor "([BIBBB)Z" = some ⟨[(.array .byte), .int, .byte, .byte, .byte], some .boolean⟩ := by decide +kernel
set_option maxRecDepth 65536 in
set_option maxHeartbeats 40000000 in
theorem g0_2 {p : Program} {l : Launch} {e : Env} {R : Room} {s : State} {m : MethodId} {args : Array Value} {below : List Frame} {meth : Method} {c : Code} {T0 : State} {locs : List Loc} {cells slots : Nat} {Z : State} {a0 : Array Value} {h0 : Heap} {n0 : Nat} (p1 : Int32) (p2 : Int32) (p3 : Int32) (p4 : Int32) (p5 : Int32) (a6 : Addr) (p7 : Int32) (p8 : Int32) (p9 : Int32) (p10 : Int32) (a11 : Addr) (k14 : ClassId)
    (X0 : Stand p l e R s m args below meth c T0 locs cells slots) (hx : p.tables.exec = Jvm.exec) (hZ : Z.Warmed39 s.vm) (hw : HW a0 Z) (hby : c.code = code) (hml : c.maxLocals = 15) (hown : s.vm.findClass "com/example/nervous_key/nervouskey/OutcomeOfPinLaw" = some m.cls) (e0 : T0.heap = h0) (O0 : Old Z n0 h0) (N0 : Fr n0 locs) (rc : cells + 8 ≤ R.cells) (rs : slots + 50 ≤ R.slots) (rf : 3 ≤ R.frames) (rl : 40 ≤ R.locals) (H12 : Exa Z Z.heap a6 "com/example/nervous_key/nervouskey/Outcome$Kind") (H13 : Exa Z h0 a11 "[B") (H15 : Arv Z h0 a11 k14 .byte (0 : Int32) [] (.int (0 : Int32))) :
    ∃ (T' : State) (h' : Heap) (L' : List Loc) (vm' : Vm) (b16_0 : Addr) (b18_0 : Addr) (b25_0 : Addr) (b16_1 : Addr), Stand p l e R (s.setVm vm') m args below meth c T' L' (cells + 8) (slots + 50) ∧ T'.heap = h' ∧ s.Since vm' h'.size ∧ Fr n0 L' ∧ Keep h0 h' [] ∧ h0.size ≤ b16_0 ∧ h0.size ≤ b18_0 ∧ h0.size ≤ b25_0 ∧ h0.size ≤ b16_1 ∧ b16_0 ≠ b18_0 ∧ b16_0 ≠ b25_0 ∧ b16_0 ≠ b16_1 ∧ b18_0 ≠ b25_0 ∧ b18_0 ≠ b16_1 ∧ b25_0 ≠ b16_1 ∧ Exa Z h' b16_0 "com/example/nervous_key/nervouskey/Outcome" ∧ Fld Z h' b16_0 "com/example/nervous_key/nervouskey/Outcome" "kind" "Lcom/example/nervous_key/nervouskey/Outcome$Kind;" (.ref a6) ∧ Fld Z h' b16_0 "com/example/nervous_key/nervouskey/Outcome" "result" "[B" (.ref b16_1) ∧ Arv Z h' b18_0 k14 .byte (0 : Int32) [] (.int (0 : Int32)) ∧ Exa Z h' b18_0 "[B" ∧ Arv Z h' b25_0 k14 .byte (0 : Int32) [] (.int (0 : Int32)) ∧ Exa Z h' b25_0 "[B" ∧ Arv Z h' b16_1 k14 .byte (0 : Int32) [] (.int (0 : Int32)) ∧ Exa Z h' b16_1 "[B" ∧
      ∀ target, St p e below T' m 281 #[iv p1, iv p2, iv p3, iv p4, iv p5, rv a6, iv (0 : Int32), iv p7, iv p8, iv p9, iv p10, rv a11, rv b16_0, rv b18_0, rv b25_0] [] target → St p e below T0 m 145 #[iv p1, iv p2, iv p3, iv p4, iv p5, rv a6, iv (0 : Int32), iv p7, iv p8, iv p9, iv p10, rv a11, .unset, .unset, .unset] [] target := by
  obtain ⟨_, _, ⟨T16, L16, k16, n16⟩, -, X16, hSq16, hg16, ⟨Lc16, hQ16, l16, y16, z16⟩, st16⟩ := Jvm.RoadKit.callSS X0 hx (y := y1) hown (mvT hZ (ow hw 5 rfl)) (mvT hZ (ow hw 6 rfl)) (mvT hZ (ow hw 7 rfl)) (mvT hZ (ow hw 8 rfl)) (by decide) (backOfS (W := 0) (r1_1 l Z a0 hw [] a6 a11 k14 h0 n0 O0 H12 H13 H15) hZ (ow hw 8 rfl) (ow hw 7 rfl) (by show 2 + 1 ≤ R.frames; omega) (by show 0 + (2 + 11) + 27 ≤ R.locals; omega)) (g := (mkF m 149 #[iv p1, iv p2, iv p3, iv p4, iv p5, rv a6, iv (0 : Int32), iv p7, iv p8, iv p9, iv p10, rv a11, .unset, .unset, .unset] [(.ref a11), (.ref a6)])) rfl (by rw [hml]; rfl) (argsL := [(.ref a6), (.ref a11)]) (rest := []) (lenOf pd__Lcom_example_nervous_key_nervouskey_Outcome_Kind__B_Lcom_example_nervous_key_nervouskey_Outcome_ rfl) rfl (by show 2 * 0 + _ ≤ _; exact Nat.le_of_eq rfl) (hb hby at_149) (fun _ _ => ⟨rfl, e0, (by show cells + 0 + 6 ≤ R.cells; omega), (by show slots + 0 + 50 ≤ R.slots; omega)⟩)
  dsimp only [Pt.U, Pt.locs, Pt.cells, Pt.slots] at X16 l16 y16 z16 st16 hQ16
  subst l16
  rw [y16, z16] at X16
  obtain ⟨Y16, hS16, hZ16, hown16⟩ := rebS (s := s) (vm0 := s.vm) (State.WarmedH.since (State.WarmedH.refl s) 0) (by rw [e0]; exact (Nat.zero_le _)) X16 hSq16 hg16 hZ hown
  obtain ⟨b16_0, b16_1, rfl, N16q, K16, lo16_1, lo16_2, nq16_3, f16_4, f16_5, f16_6, f16_7, f16_8⟩ := hQ16
  have N16 := Fr.app N0 N16q
  have O_K16 : Old Z n0 T16.heap := O0.keep K16 all0
  have Kp_K16 : Keep h0 T16.heap [] := (Keep.refl h0 []).trans K16 all0
  replace Y16 : Stand p l e R _ m args below meth c T16 _ (cells + 6) (slots + 50) := Y16
  obtain ⟨cq17, kq17, q17a, q17b, q17c⟩ := isOf hZ16 rfl f16_4
  obtain ⟨_, _, ⟨T17, L17, k17, n17⟩, -, X17, ⟨Lc17, hQ17, l17, y17, z17⟩, st17⟩ := Y16.virtualBack hx (y := y4) (z := y4) hown16 (mvT hZ16 (ow hw 44 rfl)) (mvT hZ16 (ow hw 45 rfl)) (notFace_of_selects (args := #[]) (mvT hZ16 (ow hw 47 rfl))) (mvT hZ16 (ow hw 47 rfl)) (mvT hZ16 (ow hw 46 rfl)) (by decide) (backOf (W := 0) (r4_1 l Z a0 hw [] b16_0 a6 T16.heap n0 O_K16 f16_5) hZ16 (ow hw 48 rfl) (ow hw 7 rfl) (by show 0 + 1 ≤ R.frames; omega) (by show 0 + (1 + 11) + 0 ≤ R.locals; omega)) q17a q17c (g := (mkF m 179 #[iv p1, iv p2, iv p3, iv p4, iv p5, rv a6, iv (0 : Int32), iv p7, iv p8, iv p9, iv p10, rv a11, rv b16_0, .unset, .unset] [(.ref b16_0)])) rfl (by rw [hml]; rfl) (Steps.refl _) (argsL := []) (rest := []) (lenOf pd___Lcom_example_nervous_key_nervouskey_Outcome_Kind_ rfl) rfl (by show 2 * 0 + _ ≤ _; exact Nat.le_of_eq rfl) (hb hby at_179) (fun _ _ => ⟨rfl, rfl, (by show cells + 6 + 0 ≤ R.cells; omega), (by show slots + 50 + 0 ≤ R.slots; omega)⟩)
  dsimp only [Pt.U, Pt.locs, Pt.cells, Pt.slots] at X17 l17 y17 z17 st17 hQ17
  subst l17
  rw [y17, z17] at X17
  obtain ⟨rfl, N17q, e17⟩ := hQ17
  have N17 := Fr.app N16 N17q
  replace X17 : Stand p l e R _ m args below meth c T17 _ (cells + 6) (slots + 50) := X17
  obtain ⟨cq18, kq18, q18a, q18b, q18c⟩ := isOf hZ16 e17 f16_4
  obtain ⟨_, _, ⟨T18, L18, k18, n18⟩, -, X18, ⟨Lc18, hQ18, l18, y18, z18⟩, st18⟩ := X17.virtualBack hx (y := y5) (z := y5) hown16 (mvT hZ16 (ow hw 49 rfl)) (mvT hZ16 (ow hw 50 rfl)) (notFace_of_selects (args := #[]) (mvT hZ16 (ow hw 52 rfl))) (mvT hZ16 (ow hw 52 rfl)) (mvT hZ16 (ow hw 51 rfl)) (by decide) (backOf (W := 0) (r5_1 l Z a0 hw [] b16_0 b16_1 k14 T16.heap n0 O_K16 f16_6 f16_7 f16_8) hZ16 (ow hw 53 rfl) (ow hw 7 rfl) (by show 1 + 1 ≤ R.frames; omega) (by show 0 + (1 + 11) + 14 ≤ R.locals; omega)) q18a q18c (g := (mkF m 191 #[iv p1, iv p2, iv p3, iv p4, iv p5, rv a6, iv (0 : Int32), iv p7, iv p8, iv p9, iv p10, rv a11, rv b16_0, .unset, .unset] [(.ref b16_0)])) rfl (by rw [hml]; rfl) (Steps.refl _) (argsL := []) (rest := []) (lenOf pd____B rfl) rfl (by show 2 * 0 + _ ≤ _; exact Nat.le_of_eq rfl) (hb hby at_191) (fun _ _ => ⟨rfl, e17, (by show cells + 6 + 1 ≤ R.cells; omega), (by show slots + 50 + 0 ≤ R.slots; omega)⟩)
  dsimp only [Pt.U, Pt.locs, Pt.cells, Pt.slots] at X18 l18 y18 z18 st18 hQ18
  subst l18
  rw [y18, z18] at X18
  obtain ⟨b18_0, rfl, N18q, K18, lo18_1, f18_2, f18_3⟩ := hQ18
  have N18 := Fr.app N17 N18q
  have O_K18 : Old Z n0 T18.heap := O_K16.keep K18 all0
  have Kp_K18 : Keep h0 T18.heap [] := Kp_K16.trans K18 all0
  replace X18 : Stand p l e R _ m args below meth c T18 _ (cells + 7) (slots + 50) := X18
  have ne19 : a11 ≠ b18_0 := Nat.ne_of_lt (Nat.lt_of_lt_of_le (H13.keep K16).lt lo18_1)
  obtain ⟨_, _, ⟨T20, L20, k20, n20⟩, -, X20, ⟨Lc20, hQ20, l20, y20, z20⟩, st20⟩ := Jvm.LawKit.callS X18 hx (y := y6) hown16 (mvT hZ16 (ow hw 54 rfl)) (mvT hZ16 (ow hw 55 rfl)) (mvT hZ16 (ow hw 56 rfl)) (mvT hZ16 (ow hw 57 rfl)) (by decide) (backOf (W := 0) (r6_1 l Z a0 hw [] b18_0 p7 p8 p9 k14 T18.heap n0 O_K18 f18_2) hZ16 (ow hw 57 rfl) (ow hw 56 rfl) (by show 0 + 1 ≤ R.frames; omega) (by show 0 + (5 + 11) + 0 ≤ R.locals; omega)) (g := (mkF m 215 #[iv p1, iv p2, iv p3, iv p4, iv p5, rv a6, iv (0 : Int32), iv p7, iv p8, iv p9, iv p10, rv a11, rv b16_0, rv b18_0, .unset] [(.int p9), (.int p8), (.int p7), (.int (0 : Int32)), (.ref b18_0)])) rfl (by rw [hml]; rfl) (argsL := [(.ref b18_0), (.int (0 : Int32)), (.int p7), (.int p8), (.int p9)]) (rest := []) (lenOf pd___BIBBB_Z rfl) rfl (by show 2 * 0 + _ ≤ _; exact Nat.le_of_eq rfl) (hb hby at_215) (fun _ _ => ⟨rfl, rfl, (by show cells + 7 + 0 ≤ R.cells; omega), (by show slots + 50 + 0 ≤ R.slots; omega)⟩)
  dsimp only [Pt.U, Pt.locs, Pt.cells, Pt.slots] at X20 l20 y20 z20 st20 hQ20
  subst l20
  rw [y20, z20] at X20
  obtain ⟨rfl, N20q, e20⟩ := hQ20
  have N20 := Fr.app N18 N20q
  replace X20 : Stand p l e R _ m args below meth c T20 _ (cells + 7) (slots + 50) := X20
  have f21 := (f16_4.keep K18)
  have f22 := (f16_6.keep K18 nin0)
  have f23 := (f16_7.keep K18 nin0)
  have f24 := (f16_8.keep K18)
  obtain ⟨cq25, kq25, q25a, q25b, q25c⟩ := isOf hZ16 e20 f21
  obtain ⟨_, _, ⟨T25, L25, k25, n25⟩, -, X25, ⟨Lc25, hQ25, l25, y25, z25⟩, st25⟩ := X20.virtualBack hx (y := y5) (z := y5) hown16 (mvT hZ16 (ow hw 49 rfl)) (mvT hZ16 (ow hw 50 rfl)) (notFace_of_selects (args := #[]) (mvT hZ16 (ow hw 52 rfl))) (mvT hZ16 (ow hw 52 rfl)) (mvT hZ16 (ow hw 51 rfl)) (by decide) (backOf (W := 0) (r5_1 l Z a0 hw [] b16_0 b16_1 k14 T18.heap n0 O_K18 f22 f23 f24) hZ16 (ow hw 53 rfl) (ow hw 7 rfl) (by show 1 + 1 ≤ R.frames; omega) (by show 0 + (1 + 11) + 14 ≤ R.locals; omega)) q25a q25c (g := (mkF m 242 #[iv p1, iv p2, iv p3, iv p4, iv p5, rv a6, iv (0 : Int32), iv p7, iv p8, iv p9, iv p10, rv a11, rv b16_0, rv b18_0, .unset] [(.ref b16_0)])) rfl (by rw [hml]; rfl) (Steps.refl _) (argsL := []) (rest := []) (lenOf pd____B rfl) rfl (by show 2 * 0 + _ ≤ _; exact Nat.le_of_eq rfl) (hb hby at_242) (fun _ _ => ⟨rfl, e20, (by show cells + 7 + 1 ≤ R.cells; omega), (by show slots + 50 + 0 ≤ R.slots; omega)⟩)
  dsimp only [Pt.U, Pt.locs, Pt.cells, Pt.slots] at X25 l25 y25 z25 st25 hQ25
  subst l25
  rw [y25, z25] at X25
  obtain ⟨b25_0, rfl, N25q, K25, lo25_1, f25_2, f25_3⟩ := hQ25
  have N25 := Fr.app N20 N25q
  have O_K25 : Old Z n0 T25.heap := O_K18.keep K25 all0
  have Kp_K25 : Keep h0 T25.heap [] := Kp_K18.trans K25 all0
  replace X25 : Stand p l e R _ m args below meth c T25 _ (cells + 8) (slots + 50) := X25
  have ne26 : b18_0 ≠ b25_0 := Nat.ne_of_lt (Nat.lt_of_lt_of_le f18_3.lt lo25_1)
  have ne27 : a11 ≠ b25_0 := Nat.ne_of_lt (Nat.lt_of_lt_of_le ((H13.keep K16).keep K18).lt lo25_1)
  obtain ⟨_, _, ⟨T28, L28, k28, n28⟩, -, X28, ⟨Lc28, hQ28, l28, y28, z28⟩, st28⟩ := Jvm.LawKit.callS X25 hx (y := y6) hown16 (mvT hZ16 (ow hw 54 rfl)) (mvT hZ16 (ow hw 55 rfl)) (mvT hZ16 (ow hw 56 rfl)) (mvT hZ16 (ow hw 57 rfl)) (by decide) (backOf (W := 0) (r6_1 l Z a0 hw [] b25_0 p7 p8 p9 k14 T25.heap n0 O_K25 f25_2) hZ16 (ow hw 57 rfl) (ow hw 56 rfl) (by show 0 + 1 ≤ R.frames; omega) (by show 0 + (5 + 11) + 0 ≤ R.locals; omega)) (g := (mkF m 273 #[iv p1, iv p2, iv p3, iv p4, iv p5, rv a6, iv (0 : Int32), iv p7, iv p8, iv p9, iv p10, rv a11, rv b16_0, rv b18_0, rv b25_0] [(.int p9), (.int p8), (.int p7), (.int (0 : Int32)), (.ref b25_0)])) rfl (by rw [hml]; rfl) (argsL := [(.ref b25_0), (.int (0 : Int32)), (.int p7), (.int p8), (.int p9)]) (rest := []) (lenOf pd___BIBBB_Z rfl) rfl (by show 2 * 0 + _ ≤ _; exact Nat.le_of_eq rfl) (hb hby at_273) (fun _ _ => ⟨rfl, rfl, (by show cells + 8 + 0 ≤ R.cells; omega), (by show slots + 50 + 0 ≤ R.slots; omega)⟩)
  dsimp only [Pt.U, Pt.locs, Pt.cells, Pt.slots] at X28 l28 y28 z28 st28 hQ28
  subst l28
  rw [y28, z28] at X28
  obtain ⟨rfl, N28q, e28⟩ := hQ28
  have N28 := Fr.app N25 N28q
  replace X28 : Stand p l e R _ m args below meth c T28 _ (cells + 8) (slots + 50) := X28
  have z29 : h0.size ≤ b16_0 := Nat.le_trans (Keep.refl h0 []).1 lo16_1
  have z30 : h0.size ≤ b18_0 := Nat.le_trans Kp_K16.1 lo18_1
  have z31 : h0.size ≤ b25_0 := Nat.le_trans Kp_K18.1 lo25_1
  have z32 : h0.size ≤ b16_1 := Nat.le_trans (Keep.refl h0 []).1 lo16_2
  have ne33 : b16_0 ≠ b18_0 := Nat.ne_of_lt (Nat.lt_of_lt_of_le f16_4.lt lo18_1)
  have ne34 : b16_0 ≠ b25_0 := Nat.ne_of_lt (Nat.lt_of_lt_of_le f21.lt lo25_1)
  have ne35 : b16_1 ≠ b18_0 := Nat.ne_of_lt (Nat.lt_of_lt_of_le f16_8.lt lo18_1)
  have ne36 : b16_1 ≠ b25_0 := Nat.ne_of_lt (Nat.lt_of_lt_of_le f24.lt lo25_1)
  have f37 := (f21.keep K25)
  have f38 := ((f16_5.keep K18 nin0).keep K25 nin0)
  have f39 := (f22.keep K25 nin0)
  have f40 := (f18_2.keep K25 nin0)
  have f41 := (f18_3.keep K25)
  have f42 := (f23.keep K25 nin0)
  have f43 := (f24.keep K25)
  refine ⟨T28, _, _, T16.vm, b16_0, b18_0, b25_0, b16_1, X28.more (by omega) (by omega), e28, own_since hS16 (Nat.le_trans (Nat.le_trans (Nat.le_refl _) K18.1) K25.1), N28, Kp_K25, z29, z30, z31, z32, ne33, ne34, nq16_3, ne26, (Ne.symm ne35), (Ne.symm ne36), f37, f38, f39, f40, f41, f25_2, f25_3, f42, f43, fun target kt => ?_⟩
  show St p e below T0 m 145 #[iv p1, iv p2, iv p3, iv p4, iv p5, rv a6, iv (0 : Int32), iv p7, iv p8, iv p9, iv p10, rv a11, .unset, .unset, .unset] [] _
  refine XS.aload X0.here hx rfl (hb hby at_145) rfl rfl ?_
  show St p e below T0 m 147 #[iv p1, iv p2, iv p3, iv p4, iv p5, rv a6, iv (0 : Int32), iv p7, iv p8, iv p9, iv p10, rv a11, .unset, .unset, .unset] [(.ref a6)] _
  refine XS.aload X0.here hx rfl (hb hby at_147) rfl rfl ?_
  show St p e below T0 m 149 #[iv p1, iv p2, iv p3, iv p4, iv p5, rv a6, iv (0 : Int32), iv p7, iv p8, iv p9, iv p10, rv a11, .unset, .unset, .unset] [(.ref a11), (.ref a6)] _
  refine st16.trans ?_
  show St p e below T16 m 152 #[iv p1, iv p2, iv p3, iv p4, iv p5, rv a6, iv (0 : Int32), iv p7, iv p8, iv p9, iv p10, rv a11, .unset, .unset, .unset] [(.ref b16_0)] _
  refine XS.astore Y16.here hx rfl (hb hby at_152) rfl rfl (l' := #[iv p1, iv p2, iv p3, iv p4, iv p5, rv a6, iv (0 : Int32), iv p7, iv p8, iv p9, iv p10, rv a11, rv b16_0, .unset, .unset]) rfl ?_
  show St p e below T16 m 154 #[iv p1, iv p2, iv p3, iv p4, iv p5, rv a6, iv (0 : Int32), iv p7, iv p8, iv p9, iv p10, rv a11, rv b16_0, .unset, .unset] [] _
  refine XS.iload Y16.here hx rfl (hb hby at_154) rfl ?_
  show St p e below T16 m 156 #[iv p1, iv p2, iv p3, iv p4, iv p5, rv a6, iv (0 : Int32), iv p7, iv p8, iv p9, iv p10, rv a11, rv b16_0, .unset, .unset] [(.int (0 : Int32))] _
  refine XS.ifYes Y16.here hx rfl (pc0 := 156) (pc' := 177) rfl (hb hby at_156) rfl ((if0 _ _).trans (flt (by decide : ¬ ((0 : Int32) < (0 : Int32)))).2.2.2) (by decide) (by decide) ?_
  show St p e below T16 m 177 #[iv p1, iv p2, iv p3, iv p4, iv p5, rv a6, iv (0 : Int32), iv p7, iv p8, iv p9, iv p10, rv a11, rv b16_0, .unset, .unset] [] _
  refine XS.aload Y16.here hx rfl (hb hby at_177) rfl rfl ?_
  show St p e below T16 m 179 #[iv p1, iv p2, iv p3, iv p4, iv p5, rv a6, iv (0 : Int32), iv p7, iv p8, iv p9, iv p10, rv a11, rv b16_0, .unset, .unset] [(.ref b16_0)] _
  refine st17.trans ?_
  show St p e below T17 m 182 #[iv p1, iv p2, iv p3, iv p4, iv p5, rv a6, iv (0 : Int32), iv p7, iv p8, iv p9, iv p10, rv a11, rv b16_0, .unset, .unset] [(.ref a6)] _
  refine XS.aload X17.here hx rfl (hb hby at_182) rfl rfl ?_
  show St p e below T17 m 184 #[iv p1, iv p2, iv p3, iv p4, iv p5, rv a6, iv (0 : Int32), iv p7, iv p8, iv p9, iv p10, rv a11, rv b16_0, .unset, .unset] [(.ref a6), (.ref a6)] _
  refine Jvm.RoadKit.acmp (g := (mkF m 184 #[iv p1, iv p2, iv p3, iv p4, iv p5, rv a6, iv (0 : Int32), iv p7, iv p8, iv p9, iv p10, rv a11, rv b16_0, .unset, .unset] [(.ref a6), (.ref a6)])) X17 hx rfl rfl rfl (pc0 := 184) (pc' := 189) (same := true) rfl (hb hby at_184) rfl (decide_eq_true rfl) (by decide) (by decide) ?_
  show St p e below T17 m 189 #[iv p1, iv p2, iv p3, iv p4, iv p5, rv a6, iv (0 : Int32), iv p7, iv p8, iv p9, iv p10, rv a11, rv b16_0, .unset, .unset] [] _
  refine XS.aload X17.here hx rfl (hb hby at_189) rfl rfl ?_
  show St p e below T17 m 191 #[iv p1, iv p2, iv p3, iv p4, iv p5, rv a6, iv (0 : Int32), iv p7, iv p8, iv p9, iv p10, rv a11, rv b16_0, .unset, .unset] [(.ref b16_0)] _
  refine st18.trans ?_
  show St p e below T18 m 194 #[iv p1, iv p2, iv p3, iv p4, iv p5, rv a6, iv (0 : Int32), iv p7, iv p8, iv p9, iv p10, rv a11, rv b16_0, .unset, .unset] [(.ref b18_0)] _
  refine XS.astore X18.here hx rfl (hb hby at_194) rfl rfl (l' := #[iv p1, iv p2, iv p3, iv p4, iv p5, rv a6, iv (0 : Int32), iv p7, iv p8, iv p9, iv p10, rv a11, rv b16_0, rv b18_0, .unset]) rfl ?_
  show St p e below T18 m 196 #[iv p1, iv p2, iv p3, iv p4, iv p5, rv a6, iv (0 : Int32), iv p7, iv p8, iv p9, iv p10, rv a11, rv b16_0, rv b18_0, .unset] [] _
  refine XS.aload X18.here hx rfl (hb hby at_196) rfl rfl ?_
  show St p e below T18 m 198 #[iv p1, iv p2, iv p3, iv p4, iv p5, rv a6, iv (0 : Int32), iv p7, iv p8, iv p9, iv p10, rv a11, rv b16_0, rv b18_0, .unset] [(.ref b18_0)] _
  refine XS.aload X18.here hx rfl (hb hby at_198) rfl rfl ?_
  show St p e below T18 m 200 #[iv p1, iv p2, iv p3, iv p4, iv p5, rv a6, iv (0 : Int32), iv p7, iv p8, iv p9, iv p10, rv a11, rv b16_0, rv b18_0, .unset] [(.ref a11), (.ref b18_0)] _
  refine Jvm.RoadKit.acmp (g := (mkF m 200 #[iv p1, iv p2, iv p3, iv p4, iv p5, rv a6, iv (0 : Int32), iv p7, iv p8, iv p9, iv p10, rv a11, rv b16_0, rv b18_0, .unset] [(.ref a11), (.ref b18_0)])) X18 hx rfl rfl rfl (pc0 := 200) (pc' := 205) (same := false) rfl (hb hby at_200) rfl (decide_eq_false fun q => (Ne.symm ne19) (Value.ref.inj q)) (by decide) (by decide) ?_
  show St p e below T18 m 205 #[iv p1, iv p2, iv p3, iv p4, iv p5, rv a6, iv (0 : Int32), iv p7, iv p8, iv p9, iv p10, rv a11, rv b16_0, rv b18_0, .unset] [] _
  refine XS.aload X18.here hx rfl (hb hby at_205) rfl rfl ?_
  show St p e below T18 m 207 #[iv p1, iv p2, iv p3, iv p4, iv p5, rv a6, iv (0 : Int32), iv p7, iv p8, iv p9, iv p10, rv a11, rv b16_0, rv b18_0, .unset] [(.ref b18_0)] _
  refine XS.iload X18.here hx rfl (hb hby at_207) rfl ?_
  show St p e below T18 m 209 #[iv p1, iv p2, iv p3, iv p4, iv p5, rv a6, iv (0 : Int32), iv p7, iv p8, iv p9, iv p10, rv a11, rv b16_0, rv b18_0, .unset] [(.int (0 : Int32)), (.ref b18_0)] _
  refine XS.iload X18.here hx rfl (hb hby at_209) rfl ?_
  show St p e below T18 m 211 #[iv p1, iv p2, iv p3, iv p4, iv p5, rv a6, iv (0 : Int32), iv p7, iv p8, iv p9, iv p10, rv a11, rv b16_0, rv b18_0, .unset] [(.int p7), (.int (0 : Int32)), (.ref b18_0)] _
  refine XS.iload X18.here hx rfl (hb hby at_211) rfl ?_
  show St p e below T18 m 213 #[iv p1, iv p2, iv p3, iv p4, iv p5, rv a6, iv (0 : Int32), iv p7, iv p8, iv p9, iv p10, rv a11, rv b16_0, rv b18_0, .unset] [(.int p8), (.int p7), (.int (0 : Int32)), (.ref b18_0)] _
  refine XS.iload X18.here hx rfl (hb hby at_213) rfl ?_
  show St p e below T18 m 215 #[iv p1, iv p2, iv p3, iv p4, iv p5, rv a6, iv (0 : Int32), iv p7, iv p8, iv p9, iv p10, rv a11, rv b16_0, rv b18_0, .unset] [(.int p9), (.int p8), (.int p7), (.int (0 : Int32)), (.ref b18_0)] _
  refine st20 _ ?_
  show St p e below T20 m 218 #[iv p1, iv p2, iv p3, iv p4, iv p5, rv a6, iv (0 : Int32), iv p7, iv p8, iv p9, iv p10, rv a11, rv b16_0, rv b18_0, .unset] [(.int (1 : Int32))] _
  refine XS.ifYes X20.here hx rfl (pc0 := 218) (pc' := 223) rfl (hb hby at_218) rfl ((if0 _ _).trans (feq (by decide : ¬ ((1 : Int32) = (0 : Int32)))).2) (by decide) (by decide) ?_
  show St p e below T20 m 223 #[iv p1, iv p2, iv p3, iv p4, iv p5, rv a6, iv (0 : Int32), iv p7, iv p8, iv p9, iv p10, rv a11, rv b16_0, rv b18_0, .unset] [] _
  refine XS.iload X20.here hx rfl (hb hby at_223) rfl ?_
  show St p e below T20 m 225 #[iv p1, iv p2, iv p3, iv p4, iv p5, rv a6, iv (0 : Int32), iv p7, iv p8, iv p9, iv p10, rv a11, rv b16_0, rv b18_0, .unset] [(.int (0 : Int32))] _
  refine XS.ifYes X20.here hx rfl (pc0 := 225) (pc' := 240) rfl (hb hby at_225) rfl ((if0 _ _).trans (flt (by decide : ¬ ((0 : Int32) < (0 : Int32)))).2.2.2) (by decide) (by decide) ?_
  show St p e below T20 m 240 #[iv p1, iv p2, iv p3, iv p4, iv p5, rv a6, iv (0 : Int32), iv p7, iv p8, iv p9, iv p10, rv a11, rv b16_0, rv b18_0, .unset] [] _
  refine XS.aload X20.here hx rfl (hb hby at_240) rfl rfl ?_
  show St p e below T20 m 242 #[iv p1, iv p2, iv p3, iv p4, iv p5, rv a6, iv (0 : Int32), iv p7, iv p8, iv p9, iv p10, rv a11, rv b16_0, rv b18_0, .unset] [(.ref b16_0)] _
  refine st25.trans ?_
  show St p e below T25 m 245 #[iv p1, iv p2, iv p3, iv p4, iv p5, rv a6, iv (0 : Int32), iv p7, iv p8, iv p9, iv p10, rv a11, rv b16_0, rv b18_0, .unset] [(.ref b25_0)] _
  refine XS.astore X25.here hx rfl (hb hby at_245) rfl rfl (l' := #[iv p1, iv p2, iv p3, iv p4, iv p5, rv a6, iv (0 : Int32), iv p7, iv p8, iv p9, iv p10, rv a11, rv b16_0, rv b18_0, rv b25_0]) rfl ?_
  show St p e below T25 m 247 #[iv p1, iv p2, iv p3, iv p4, iv p5, rv a6, iv (0 : Int32), iv p7, iv p8, iv p9, iv p10, rv a11, rv b16_0, rv b18_0, rv b25_0] [] _
  refine XS.aload X25.here hx rfl (hb hby at_247) rfl rfl ?_
  show St p e below T25 m 249 #[iv p1, iv p2, iv p3, iv p4, iv p5, rv a6, iv (0 : Int32), iv p7, iv p8, iv p9, iv p10, rv a11, rv b16_0, rv b18_0, rv b25_0] [(.ref b25_0)] _
  refine XS.aload X25.here hx rfl (hb hby at_249) rfl rfl ?_
  show St p e below T25 m 251 #[iv p1, iv p2, iv p3, iv p4, iv p5, rv a6, iv (0 : Int32), iv p7, iv p8, iv p9, iv p10, rv a11, rv b16_0, rv b18_0, rv b25_0] [(.ref b18_0), (.ref b25_0)] _
  refine Jvm.RoadKit.acmp (g := (mkF m 251 #[iv p1, iv p2, iv p3, iv p4, iv p5, rv a6, iv (0 : Int32), iv p7, iv p8, iv p9, iv p10, rv a11, rv b16_0, rv b18_0, rv b25_0] [(.ref b18_0), (.ref b25_0)])) X25 hx rfl rfl rfl (pc0 := 251) (pc' := 254) (same := false) rfl (hb hby at_251) rfl (decide_eq_false fun q => (Ne.symm ne26) (Value.ref.inj q)) (by decide) (by decide) ?_
  show St p e below T25 m 254 #[iv p1, iv p2, iv p3, iv p4, iv p5, rv a6, iv (0 : Int32), iv p7, iv p8, iv p9, iv p10, rv a11, rv b16_0, rv b18_0, rv b25_0] [] _
  refine XS.aload X25.here hx rfl (hb hby at_254) rfl rfl ?_
  show St p e below T25 m 256 #[iv p1, iv p2, iv p3, iv p4, iv p5, rv a6, iv (0 : Int32), iv p7, iv p8, iv p9, iv p10, rv a11, rv b16_0, rv b18_0, rv b25_0] [(.ref b25_0)] _
  refine XS.aload X25.here hx rfl (hb hby at_256) rfl rfl ?_
  show St p e below T25 m 258 #[iv p1, iv p2, iv p3, iv p4, iv p5, rv a6, iv (0 : Int32), iv p7, iv p8, iv p9, iv p10, rv a11, rv b16_0, rv b18_0, rv b25_0] [(.ref a11), (.ref b25_0)] _
  refine Jvm.RoadKit.acmp (g := (mkF m 258 #[iv p1, iv p2, iv p3, iv p4, iv p5, rv a6, iv (0 : Int32), iv p7, iv p8, iv p9, iv p10, rv a11, rv b16_0, rv b18_0, rv b25_0] [(.ref a11), (.ref b25_0)])) X25 hx rfl rfl rfl (pc0 := 258) (pc' := 263) (same := false) rfl (hb hby at_258) rfl (decide_eq_false fun q => (Ne.symm ne27) (Value.ref.inj q)) (by decide) (by decide) ?_
  show St p e below T25 m 263 #[iv p1, iv p2, iv p3, iv p4, iv p5, rv a6, iv (0 : Int32), iv p7, iv p8, iv p9, iv p10, rv a11, rv b16_0, rv b18_0, rv b25_0] [] _
  refine XS.aload X25.here hx rfl (hb hby at_263) rfl rfl ?_
  show St p e below T25 m 265 #[iv p1, iv p2, iv p3, iv p4, iv p5, rv a6, iv (0 : Int32), iv p7, iv p8, iv p9, iv p10, rv a11, rv b16_0, rv b18_0, rv b25_0] [(.ref b25_0)] _
  refine XS.iload X25.here hx rfl (hb hby at_265) rfl ?_
  show St p e below T25 m 267 #[iv p1, iv p2, iv p3, iv p4, iv p5, rv a6, iv (0 : Int32), iv p7, iv p8, iv p9, iv p10, rv a11, rv b16_0, rv b18_0, rv b25_0] [(.int (0 : Int32)), (.ref b25_0)] _
  refine XS.iload X25.here hx rfl (hb hby at_267) rfl ?_
  show St p e below T25 m 269 #[iv p1, iv p2, iv p3, iv p4, iv p5, rv a6, iv (0 : Int32), iv p7, iv p8, iv p9, iv p10, rv a11, rv b16_0, rv b18_0, rv b25_0] [(.int p7), (.int (0 : Int32)), (.ref b25_0)] _
  refine XS.iload X25.here hx rfl (hb hby at_269) rfl ?_
  show St p e below T25 m 271 #[iv p1, iv p2, iv p3, iv p4, iv p5, rv a6, iv (0 : Int32), iv p7, iv p8, iv p9, iv p10, rv a11, rv b16_0, rv b18_0, rv b25_0] [(.int p8), (.int p7), (.int (0 : Int32)), (.ref b25_0)] _
  refine XS.iload X25.here hx rfl (hb hby at_271) rfl ?_
  show St p e below T25 m 273 #[iv p1, iv p2, iv p3, iv p4, iv p5, rv a6, iv (0 : Int32), iv p7, iv p8, iv p9, iv p10, rv a11, rv b16_0, rv b18_0, rv b25_0] [(.int p9), (.int p8), (.int p7), (.int (0 : Int32)), (.ref b25_0)] _
  refine st28 _ ?_
  show St p e below T28 m 276 #[iv p1, iv p2, iv p3, iv p4, iv p5, rv a6, iv (0 : Int32), iv p7, iv p8, iv p9, iv p10, rv a11, rv b16_0, rv b18_0, rv b25_0] [(.int (1 : Int32))] _
  refine XS.ifYes X28.here hx rfl (pc0 := 276) (pc' := 281) rfl (hb hby at_276) rfl ((if0 _ _).trans (feq (by decide : ¬ ((1 : Int32) = (0 : Int32)))).2) (by decide) (by decide) ?_
  exact kt
def law_1Q (Z : State) (wKind_SUCCESS : Addr) (wKind_RETRYABLE_FAILURE : Addr) (wKind_FINAL_FAILURE : Addr) (i0 : Int32) (i1 : Int32) (i2 : Int32) (i3 : Int32) (h0 : Heap) (n0 : Nat) (v : Option Value) (h : Heap) (L : List Loc) : Prop := v = some (.int (1 : Int32)) ∧ Fr n0 L
theorem law_1e (m : MethodId) (wKind_SUCCESS : Addr) (wKind_RETRYABLE_FAILURE : Addr) (wKind_FINAL_FAILURE : Addr) (i0 : Int32) (i1 : Int32) (i2 : Int32) (i3 : Int32) : entryFrame m #[(.int i0), (.int i1), (.int i2), (.int i3)] maxLocals = mkF m 0 #[iv i0, iv i1, iv i2, iv i3, .unset, .unset, .unset, .unset, .unset, .unset, .unset, .unset, .unset, .unset, .unset] [] := by first | (simp [entryFrame, mkF, argsToLocals, Value.category, maxLocals]; done) | rfl
set_option maxRecDepth 65536 in
set_option maxHeartbeats 40000000 in
theorem law_1 (l : Launch) (Z : State) (a0 : Array Value) (hw : HW a0 Z) (ws : List Jvm.Cond) (wKind_SUCCESS : Addr) (wKind_RETRYABLE_FAILURE : Addr) (wKind_FINAL_FAILURE : Addr) (B : Base Z wKind_SUCCESS wKind_RETRYABLE_FAILURE wKind_FINAL_FAILURE) (i0 : Int32) (i1 : Int32) (i2 : Int32) (i3 : Int32) (h0 : Heap) (n0 : Nat) (O0 : Old Z n0 h0) (pin0 : ((i0 &&& (2147483647 : Int32)) % (3 : Int32)) = (0 : Int32)) (pin1 : (i1 &&& (3 : Int32)) = (0 : Int32)) :
    MetFree l x (head1 (Jvm.Cond.code x code maxLocals ret :: ws) room_1) (fun a U => a = #[(.int i0), (.int i1), (.int i2), (.int i3)] ∧ Z.Warmed39 U.vm ∧ U.heap = h0) (fun _ _ _ _ _ => True) (fun _ U o U' => ∃ v L, o = .returned v ∧ law_1Q Z wKind_SUCCESS wKind_RETRYABLE_FAILURE wKind_FINAL_FAILURE i0 i1 i2 i3 h0 n0 v U'.heap L ∧ ReturnedEndW U o U' L room_1.cells room_1.slots) := by
  refine MetFree.of_bodySF (plainFor_of_name pn_com_example_nervous_key_nervouskey_OutcomeOfPinLaw) hisR ?_
  intro p e s m args below meth c s₁ Bd hml0 hP hK
  obtain ⟨rfl, hZ, hh⟩ := hP
  have hx := Bd.exec
  have hby := Bd.bytes
  have hml : c.maxLocals = 15 := hml0
  have hown : s.vm.findClass "com/example/nervous_key/nervouskey/OutcomeOfPinLaw" = some m.cls := findClass_of_methodNamed Bd.named
  have hnm := (name_of_methodNamed Bd.named Bd.method).1
  have X0 : Stand p l e room_1 s m #[(.int i0), (.int i1), (.int i2), (.int i3)] below meth c s₁ [] 0 0 := Stand.of_body Bd
  have e0 : s₁.heap = h0 := by rw [← hh, Bd.state]; rfl
  have N0 := Fr.nil n0
  have pre0 : ∀ t, Steps p.tables e below (s₁.setTop (mkF m 0 #[iv i0, iv i1, iv i2, iv i3, .unset, .unset, .unset, .unset, .unset, .unset, .unset, .unset, .unset, .unset, .unset] [])) t → Steps p.tables e below (s₁.setTop (entryFrame m #[(.int i0), (.int i1), (.int i2), (.int i3)] maxLocals)) t := fun t k => castTop (law_1e m wKind_SUCCESS wKind_RETRYABLE_FAILURE wKind_FINAL_FAILURE i0 i1 i2 i3) k
  obtain ⟨T1, X1, e1, st1⟩ := getS2 X0 hx hZ hown (host := "") (Or.inl (ow hw 1 rfl)) Via.refl e0 (B.1.ext O0.2) (g := (mkF m 13 #[iv i0, iv i1, iv i2, iv i3, iv (0 : Int32), .unset, .unset, .unset, .unset, .unset, .unset, .unset, .unset, .unset, .unset] [])) rfl (hb hby at_13)
  obtain ⟨T2, h2, L2, b2_0, k2_0, X2, e2, N2, K2, lo2_1, f2_2, f2_3, st2⟩ := g0_1 i0 i1 i2 i3 (0 : Int32) wKind_SUCCESS (i2.toInt8.toInt32) ((i2 >>> ((8 : Int32) &&& 31)).toInt8.toInt32) ((i2 >>> ((16 : Int32) &&& 31)).toInt8.toInt32) ((i3 ||| (1 : Int32)).toInt8.toInt32) X1 hx hZ hw hby hml hown e1 O0 N0 (by decide) (by decide) (by decide) (by decide)
  have O_K2 : Old Z n0 h2 := O0.keep K2 all0
  have Kp_K2 : Keep h0 h2 [] := (Keep.refl h0 []).trans K2 all0
  obtain ⟨T3, h3, L3, vm3, b3_0, b3_1, b3_2, b3_3, X3, e3, hSq3, N3, K3, lo3_1, lo3_2, lo3_3, lo3_4, nq3_5, nq3_6, nq3_7, nq3_8, nq3_9, nq3_10, f3_11, f3_12, f3_13, f3_14, f3_15, f3_16, f3_17, f3_18, f3_19, st3⟩ := g0_2 i0 i1 i2 i3 (0 : Int32) wKind_SUCCESS (i2.toInt8.toInt32) ((i2 >>> ((8 : Int32) &&& 31)).toInt8.toInt32) ((i2 >>> ((16 : Int32) &&& 31)).toInt8.toInt32) ((i3 ||| (1 : Int32)).toInt8.toInt32) b2_0 k2_0 X2 hx hZ hw hby hml hown e2 O_K2 N2 (by decide) (by decide) (by decide) (by decide) B.2.1 f2_3 f2_2
  obtain ⟨Y3, hS3, hZ3, hown3⟩ := rebS (s := s) (vm0 := s.vm) (State.WarmedH.since (State.WarmedH.refl s) 0) (Nat.zero_le _) X3 hSq3 K3.1 hZ hown
  have O_K3 : Old Z n0 h3 := O_K2.keep K3 all0
  have Kp_K3 : Keep h0 h3 [] := Kp_K2.trans K3 all0
  obtain ⟨cq4, kq4, q4a, q4b, q4c⟩ := isOf hZ3 e3 f3_11
  obtain ⟨_, _, ⟨T4, L4, k4, n4⟩, -, X4, ⟨Lc4, hQ4, l4, y4, z4⟩, st4⟩ := Y3.virtualBack hx (y := y4) (z := y4) hown3 (mvT hZ3 (ow hw 44 rfl)) (mvT hZ3 (ow hw 45 rfl)) (notFace_of_selects (args := #[]) (mvT hZ3 (ow hw 47 rfl))) (mvT hZ3 (ow hw 47 rfl)) (mvT hZ3 (ow hw 46 rfl)) (by decide) (backOf (W := 0) (r4_1 l Z a0 hw [] b3_0 wKind_SUCCESS h3 n0 O_K3 f3_12) hZ3 (ow hw 48 rfl) (ow hw 7 rfl) (by decide) (by decide)) q4a q4c (g := (mkF m 283 #[iv i0, iv i1, iv i2, iv i3, iv (0 : Int32), rv wKind_SUCCESS, iv (0 : Int32), iv (i2.toInt8.toInt32), iv ((i2 >>> ((8 : Int32) &&& 31)).toInt8.toInt32), iv ((i2 >>> ((16 : Int32) &&& 31)).toInt8.toInt32), iv ((i3 ||| (1 : Int32)).toInt8.toInt32), rv b2_0, rv b3_0, rv b3_1, rv b3_2] [(.ref b3_0)])) rfl (by rw [hml]; rfl) (Steps.refl _) (argsL := []) (rest := []) (lenOf pd___Lcom_example_nervous_key_nervouskey_Outcome_Kind_ rfl) rfl (by show 2 * 0 + _ ≤ _; exact Nat.le_of_eq rfl) (hb hby at_283) (fun _ _ => ⟨rfl, e3, (by decide : 9 + 0 ≤ _), (by decide : 50 + 0 ≤ _)⟩)
  dsimp only [Pt.U, Pt.locs, Pt.cells, Pt.slots] at X4 l4 y4 z4 st4 hQ4
  subst l4 y4 z4
  obtain ⟨rfl, N4q, e4⟩ := hQ4
  have N4 := Fr.app N3 N4q
  obtain ⟨fs, hr, hrun, hended, hE⟩ := Stand.leaveW (s := s) (vm₁ := vm3) X4 hS3 (by rw [e4]; exact (Nat.le_refl _)) (v := some (.int (1 : Int32))) (fun h => by rw [Bd.returns] at h; cases h)
  refine ⟨_, _, pre0 _ ?_, hrun, hended, _, _, rfl, ?_, hE.1, hE.2.1, hE.2.2.1, hE.2.2.2.mono (by decide) (by decide)⟩
  · show St p e below s₁ m 0 #[iv i0, iv i1, iv i2, iv i3, .unset, .unset, .unset, .unset, .unset, .unset, .unset, .unset, .unset, .unset, .unset] [] _
    refine XS.iloadN X0.here hx rfl (hb hby at_0) rfl ?_
    show St p e below s₁ m 1 #[iv i0, iv i1, iv i2, iv i3, .unset, .unset, .unset, .unset, .unset, .unset, .unset, .unset, .unset, .unset, .unset] [(.int i0)] _
    refine X0.ldcInt hx hown (mvT hZ (ow hw 0 rfl)) (g := (mkF m 1 #[iv i0, iv i1, iv i2, iv i3, .unset, .unset, .unset, .unset, .unset, .unset, .unset, .unset, .unset, .unset, .unset] [(.int i0)])) rfl (hb hby at_1) _ ?_
    show St p e below s₁ m 3 #[iv i0, iv i1, iv i2, iv i3, .unset, .unset, .unset, .unset, .unset, .unset, .unset, .unset, .unset, .unset, .unset] [(.int (2147483647 : Int32)), (.int i0)] _
    refine XS.iand X0.here hx rfl (hb hby at_3) rfl ?_
    show St p e below s₁ m 4 #[iv i0, iv i1, iv i2, iv i3, .unset, .unset, .unset, .unset, .unset, .unset, .unset, .unset, .unset, .unset, .unset] [(.int (i0 &&& (2147483647 : Int32)))] _
    refine XS.iconst X0.here hx rfl (hb hby at_4) ?_
    show St p e below s₁ m 5 #[iv i0, iv i1, iv i2, iv i3, .unset, .unset, .unset, .unset, .unset, .unset, .unset, .unset, .unset, .unset, .unset] [(.int (3 : Int32)), (.int (i0 &&& (2147483647 : Int32)))] _
    refine Jvm.RoadKit.iremM (g := (mkF m 5 #[iv i0, iv i1, iv i2, iv i3, .unset, .unset, .unset, .unset, .unset, .unset, .unset, .unset, .unset, .unset, .unset] [(.int (3 : Int32)), (.int (i0 &&& (2147483647 : Int32)))])) X0 hx rfl (hb hby at_5) rfl (by decide : ¬ ((3 : Int32) = (0 : Int32))) ?_
    show St p e below s₁ m 6 #[iv i0, iv i1, iv i2, iv i3, .unset, .unset, .unset, .unset, .unset, .unset, .unset, .unset, .unset, .unset, .unset] [(.int ((i0 &&& (2147483647 : Int32)) % (3 : Int32)))] _
    rw [pin0]
    show St p e below s₁ m 6 #[iv i0, iv i1, iv i2, iv i3, .unset, .unset, .unset, .unset, .unset, .unset, .unset, .unset, .unset, .unset, .unset] [(.int (0 : Int32))] _
    refine XS.istore X0.here hx rfl (hb hby at_6) rfl (l' := #[iv i0, iv i1, iv i2, iv i3, iv (0 : Int32), .unset, .unset, .unset, .unset, .unset, .unset, .unset, .unset, .unset, .unset]) rfl ?_
    show St p e below s₁ m 8 #[iv i0, iv i1, iv i2, iv i3, iv (0 : Int32), .unset, .unset, .unset, .unset, .unset, .unset, .unset, .unset, .unset, .unset] [] _
    refine XS.iload X0.here hx rfl (hb hby at_8) rfl ?_
    show St p e below s₁ m 10 #[iv i0, iv i1, iv i2, iv i3, iv (0 : Int32), .unset, .unset, .unset, .unset, .unset, .unset, .unset, .unset, .unset, .unset] [(.int (0 : Int32))] _
    refine XS.ifNo X0.here hx rfl (hb hby at_10) rfl ((if0 _ _).trans (teq (rfl : (0 : Int32) = (0 : Int32))).2) ?_
    show St p e below s₁ m 13 #[iv i0, iv i1, iv i2, iv i3, iv (0 : Int32), .unset, .unset, .unset, .unset, .unset, .unset, .unset, .unset, .unset, .unset] [] _
    refine st1 _ ?_
    show St p e below T1 m 16 #[iv i0, iv i1, iv i2, iv i3, iv (0 : Int32), .unset, .unset, .unset, .unset, .unset, .unset, .unset, .unset, .unset, .unset] [(.ref wKind_SUCCESS)] _
    refine XS.astore X1.here hx rfl (hb hby at_16) rfl rfl (l' := #[iv i0, iv i1, iv i2, iv i3, iv (0 : Int32), rv wKind_SUCCESS, .unset, .unset, .unset, .unset, .unset, .unset, .unset, .unset, .unset]) rfl ?_
    show St p e below T1 m 18 #[iv i0, iv i1, iv i2, iv i3, iv (0 : Int32), rv wKind_SUCCESS, .unset, .unset, .unset, .unset, .unset, .unset, .unset, .unset, .unset] [] _
    refine XS.goto X1.here hx rfl (pc0 := 18) (pc' := 40) rfl (hb hby at_18) (by decide) (by decide) ?_
    show St p e below T1 m 40 #[iv i0, iv i1, iv i2, iv i3, iv (0 : Int32), rv wKind_SUCCESS, .unset, .unset, .unset, .unset, .unset, .unset, .unset, .unset, .unset] [] _
    refine XS.iloadN X1.here hx rfl (hb hby at_40) rfl ?_
    show St p e below T1 m 41 #[iv i0, iv i1, iv i2, iv i3, iv (0 : Int32), rv wKind_SUCCESS, .unset, .unset, .unset, .unset, .unset, .unset, .unset, .unset, .unset] [(.int i1)] _
    refine XS.iconst X1.here hx rfl (hb hby at_41) ?_
    show St p e below T1 m 42 #[iv i0, iv i1, iv i2, iv i3, iv (0 : Int32), rv wKind_SUCCESS, .unset, .unset, .unset, .unset, .unset, .unset, .unset, .unset, .unset] [(.int (3 : Int32)), (.int i1)] _
    refine XS.iand X1.here hx rfl (hb hby at_42) rfl ?_
    show St p e below T1 m 43 #[iv i0, iv i1, iv i2, iv i3, iv (0 : Int32), rv wKind_SUCCESS, .unset, .unset, .unset, .unset, .unset, .unset, .unset, .unset, .unset] [(.int (i1 &&& (3 : Int32)))] _
    rw [pin1]
    show St p e below T1 m 43 #[iv i0, iv i1, iv i2, iv i3, iv (0 : Int32), rv wKind_SUCCESS, .unset, .unset, .unset, .unset, .unset, .unset, .unset, .unset, .unset] [(.int (0 : Int32))] _
    refine XS.istore X1.here hx rfl (hb hby at_43) rfl (l' := #[iv i0, iv i1, iv i2, iv i3, iv (0 : Int32), rv wKind_SUCCESS, iv (0 : Int32), .unset, .unset, .unset, .unset, .unset, .unset, .unset, .unset]) rfl ?_
    show St p e below T1 m 45 #[iv i0, iv i1, iv i2, iv i3, iv (0 : Int32), rv wKind_SUCCESS, iv (0 : Int32), .unset, .unset, .unset, .unset, .unset, .unset, .unset, .unset] [] _
    refine XS.iloadN X1.here hx rfl (hb hby at_45) rfl ?_
    show St p e below T1 m 46 #[iv i0, iv i1, iv i2, iv i3, iv (0 : Int32), rv wKind_SUCCESS, iv (0 : Int32), .unset, .unset, .unset, .unset, .unset, .unset, .unset, .unset] [(.int i2)] _
    refine XS.i2b X1.here hx rfl (hb hby at_46) rfl ?_
    show St p e below T1 m 47 #[iv i0, iv i1, iv i2, iv i3, iv (0 : Int32), rv wKind_SUCCESS, iv (0 : Int32), .unset, .unset, .unset, .unset, .unset, .unset, .unset, .unset] [(.int (i2.toInt8.toInt32))] _
    refine XS.istore X1.here hx rfl (hb hby at_47) rfl (l' := #[iv i0, iv i1, iv i2, iv i3, iv (0 : Int32), rv wKind_SUCCESS, iv (0 : Int32), iv (i2.toInt8.toInt32), .unset, .unset, .unset, .unset, .unset, .unset, .unset]) rfl ?_
    show St p e below T1 m 49 #[iv i0, iv i1, iv i2, iv i3, iv (0 : Int32), rv wKind_SUCCESS, iv (0 : Int32), iv (i2.toInt8.toInt32), .unset, .unset, .unset, .unset, .unset, .unset, .unset] [] _
    refine XS.iloadN X1.here hx rfl (hb hby at_49) rfl ?_
    show St p e below T1 m 50 #[iv i0, iv i1, iv i2, iv i3, iv (0 : Int32), rv wKind_SUCCESS, iv (0 : Int32), iv (i2.toInt8.toInt32), .unset, .unset, .unset, .unset, .unset, .unset, .unset] [(.int i2)] _
    refine XS.bipush X1.here hx rfl (hb hby at_50) ?_
    show St p e below T1 m 52 #[iv i0, iv i1, iv i2, iv i3, iv (0 : Int32), rv wKind_SUCCESS, iv (0 : Int32), iv (i2.toInt8.toInt32), .unset, .unset, .unset, .unset, .unset, .unset, .unset] [(.int (8 : Int32)), (.int i2)] _
    refine XS.ishr X1.here hx rfl (hb hby at_52) rfl ?_
    show St p e below T1 m 53 #[iv i0, iv i1, iv i2, iv i3, iv (0 : Int32), rv wKind_SUCCESS, iv (0 : Int32), iv (i2.toInt8.toInt32), .unset, .unset, .unset, .unset, .unset, .unset, .unset] [(.int (i2 >>> ((8 : Int32) &&& 31)))] _
    refine XS.i2b X1.here hx rfl (hb hby at_53) rfl ?_
    show St p e below T1 m 54 #[iv i0, iv i1, iv i2, iv i3, iv (0 : Int32), rv wKind_SUCCESS, iv (0 : Int32), iv (i2.toInt8.toInt32), .unset, .unset, .unset, .unset, .unset, .unset, .unset] [(.int ((i2 >>> ((8 : Int32) &&& 31)).toInt8.toInt32))] _
    refine XS.istore X1.here hx rfl (hb hby at_54) rfl (l' := #[iv i0, iv i1, iv i2, iv i3, iv (0 : Int32), rv wKind_SUCCESS, iv (0 : Int32), iv (i2.toInt8.toInt32), iv ((i2 >>> ((8 : Int32) &&& 31)).toInt8.toInt32), .unset, .unset, .unset, .unset, .unset, .unset]) rfl ?_
    show St p e below T1 m 56 #[iv i0, iv i1, iv i2, iv i3, iv (0 : Int32), rv wKind_SUCCESS, iv (0 : Int32), iv (i2.toInt8.toInt32), iv ((i2 >>> ((8 : Int32) &&& 31)).toInt8.toInt32), .unset, .unset, .unset, .unset, .unset, .unset] [] _
    refine XS.iloadN X1.here hx rfl (hb hby at_56) rfl ?_
    show St p e below T1 m 57 #[iv i0, iv i1, iv i2, iv i3, iv (0 : Int32), rv wKind_SUCCESS, iv (0 : Int32), iv (i2.toInt8.toInt32), iv ((i2 >>> ((8 : Int32) &&& 31)).toInt8.toInt32), .unset, .unset, .unset, .unset, .unset, .unset] [(.int i2)] _
    refine XS.bipush X1.here hx rfl (hb hby at_57) ?_
    show St p e below T1 m 59 #[iv i0, iv i1, iv i2, iv i3, iv (0 : Int32), rv wKind_SUCCESS, iv (0 : Int32), iv (i2.toInt8.toInt32), iv ((i2 >>> ((8 : Int32) &&& 31)).toInt8.toInt32), .unset, .unset, .unset, .unset, .unset, .unset] [(.int (16 : Int32)), (.int i2)] _
    refine XS.ishr X1.here hx rfl (hb hby at_59) rfl ?_
    show St p e below T1 m 60 #[iv i0, iv i1, iv i2, iv i3, iv (0 : Int32), rv wKind_SUCCESS, iv (0 : Int32), iv (i2.toInt8.toInt32), iv ((i2 >>> ((8 : Int32) &&& 31)).toInt8.toInt32), .unset, .unset, .unset, .unset, .unset, .unset] [(.int (i2 >>> ((16 : Int32) &&& 31)))] _
    refine XS.i2b X1.here hx rfl (hb hby at_60) rfl ?_
    show St p e below T1 m 61 #[iv i0, iv i1, iv i2, iv i3, iv (0 : Int32), rv wKind_SUCCESS, iv (0 : Int32), iv (i2.toInt8.toInt32), iv ((i2 >>> ((8 : Int32) &&& 31)).toInt8.toInt32), .unset, .unset, .unset, .unset, .unset, .unset] [(.int ((i2 >>> ((16 : Int32) &&& 31)).toInt8.toInt32))] _
    refine XS.istore X1.here hx rfl (hb hby at_61) rfl (l' := #[iv i0, iv i1, iv i2, iv i3, iv (0 : Int32), rv wKind_SUCCESS, iv (0 : Int32), iv (i2.toInt8.toInt32), iv ((i2 >>> ((8 : Int32) &&& 31)).toInt8.toInt32), iv ((i2 >>> ((16 : Int32) &&& 31)).toInt8.toInt32), .unset, .unset, .unset, .unset, .unset]) rfl ?_
    show St p e below T1 m 63 #[iv i0, iv i1, iv i2, iv i3, iv (0 : Int32), rv wKind_SUCCESS, iv (0 : Int32), iv (i2.toInt8.toInt32), iv ((i2 >>> ((8 : Int32) &&& 31)).toInt8.toInt32), iv ((i2 >>> ((16 : Int32) &&& 31)).toInt8.toInt32), .unset, .unset, .unset, .unset, .unset] [] _
    refine XS.iloadN X1.here hx rfl (hb hby at_63) rfl ?_
    show St p e below T1 m 64 #[iv i0, iv i1, iv i2, iv i3, iv (0 : Int32), rv wKind_SUCCESS, iv (0 : Int32), iv (i2.toInt8.toInt32), iv ((i2 >>> ((8 : Int32) &&& 31)).toInt8.toInt32), iv ((i2 >>> ((16 : Int32) &&& 31)).toInt8.toInt32), .unset, .unset, .unset, .unset, .unset] [(.int i3)] _
    refine XS.iconst X1.here hx rfl (hb hby at_64) ?_
    show St p e below T1 m 65 #[iv i0, iv i1, iv i2, iv i3, iv (0 : Int32), rv wKind_SUCCESS, iv (0 : Int32), iv (i2.toInt8.toInt32), iv ((i2 >>> ((8 : Int32) &&& 31)).toInt8.toInt32), iv ((i2 >>> ((16 : Int32) &&& 31)).toInt8.toInt32), .unset, .unset, .unset, .unset, .unset] [(.int (1 : Int32)), (.int i3)] _
    refine XS.ior X1.here hx rfl (hb hby at_65) rfl ?_
    show St p e below T1 m 66 #[iv i0, iv i1, iv i2, iv i3, iv (0 : Int32), rv wKind_SUCCESS, iv (0 : Int32), iv (i2.toInt8.toInt32), iv ((i2 >>> ((8 : Int32) &&& 31)).toInt8.toInt32), iv ((i2 >>> ((16 : Int32) &&& 31)).toInt8.toInt32), .unset, .unset, .unset, .unset, .unset] [(.int (i3 ||| (1 : Int32)))] _
    refine XS.i2b X1.here hx rfl (hb hby at_66) rfl ?_
    show St p e below T1 m 67 #[iv i0, iv i1, iv i2, iv i3, iv (0 : Int32), rv wKind_SUCCESS, iv (0 : Int32), iv (i2.toInt8.toInt32), iv ((i2 >>> ((8 : Int32) &&& 31)).toInt8.toInt32), iv ((i2 >>> ((16 : Int32) &&& 31)).toInt8.toInt32), .unset, .unset, .unset, .unset, .unset] [(.int ((i3 ||| (1 : Int32)).toInt8.toInt32))] _
    refine XS.istore X1.here hx rfl (hb hby at_67) rfl (l' := #[iv i0, iv i1, iv i2, iv i3, iv (0 : Int32), rv wKind_SUCCESS, iv (0 : Int32), iv (i2.toInt8.toInt32), iv ((i2 >>> ((8 : Int32) &&& 31)).toInt8.toInt32), iv ((i2 >>> ((16 : Int32) &&& 31)).toInt8.toInt32), iv ((i3 ||| (1 : Int32)).toInt8.toInt32), .unset, .unset, .unset, .unset]) rfl ?_
    refine st2 _ ?_
    refine st3 _ ?_
    show St p e below T3 m 281 #[iv i0, iv i1, iv i2, iv i3, iv (0 : Int32), rv wKind_SUCCESS, iv (0 : Int32), iv (i2.toInt8.toInt32), iv ((i2 >>> ((8 : Int32) &&& 31)).toInt8.toInt32), iv ((i2 >>> ((16 : Int32) &&& 31)).toInt8.toInt32), iv ((i3 ||| (1 : Int32)).toInt8.toInt32), rv b2_0, rv b3_0, rv b3_1, rv b3_2] [] _
    refine XS.aload Y3.here hx rfl (hb hby at_281) rfl rfl ?_
    show St p e below T3 m 283 #[iv i0, iv i1, iv i2, iv i3, iv (0 : Int32), rv wKind_SUCCESS, iv (0 : Int32), iv (i2.toInt8.toInt32), iv ((i2 >>> ((8 : Int32) &&& 31)).toInt8.toInt32), iv ((i2 >>> ((16 : Int32) &&& 31)).toInt8.toInt32), iv ((i3 ||| (1 : Int32)).toInt8.toInt32), rv b2_0, rv b3_0, rv b3_1, rv b3_2] [(.ref b3_0)] _
    refine st4.trans ?_
    show St p e below T4 m 286 #[iv i0, iv i1, iv i2, iv i3, iv (0 : Int32), rv wKind_SUCCESS, iv (0 : Int32), iv (i2.toInt8.toInt32), iv ((i2 >>> ((8 : Int32) &&& 31)).toInt8.toInt32), iv ((i2 >>> ((16 : Int32) &&& 31)).toInt8.toInt32), iv ((i3 ||| (1 : Int32)).toInt8.toInt32), rv b2_0, rv b3_0, rv b3_1, rv b3_2] [(.ref wKind_SUCCESS)] _
    refine XS.aload X4.here hx rfl (hb hby at_286) rfl rfl ?_
    show St p e below T4 m 288 #[iv i0, iv i1, iv i2, iv i3, iv (0 : Int32), rv wKind_SUCCESS, iv (0 : Int32), iv (i2.toInt8.toInt32), iv ((i2 >>> ((8 : Int32) &&& 31)).toInt8.toInt32), iv ((i2 >>> ((16 : Int32) &&& 31)).toInt8.toInt32), iv ((i3 ||| (1 : Int32)).toInt8.toInt32), rv b2_0, rv b3_0, rv b3_1, rv b3_2] [(.ref wKind_SUCCESS), (.ref wKind_SUCCESS)] _
    refine Jvm.RoadKit.acmp (g := (mkF m 288 #[iv i0, iv i1, iv i2, iv i3, iv (0 : Int32), rv wKind_SUCCESS, iv (0 : Int32), iv (i2.toInt8.toInt32), iv ((i2 >>> ((8 : Int32) &&& 31)).toInt8.toInt32), iv ((i2 >>> ((16 : Int32) &&& 31)).toInt8.toInt32), iv ((i3 ||| (1 : Int32)).toInt8.toInt32), rv b2_0, rv b3_0, rv b3_1, rv b3_2] [(.ref wKind_SUCCESS), (.ref wKind_SUCCESS)])) X4 hx rfl rfl rfl (pc0 := 288) (pc' := 291) (same := true) rfl (hb hby at_288) rfl (decide_eq_true rfl) (by decide) (by decide) ?_
    show St p e below T4 m 291 #[iv i0, iv i1, iv i2, iv i3, iv (0 : Int32), rv wKind_SUCCESS, iv (0 : Int32), iv (i2.toInt8.toInt32), iv ((i2 >>> ((8 : Int32) &&& 31)).toInt8.toInt32), iv ((i2 >>> ((16 : Int32) &&& 31)).toInt8.toInt32), iv ((i3 ||| (1 : Int32)).toInt8.toInt32), rv b2_0, rv b3_0, rv b3_1, rv b3_2] [] _
    refine XS.iconst X4.here hx rfl (hb hby at_291) ?_
    show St p e below T4 m 292 #[iv i0, iv i1, iv i2, iv i3, iv (0 : Int32), rv wKind_SUCCESS, iv (0 : Int32), iv (i2.toInt8.toInt32), iv ((i2 >>> ((8 : Int32) &&& 31)).toInt8.toInt32), iv ((i2 >>> ((16 : Int32) &&& 31)).toInt8.toInt32), iv ((i3 ||| (1 : Int32)).toInt8.toInt32), rv b2_0, rv b3_0, rv b3_1, rv b3_2] [(.int (1 : Int32))] _
    refine XS.goto X4.here hx rfl (pc0 := 292) (pc' := 296) rfl (hb hby at_292) (by decide) (by decide) ?_
    show St p e below T4 m 296 #[iv i0, iv i1, iv i2, iv i3, iv (0 : Int32), rv wKind_SUCCESS, iv (0 : Int32), iv (i2.toInt8.toInt32), iv ((i2 >>> ((8 : Int32) &&& 31)).toInt8.toInt32), iv ((i2 >>> ((16 : Int32) &&& 31)).toInt8.toInt32), iv ((i3 ||| (1 : Int32)).toInt8.toInt32), rv b2_0, rv b3_0, rv b3_1, rv b3_2] [(.int (1 : Int32))] _
    exact retN X4 hx (t := .boolean) Bd.returns (by simp) (hb hby at_296) hr
  · show law_1Q Z wKind_SUCCESS wKind_RETRYABLE_FAILURE wKind_FINAL_FAILURE i0 i1 i2 i3 h0 n0 _ T4.heap _
    rw [e4]
    exact ⟨rfl, N4⟩
set_option maxRecDepth 65536 in
set_option maxHeartbeats 40000000 in
theorem g0_3 {p : Program} {l : Launch} {e : Env} {R : Room} {s : State} {m : MethodId} {args : Array Value} {below : List Frame} {meth : Method} {c : Code} {T0 : State} {locs : List Loc} {cells slots : Nat} {Z : State} {a0 : Array Value} {h0 : Heap} {n0 : Nat} (p1 : Int32) (p2 : Int32) (p3 : Int32) (p4 : Int32) (p5 : Int32) (a6 : Addr) (p7 : Int32) (p8 : Int32) (p9 : Int32) (p10 : Int32)
    (X0 : Stand p l e R s m args below meth c T0 locs cells slots) (hx : p.tables.exec = Jvm.exec) (hZ : Z.Warmed39 s.vm) (hw : HW a0 Z) (hby : c.code = code) (hml : c.maxLocals = 15) (hown : s.vm.findClass "com/example/nervous_key/nervouskey/OutcomeOfPinLaw" = some m.cls) (e0 : T0.heap = h0) (O0 : Old Z n0 h0) (N0 : Fr n0 locs) (rc : cells + 1 ≤ R.cells) (rs : slots + 1 ≤ R.slots) (rf : 0 ≤ R.frames) (rl : 0 ≤ R.locals) :
    ∃ (T' : State) (h' : Heap) (L' : List Loc) (b11 : Addr) (k11 : ClassId), Stand p l e R s m args below meth c T' L' (cells + 1) (slots + 1) ∧ T'.heap = h' ∧ Fr n0 L' ∧ Keep h0 h' [] ∧ h0.size ≤ b11 ∧ Arv Z h' b11 k11 .byte (1 : Int32) [(.int (nar .byte p7))] (.int (0 : Int32)) ∧ Exa Z h' b11 "[B" ∧
      ∀ target, St p e below T' m 145 #[iv p1, iv p2, iv p3, iv p4, iv p5, rv a6, iv (1 : Int32), iv p7, iv p8, iv p9, iv p10, rv b11, .unset, .unset, .unset] [] target → St p e below T0 m 69 #[iv p1, iv p2, iv p3, iv p4, iv p5, rv a6, iv (1 : Int32), iv p7, iv p8, iv p9, iv p10, .unset, .unset, .unset, .unset] [] target := by
  obtain ⟨T11, h11, k11, X11, e11, E11, A11, C11, st11⟩ := newPE X0 hx hZ (ow hw 4 rfl) e0 (g := (mkF m 89 #[iv p1, iv p2, iv p3, iv p4, iv p5, rv a6, iv (1 : Int32), iv p7, iv p8, iv p9, iv p10, .unset, .unset, .unset, .unset] [(.int (1 : Int32))])) rfl (hb hby at_89) rfl (by decide) (cap := 1) (by decide) (by decide) (by omega) (by omega) (ad := "[B") (by decide)
  obtain ⟨b11, g11⟩ : ∃ z, z = h0.size := ⟨_, rfl⟩
  rw [← g11] at A11 C11 st11
  have O_E11 : Old Z n0 h11 := O0.ext E11
  have Kp_E11 : Keep h0 h11 [] := (Keep.refl h0 []).ext E11
  have V11 : Arv Z h11 b11 k11 .byte (1 : Int32) [(.int (0 : Int32))] (.int (0 : Int32)) := (Arv.new A11 (by decide)).pad (pad_rep [] (.int (0 : Int32)) 1)
  obtain ⟨cl12, Ar12, q12, S12, M12, H12, G12⟩ := id V11
  have hin12 : ¬ ((0 : Int32) < 0 ∨ cl12.slots.size ≤ ((0 : Int32)).toNatClampNeg) := inb_of S12 ⟨by decide, by decide⟩
  obtain ⟨T12, h12, X12, e12, W12, st12⟩ := stB X11 hx hZ e11 Ar12 (j := (0 : Int32)) hin12 (g := (mkF m 95 #[iv p1, iv p2, iv p3, iv p4, iv p5, rv a6, iv (1 : Int32), iv p7, iv p8, iv p9, iv p10, .unset, .unset, .unset, .unset] [(.int p7), (.int (0 : Int32)), (.ref b11), (.ref b11)])) rfl rfl (hb hby at_95)
  have g14 : n0 ≤ b11 := Nat.le_trans (Nat.le_trans (Nat.le_of_eq O0.1.symm) O0.2.1) (Nat.le_of_eq g11.symm)
  have z15 : h0.size ≤ b11 := Nat.le_trans (Keep.refl h0 []).1 (Nat.le_of_eq g11.symm)
  have O_W12 : Old Z n0 h12 := O_E11.wr W12 g14
  have Kp_W12 : Keep h0 h12 [] := Kp_E11.wr W12 (Or.inr z15)
  have N16 := Fr.snoc X12 N0 g14
  have f13 : Arv Z h12 b11 k11 .byte (1 : Int32) [(.int (nar .byte p7))] (.int (0 : Int32)) := Arv.set Ar12 q12 S12 M12 H12 G12 (fits_nar_byte _) W12 0 rfl (Nat.le_of_ble_eq_true rfl)
  have f17 := (C11.wr W12)
  refine ⟨T12, _, _, b11, k11, X12.more (by omega) (by omega), e12, N16, Kp_W12, z15, f13, f17, fun target kt => ?_⟩
  show St p e below T0 m 69 #[iv p1, iv p2, iv p3, iv p4, iv p5, rv a6, iv (1 : Int32), iv p7, iv p8, iv p9, iv p10, .unset, .unset, .unset, .unset] [] _
  refine XS.iload X0.here hx rfl (hb hby at_69) rfl ?_
  show St p e below T0 m 71 #[iv p1, iv p2, iv p3, iv p4, iv p5, rv a6, iv (1 : Int32), iv p7, iv p8, iv p9, iv p10, .unset, .unset, .unset, .unset] [(.int (1 : Int32))] _
  refine XS.ifYes X0.here hx rfl (pc0 := 71) (pc' := 82) rfl (hb hby at_71) rfl ((if0 _ _).trans (feq (by decide : ¬ ((1 : Int32) = (0 : Int32)))).2) (by decide) (by decide) ?_
  show St p e below T0 m 82 #[iv p1, iv p2, iv p3, iv p4, iv p5, rv a6, iv (1 : Int32), iv p7, iv p8, iv p9, iv p10, .unset, .unset, .unset, .unset] [] _
  refine XS.iload X0.here hx rfl (hb hby at_82) rfl ?_
  show St p e below T0 m 84 #[iv p1, iv p2, iv p3, iv p4, iv p5, rv a6, iv (1 : Int32), iv p7, iv p8, iv p9, iv p10, .unset, .unset, .unset, .unset] [(.int (1 : Int32))] _
  refine XS.iconst X0.here hx rfl (hb hby at_84) ?_
  show St p e below T0 m 85 #[iv p1, iv p2, iv p3, iv p4, iv p5, rv a6, iv (1 : Int32), iv p7, iv p8, iv p9, iv p10, .unset, .unset, .unset, .unset] [(.int (1 : Int32)), (.int (1 : Int32))] _
  refine XS.icmpNo X0.here hx rfl (hb hby at_85) rfl (teq (rfl : (1 : Int32) = (1 : Int32))).2 ?_
  show St p e below T0 m 88 #[iv p1, iv p2, iv p3, iv p4, iv p5, rv a6, iv (1 : Int32), iv p7, iv p8, iv p9, iv p10, .unset, .unset, .unset, .unset] [] _
  refine XS.iconst X0.here hx rfl (hb hby at_88) ?_
  show St p e below T0 m 89 #[iv p1, iv p2, iv p3, iv p4, iv p5, rv a6, iv (1 : Int32), iv p7, iv p8, iv p9, iv p10, .unset, .unset, .unset, .unset] [(.int (1 : Int32))] _
  refine st11 _ ?_
  show St p e below T11 m 91 #[iv p1, iv p2, iv p3, iv p4, iv p5, rv a6, iv (1 : Int32), iv p7, iv p8, iv p9, iv p10, .unset, .unset, .unset, .unset] [(.ref b11)] _
  refine XS.dup X11.here hx rfl (hb hby at_91) rfl rfl ?_
  show St p e below T11 m 92 #[iv p1, iv p2, iv p3, iv p4, iv p5, rv a6, iv (1 : Int32), iv p7, iv p8, iv p9, iv p10, .unset, .unset, .unset, .unset] [(.ref b11), (.ref b11)] _
  refine XS.iconst X11.here hx rfl (hb hby at_92) ?_
  show St p e below T11 m 93 #[iv p1, iv p2, iv p3, iv p4, iv p5, rv a6, iv (1 : Int32), iv p7, iv p8, iv p9, iv p10, .unset, .unset, .unset, .unset] [(.int (0 : Int32)), (.ref b11), (.ref b11)] _
  refine XS.iload X11.here hx rfl (hb hby at_93) rfl ?_
  show St p e below T11 m 95 #[iv p1, iv p2, iv p3, iv p4, iv p5, rv a6, iv (1 : Int32), iv p7, iv p8, iv p9, iv p10, .unset, .unset, .unset, .unset] [(.int p7), (.int (0 : Int32)), (.ref b11), (.ref b11)] _
  refine st12 _ ?_
  show St p e below T12 m 96 #[iv p1, iv p2, iv p3, iv p4, iv p5, rv a6, iv (1 : Int32), iv p7, iv p8, iv p9, iv p10, .unset, .unset, .unset, .unset] [(.ref b11)] _
  refine XS.astore X12.here hx rfl (hb hby at_96) rfl rfl (l' := #[iv p1, iv p2, iv p3, iv p4, iv p5, rv a6, iv (1 : Int32), iv p7, iv p8, iv p9, iv p10, rv b11, .unset, .unset, .unset]) rfl ?_
  show St p e below T12 m 98 #[iv p1, iv p2, iv p3, iv p4, iv p5, rv a6, iv (1 : Int32), iv p7, iv p8, iv p9, iv p10, rv b11, .unset, .unset, .unset] [] _
  refine XS.goto X12.here hx rfl (pc0 := 98) (pc' := 145) rfl (hb hby at_98) (by decide) (by decide) ?_
  exact kt
def r1_2Q (Z : State) (a1 : Addr) (a2 : Addr) (k13 : ClassId) (p14 : Int32) (h0 : Heap) (n0 : Nat) (v : Option Value) (h : Heap) (L : List Loc) : Prop := ∃ (b3 : Addr) (b17 : Addr), v = some (.ref b3) ∧ Fr n0 L ∧ Keep h0 h [] ∧ h0.size ≤ b3 ∧ h0.size ≤ b17 ∧ b3 ≠ b17 ∧ Exa Z h b3 "com/example/nervous_key/nervouskey/Outcome" ∧ Fld Z h b3 "com/example/nervous_key/nervouskey/Outcome" "kind" "Lcom/example/nervous_key/nervouskey/Outcome$Kind;" (.ref a1) ∧ Fld Z h b3 "com/example/nervous_key/nervouskey/Outcome" "result" "[B" (.ref b17) ∧ Arv Z h b17 k13 .byte (1 : Int32) [(.int p14)] (.int (0 : Int32)) ∧ Exa Z h b17 "[B"
theorem r1_2e (m : MethodId) (a1 : Addr) (a2 : Addr) (k13 : ClassId) (p14 : Int32) : entryFrame m #[(.ref a1), (.ref a2)] 2 = mkF m 0 #[rv a1, rv a2] [] := by first | (simp [entryFrame, mkF, argsToLocals, Value.category]; done) | rfl
set_option maxRecDepth 65536 in
set_option maxHeartbeats 40000000 in
theorem r1_2 (l : Launch) (Z : State) (a0 : Array Value) (hw : HW a0 Z) (ws : List Jvm.Cond) (a1 : Addr) (a2 : Addr) (k13 : ClassId) (p14 : Int32) (h0 : Heap) (n0 : Nat) (O0 : Old Z n0 h0) (H7 : Exa Z Z.heap a1 "com/example/nervous_key/nervouskey/Outcome$Kind") (H11 : Exa Z h0 a2 "[B") (H15 : Arv Z h0 a2 k13 .byte (1 : Int32) [(.int p14)] (.int (0 : Int32))) :
    MFS l y1 prog_7_method_5_code 2 (some (.object "com/example/nervous_key/nervouskey/Outcome")) ws ({ frames := 2, cells := 6, slots := 51, locals := 27 } : Room) Z #[(.ref a1), (.ref a2)] h0 (r1_2Q Z a1 a2 k13 p14 h0 n0) := by
  refine MetFree.of_bodySF (plainFor_of_name pn_com_example_nervous_key_nervouskey_Outcome) hisR ?_
  intro p e s m args below meth c s₁ Bd hml0 hP hK
  obtain ⟨rfl, hZ, hh⟩ := hP
  have hx := Bd.exec
  have hby := Bd.bytes
  have hml : c.maxLocals = 2 := hml0
  have hown : s.vm.findClass "com/example/nervous_key/nervouskey/Outcome" = some m.cls := findClass_of_methodNamed Bd.named
  have hnm := (name_of_methodNamed Bd.named Bd.method).1
  have X0 : Stand p l e ({ frames := 2, cells := 6, slots := 51, locals := 27 } : Room) s m #[(.ref a1), (.ref a2)] below meth c s₁ [] 0 0 := Stand.of_body Bd
  have e0 : s₁.heap = h0 := by rw [← hh, Bd.state]; rfl
  have N0 := Fr.nil n0
  have pre0 : ∀ t, Steps p.tables e below (s₁.setTop (mkF m 0 #[rv a1, rv a2] [])) t → Steps p.tables e below (s₁.setTop (entryFrame m #[(.ref a1), (.ref a2)] 2)) t := fun t k => castTop (r1_2e m a1 a2 k13 p14) k
  obtain ⟨T3, h3, X3, e3, E3, A3, D3, -, st3⟩ := newO X0 hx hZ hown (ow hw 9 rfl) (ow hw 10 rfl) (ow hw 7 rfl) e0 (g := (mkF m 0 #[rv a1, rv a2] [])) rfl (hb hby d1_0) (by decide) (by decide)
  obtain ⟨b3, g3⟩ : ∃ z, z = h0.size := ⟨_, rfl⟩
  rw [← g3] at A3 D3 st3
  have O_E3 : Old Z n0 h3 := O0.ext E3
  have Kp_E3 : Keep h0 h3 [] := (Keep.refl h0 []).ext E3
  obtain ⟨a4, T4, h4, kk4, X4, e4, E4, hS4, hk4, hZ4, hown4, st4⟩ := ldcS (s := s) (vm0 := s.vm) X3 hx hZ (own := "com/example/nervous_key/nervouskey/Outcome") hown (ow hw 11 rfl) (fun d hd => hw d (strW d hd)) e3 (State.WarmedH.since (State.WarmedH.refl s) 0) (Nat.zero_le _) (g := (mkF m 5 #[rv a1, rv a2] [(.ref a1), (.ref b3), (.ref b3)])) rfl (hb hby d1_5) (n := 16) (by decide) (by decide) (by decide) (by decide)
  have O_E4 : Old Z n0 h4 := O_E3.ext E4
  have Kp_E4 : Keep h0 h4 [] := Kp_E3.ext E4
  obtain ⟨_, _, ⟨T5, L5, k5, n5⟩, -, X5, ⟨Lc5, hQ5, l5, y5, z5⟩, st5⟩ := Jvm.LawKit.callS X4 hx (y := y2) hown4 (mvT hZ4 (ow hw 18 rfl)) (mvT hZ4 (ow hw 19 rfl)) (mvT hZ4 (ow hw 20 rfl)) (mvT hZ4 (ow hw 21 rfl)) (by decide) (backOf (W := 2) (r2_1 l Z a0 hw [] a1 a4 h4 n0 O_E4) hZ4 (ow hw 21 rfl) (ow hw 20 rfl) (by decide) (by decide)) (g := (mkF m 7 #[rv a1, rv a2] [(.ref a4), (.ref a1), (.ref b3), (.ref b3)])) rfl (by rw [hml]; rfl) (argsL := [(.ref a1), (.ref a4)]) (rest := [(.ref b3), (.ref b3)]) (lenOf pd__Ljava_lang_Object_Ljava_lang_String__Ljava_lang_Object_ rfl) rfl (by show 2 * 0 + _ ≤ _; exact Nat.le_of_eq rfl) (hb hby d1_7) (fun _ _ => ⟨rfl, e4, (by decide : 3 + 0 ≤ _), (by decide : 22 + 0 ≤ _)⟩)
  dsimp only [Pt.U, Pt.locs, Pt.cells, Pt.slots] at X5 l5 y5 z5 st5 hQ5
  subst l5 y5 z5
  obtain ⟨rfl, N5q, e5⟩ := hQ5
  have N5 := Fr.app N0 N5q
  obtain ⟨T6, X6, e6, st6⟩ := castY X5 hx hZ4 hown4 (ow hw 22 rfl) e5 (Ins.self (H7.ext O_E4.2)) (g := (mkF m 10 #[rv a1, rv a2] [(.ref a1), (.ref b3), (.ref b3)])) rfl rfl (hb hby d1_10)
  obtain ⟨a8, T8, h8, kk8, X8, e8, E8, hS8, hk8, hZ8, hown8, st8⟩ := ldcS (s := s) (vm0 := T4.vm) X6 hx hZ4 (own := "com/example/nervous_key/nervouskey/Outcome") hown4 (ow hw 24 rfl) (fun d hd => hw d (strW d hd)) e6 hS4 hk4 (g := (mkF m 14 #[rv a1, rv a2] [(.ref a2), (.ref a1), (.ref b3), (.ref b3)])) rfl (hb hby d1_14) (n := 24) (by decide) (by decide) (by decide) (by decide)
  have O_E8 : Old Z n0 h8 := O_E4.ext E8
  have Kp_E8 : Keep h0 h8 [] := Kp_E4.ext E8
  obtain ⟨_, _, ⟨T9, L9, k9, n9⟩, -, X9, ⟨Lc9, hQ9, l9, y9, z9⟩, st9⟩ := Jvm.LawKit.callS X8 hx (y := y2) hown8 (mvT hZ8 (ow hw 18 rfl)) (mvT hZ8 (ow hw 19 rfl)) (mvT hZ8 (ow hw 20 rfl)) (mvT hZ8 (ow hw 21 rfl)) (by decide) (backOf (W := 3) (r2_1 l Z a0 hw [] a2 a8 h8 n0 O_E8) hZ8 (ow hw 21 rfl) (ow hw 20 rfl) (by decide) (by decide)) (g := (mkF m 16 #[rv a1, rv a2] [(.ref a8), (.ref a2), (.ref a1), (.ref b3), (.ref b3)])) rfl (by rw [hml]; rfl) (argsL := [(.ref a2), (.ref a8)]) (rest := [(.ref a1), (.ref b3), (.ref b3)]) (lenOf pd__Ljava_lang_Object_Ljava_lang_String__Ljava_lang_Object_ rfl) rfl (by show 2 * 0 + _ ≤ _; exact Nat.le_of_eq rfl) (hb hby d1_16) (fun _ _ => ⟨rfl, e8, (by decide : 5 + 0 ≤ _), (by decide : 50 + 0 ≤ _)⟩)
  dsimp only [Pt.U, Pt.locs, Pt.cells, Pt.slots] at X9 l9 y9 z9 st9 hQ9
  subst l9 y9 z9
  obtain ⟨rfl, N9q, e9⟩ := hQ9
  have N9 := Fr.app N5 N9q
  have f12 := (((H11.ext E3).ext E4).ext E8)
  obtain ⟨T10, X10, e10, st10⟩ := castY X9 hx hZ8 hown8 (ow hw 25 rfl) e9 (Ins.self f12) (g := (mkF m 19 #[rv a1, rv a2] [(.ref a2), (.ref a1), (.ref b3), (.ref b3)])) rfl rfl (hb hby d1_19)
  have f16 := (((H15.ext E3).ext E4).ext E8)
  obtain ⟨T17, h17, X17, e17, E17, A17, C17, st17⟩ := cloneH X10 hx hZ8 hown8 (ow hw 27 rfl) (ow hw 28 rfl) (ow hw 32 rfl) (ow hw 30 rfl) (ow hw 31 rfl) (ow hw 33 rfl) e10 (Arv.arh f16) f12 (g := (mkF m 22 #[rv a1, rv a2] [(.ref a2), (.ref a1), (.ref b3), (.ref b3)])) rfl (by rw [hml]; rfl) rfl (hb hby d1_22) (by decide) (W := 3) (cap := 1) (by show 2 * 0 + _ ≤ _; exact Nat.le_of_eq rfl) (by decide) (by decide) (by decide) (by decide)
  obtain ⟨b17, g17⟩ : ∃ z, z = h8.size := ⟨_, rfl⟩
  rw [← g17] at A17 C17 st17
  have O_E17 : Old Z n0 h17 := O_E8.ext E17
  have Kp_E17 : Keep h0 h17 [] := Kp_E8.ext E17
  have V17 : Arv Z h17 b17 k13 .byte (1 : Int32) [(.int p14)] (.int (0 : Int32)) := A17
  obtain ⟨T18, X18, e18, st18⟩ := castY X17 hx hZ8 hown8 (ow hw 25 rfl) e17 (Ins.self C17) (g := (mkF m 25 #[rv a1, rv a2] [(.ref b17), (.ref a1), (.ref b3), (.ref b3)])) rfl rfl (hb hby d1_25)
  have f19 : Fld Z h3 b3 "com/example/nervous_key/nervouskey/Outcome" "kind" "Lcom/example/nervous_key/nervouskey/Outcome$Kind;" .null := D3 (Or.inr (ow hw 41 rfl)) (ty := (.object "com/example/nervous_key/nervouskey/Outcome$Kind")) (by decide)
  have f20 := (((f19.ext E4).ext E8).ext E17)
  have f21 := (((A3.ext E4).ext E8).ext E17)
  have g22 : n0 ≤ b3 := Nat.le_trans (Nat.le_trans (Nat.le_of_eq O0.1.symm) O0.2.1) (Nat.le_of_eq g3.symm)
  have f23 : Fld Z h3 b3 "com/example/nervous_key/nervouskey/Outcome" "result" "[B" .null := D3 (Or.inr (ow hw 43 rfl)) (ty := (.array .byte)) (by decide)
  have f24 := (((f23.ext E4).ext E8).ext E17)
  obtain ⟨_, _, ⟨T25, L25, k25, n25⟩, -, X25, ⟨Lc25, hQ25, l25, y25, z25⟩, st25⟩ := X18.specialBack hx (y := y3) rfl hown8 (mvT hZ8 (ow hw 34 rfl)) (mvT hZ8 (ow hw 35 rfl)) (mvT hZ8 (ow hw 36 rfl)) (by decide) (backOf (W := 1) (r3_1 l Z a0 hw [] b3 a1 b17 h17 n0 O_E17 f20 f21 g22 f24) hZ8 (ow hw 36 rfl) (ow hw 7 rfl) (by decide) (by decide)) (g := (mkF m 28 #[rv a1, rv a2] [(.ref b17), (.ref a1), (.ref b3), (.ref b3)])) rfl (by rw [hml]; rfl) (Steps.refl _) (a := b3) (argsL := [(.ref a1), (.ref b17)]) (rest := [(.ref b3)]) (lenOf pd__Lcom_example_nervous_key_nervouskey_Outcome_Kind__B_V rfl) rfl (by show 2 * 0 + _ ≤ _; exact Nat.le_of_eq rfl) (hb hby d1_28) (fun _ _ => ⟨rfl, e18, (by decide : 6 + 0 ≤ _), (by decide : 51 + 0 ≤ _)⟩)
  dsimp only [Pt.U, Pt.locs, Pt.cells, Pt.slots] at X25 l25 y25 z25 st25 hQ25
  subst l25 y25 z25
  obtain ⟨rfl, N25q, K25, f25_1, f25_2, f25_3⟩ := hQ25
  have N25 := Fr.app N9 N25q
  have z26 : h0.size ≤ b3 := Nat.le_trans (Keep.refl h0 []).1 (Nat.le_of_eq g3.symm)
  have O_K25 : Old Z n0 T25.heap := O_E17.keep K25 (allS g22 all0)
  have Kp_K25 : Keep h0 T25.heap [] := Kp_E17.trans K25 (allS (Or.inr z26) all0)
  have z27 : h0.size ≤ b17 := Nat.le_trans Kp_E8.1 (Nat.le_of_eq g17.symm)
  have ne28 : b3 ≠ b17 := Nat.ne_of_lt (Nat.lt_of_lt_of_le ((A3.ext E4).ext E8).lt (Nat.le_of_eq g17.symm))
  have f29 := (V17.keep K25 (ninS (Ne.symm ne28) nin0))
  have f30 := (C17.keep K25)
  obtain ⟨fs, hr, hrun, hended, hE⟩ := Stand.leaveW (s := s) (vm₁ := T8.vm) X25 hS8 (Nat.le_trans (Nat.le_trans hk8 E17.1) K25.1) (v := some (.ref b3)) (fun h => by rw [Bd.returns] at h; cases h)
  refine ⟨_, _, pre0 _ ?_, hrun, hended, _, _, rfl, ?_, hE.1, hE.2.1, hE.2.2.1, hE.2.2.2.mono (by decide) (by decide)⟩
  · show St p e below s₁ m 0 #[rv a1, rv a2] [] _
    refine st3 _ ?_
    show St p e below T3 m 3 #[rv a1, rv a2] [(.ref b3)] _
    refine XS.dup X3.here hx rfl (hb hby d1_3) rfl rfl ?_
    show St p e below T3 m 4 #[rv a1, rv a2] [(.ref b3), (.ref b3)] _
    refine XS.aloadN X3.here hx rfl (hb hby d1_4) rfl rfl ?_
    show St p e below T3 m 5 #[rv a1, rv a2] [(.ref a1), (.ref b3), (.ref b3)] _
    refine st4 _ ?_
    show St p e below T4 m 7 #[rv a1, rv a2] [(.ref a4), (.ref a1), (.ref b3), (.ref b3)] _
    refine st5 _ ?_
    show St p e below T5 m 10 #[rv a1, rv a2] [(.ref a1), (.ref b3), (.ref b3)] _
    refine st6 _ ?_
    show St p e below T6 m 13 #[rv a1, rv a2] [(.ref a1), (.ref b3), (.ref b3)] _
    refine XS.aloadN X6.here hx rfl (hb hby d1_13) rfl rfl ?_
    show St p e below T6 m 14 #[rv a1, rv a2] [(.ref a2), (.ref a1), (.ref b3), (.ref b3)] _
    refine st8 _ ?_
    show St p e below T8 m 16 #[rv a1, rv a2] [(.ref a8), (.ref a2), (.ref a1), (.ref b3), (.ref b3)] _
    refine st9 _ ?_
    show St p e below T9 m 19 #[rv a1, rv a2] [(.ref a2), (.ref a1), (.ref b3), (.ref b3)] _
    refine st10 _ ?_
    show St p e below T10 m 22 #[rv a1, rv a2] [(.ref a2), (.ref a1), (.ref b3), (.ref b3)] _
    refine st17 _ ?_
    show St p e below T17 m 25 #[rv a1, rv a2] [(.ref b17), (.ref a1), (.ref b3), (.ref b3)] _
    refine st18 _ ?_
    show St p e below T18 m 28 #[rv a1, rv a2] [(.ref b17), (.ref a1), (.ref b3), (.ref b3)] _
    refine st25.trans ?_
    show St p e below T25 m 31 #[rv a1, rv a2] [(.ref b3)] _
    jvm_step X25.here [X25.here.top, hx, (hb hby d1_31), X25.method', Bd.returns, Value.isRef, FieldType.isReference]
    first | (intro acts; rw [hr _ acts rfl rfl rfl]) | rw [hr _ _ rfl rfl rfl]
    exact Steps.refl _
  · show r1_2Q Z a1 a2 k13 p14 h0 n0 _ T25.heap _
    exact ⟨b3, b17, rfl, N25, Kp_K25, z26, z27, ne28, f25_2, f25_1, f25_3, f29, f30⟩
def r5_2Q (Z : State) (a1 : Addr) (a2 : Addr) (k5 : ClassId) (p6 : Int32) (h0 : Heap) (n0 : Nat) (v : Option Value) (h : Heap) (L : List Loc) : Prop := ∃ (b9 : Addr), v = some (.ref b9) ∧ Fr n0 L ∧ Keep h0 h [] ∧ h0.size ≤ b9 ∧ Arv Z h b9 k5 .byte (1 : Int32) [(.int p6)] (.int (0 : Int32)) ∧ Exa Z h b9 "[B"
theorem r5_2e (m : MethodId) (a1 : Addr) (a2 : Addr) (k5 : ClassId) (p6 : Int32) : entryFrame m #[(.ref a1)] 1 = mkF m 0 #[rv a1] [] := by first | (simp [entryFrame, mkF, argsToLocals, Value.category]; done) | rfl
set_option maxRecDepth 65536 in
set_option maxHeartbeats 40000000 in
theorem r5_2 (l : Launch) (Z : State) (a0 : Array Value) (hw : HW a0 Z) (ws : List Jvm.Cond) (a1 : Addr) (a2 : Addr) (k5 : ClassId) (p6 : Int32) (h0 : Heap) (n0 : Nat) (O0 : Old Z n0 h0) (H3 : Fld Z h0 a1 "com/example/nervous_key/nervouskey/Outcome" "result" "[B" (.ref a2)) (H7 : Arv Z h0 a2 k5 .byte (1 : Int32) [(.int p6)] (.int (0 : Int32))) (H8 : Exa Z h0 a2 "[B") :
    MF l y5 prog_7_method_7_code 1 (some (.array .byte)) ws ({ frames := 1, cells := 1, slots := 1, locals := 14 } : Room) Z #[(.ref a1)] h0 (r5_2Q Z a1 a2 k5 p6 h0 n0) := by
  refine MetFree.of_bodySF (plainFor_of_name pn_com_example_nervous_key_nervouskey_Outcome) hisR ?_
  intro p e s m args below meth c s₁ Bd hml0 hP hK
  obtain ⟨rfl, hZ, hh⟩ := hP
  have hx := Bd.exec
  have hby := Bd.bytes
  have hml : c.maxLocals = 1 := hml0
  have hown : s.vm.findClass "com/example/nervous_key/nervouskey/Outcome" = some m.cls := findClass_of_methodNamed Bd.named
  have hnm := (name_of_methodNamed Bd.named Bd.method).1
  have X0 : Stand p l e ({ frames := 1, cells := 1, slots := 1, locals := 14 } : Room) s m #[(.ref a1)] below meth c s₁ [] 0 0 := Stand.of_body Bd
  have e0 : s₁.heap = h0 := by rw [← hh, Bd.state]; rfl
  have N0 := Fr.nil n0
  have pre0 : ∀ t, Steps p.tables e below (s₁.setTop (mkF m 0 #[rv a1] [])) t → Steps p.tables e below (s₁.setTop (entryFrame m #[(.ref a1)] 1)) t := fun t k => castTop (r5_2e m a1 a2 k5 p6) k
  obtain ⟨T4, X4, e4, st4⟩ := getF X0 hx hZ hown (host := "") (Or.inl (ow hw 42 rfl)) Via.refl e0 H3 (g := (mkF m 1 #[rv a1] [(.ref a1)])) rfl rfl (hb hby d5_1)
  obtain ⟨T9, h9, X9, e9, E9, A9, C9, st9⟩ := cloneH X4 hx hZ hown (ow hw 27 rfl) (ow hw 28 rfl) (ow hw 32 rfl) (ow hw 30 rfl) (ow hw 31 rfl) (ow hw 33 rfl) e4 (Arv.arh H7) H8 (g := (mkF m 4 #[rv a1] [(.ref a2)])) rfl (by rw [hml]; rfl) rfl (hb hby d5_4) (by decide) (W := 0) (cap := 1) (by show 2 * 0 + _ ≤ _; exact Nat.le_of_eq rfl) (by decide) (by decide) (by decide) (by decide)
  obtain ⟨b9, g9⟩ : ∃ z, z = h0.size := ⟨_, rfl⟩
  rw [← g9] at A9 C9 st9
  have O_E9 : Old Z n0 h9 := O0.ext E9
  have Kp_E9 : Keep h0 h9 [] := (Keep.refl h0 []).ext E9
  have V9 : Arv Z h9 b9 k5 .byte (1 : Int32) [(.int p6)] (.int (0 : Int32)) := A9
  obtain ⟨T10, X10, e10, st10⟩ := castY X9 hx hZ hown (ow hw 25 rfl) e9 (Ins.self C9) (g := (mkF m 7 #[rv a1] [(.ref b9)])) rfl rfl (hb hby d5_7)
  have z11 : h0.size ≤ b9 := Nat.le_trans (Keep.refl h0 []).1 (Nat.le_of_eq g9.symm)
  obtain ⟨fs, hr, hrun, hended, hW, hsame⟩ := X10.leave (v := some (.ref b9)) (fun h => by rw [Bd.returns] at h; cases h)
  refine ⟨_, _, pre0 _ ?_, hrun, hended, _, _, rfl, ?_, ⟨_, rfl⟩, hW, hsame.mono (by decide) (by decide)⟩
  · show St p e below s₁ m 0 #[rv a1] [] _
    refine XS.aloadN X0.here hx rfl (hb hby d5_0) rfl rfl ?_
    show St p e below s₁ m 1 #[rv a1] [(.ref a1)] _
    refine st4 _ ?_
    show St p e below T4 m 4 #[rv a1] [(.ref a2)] _
    refine st9 _ ?_
    show St p e below T9 m 7 #[rv a1] [(.ref b9)] _
    refine st10 _ ?_
    show St p e below T10 m 10 #[rv a1] [(.ref b9)] _
    jvm_step X10.here [X10.here.top, hx, (hb hby d5_10), X10.method', Bd.returns, Value.isRef, FieldType.isReference]
    first | (intro acts; rw [hr _ acts rfl rfl rfl]) | rw [hr _ _ rfl rfl rfl]
    exact Steps.refl _
  · show r5_2Q Z a1 a2 k5 p6 h0 n0 _ T10.heap _
    rw [e10]
    exact ⟨b9, rfl, N0, Kp_E9, z11, V9, C9⟩
theorem d6_19 : decode method_2_code 19 = .ok (.aload_n 0, 1) := by decide +kernel
theorem d6_20 : decode method_2_code 20 = .ok (.iconst 0, 1) := by decide +kernel
theorem d6_21 : decode method_2_code 21 = .ok (.baload, 1) := by decide +kernel
theorem d6_22 : decode method_2_code 22 = .ok (.iload_n 2, 1) := by decide +kernel
theorem d6_23 : decode method_2_code 23 = .ok (.if_icmp .eq 5, 3) := by decide +kernel
def r6_2Q (Z : State) (a1 : Addr) (p2 : Int32) (p3 : Int32) (p4 : Int32) (k5 : ClassId) (p6 : Int32) (h0 : Heap) (n0 : Nat) (v : Option Value) (h : Heap) (L : List Loc) : Prop := v = some (.int (1 : Int32)) ∧ Fr n0 L ∧ h = h0
theorem r6_2e (m : MethodId) (a1 : Addr) (p2 : Int32) (p3 : Int32) (p4 : Int32) (k5 : ClassId) (p6 : Int32) : entryFrame m #[(.ref a1), (.int (1 : Int32)), (.int p2), (.int p3), (.int p4)] 5 = mkF m 0 #[rv a1, iv (1 : Int32), iv p2, iv p3, iv p4] [] := by first | (simp [entryFrame, mkF, argsToLocals, Value.category]; done) | rfl
set_option maxRecDepth 65536 in
set_option maxHeartbeats 40000000 in
theorem r6_2 (l : Launch) (Z : State) (a0 : Array Value) (hw : HW a0 Z) (ws : List Jvm.Cond) (a1 : Addr) (p2 : Int32) (p3 : Int32) (p4 : Int32) (k5 : ClassId) (p6 : Int32) (h0 : Heap) (n0 : Nat) (O0 : Old Z n0 h0) (H7 : Arv Z h0 a1 k5 .byte (1 : Int32) [(.int p6)] (.int (0 : Int32))) (hc10 : p6 = p2) :
    MF l y6 method_2_code 5 (some .boolean) ws ({ frames := 0, cells := 0, slots := 0, locals := 0 } : Room) Z #[(.ref a1), (.int (1 : Int32)), (.int p2), (.int p3), (.int p4)] h0 (r6_2Q Z a1 p2 p3 p4 k5 p6 h0 n0) := by
  refine MetFree.of_bodySF (plainFor_of_name pn_com_example_nervous_key_nervouskey_OutcomeOfPinLaw) hisR ?_
  intro p e s m args below meth c s₁ Bd hml0 hP hK
  obtain ⟨rfl, hZ, hh⟩ := hP
  have hx := Bd.exec
  have hby := Bd.bytes
  have hml : c.maxLocals = 5 := hml0
  have hown : s.vm.findClass "com/example/nervous_key/nervouskey/OutcomeOfPinLaw" = some m.cls := findClass_of_methodNamed Bd.named
  have hnm := (name_of_methodNamed Bd.named Bd.method).1
  have X0 : Stand p l e ({ frames := 0, cells := 0, slots := 0, locals := 0 } : Room) s m #[(.ref a1), (.int (1 : Int32)), (.int p2), (.int p3), (.int p4)] below meth c s₁ [] 0 0 := Stand.of_body Bd
  have e0 : s₁.heap = h0 := by rw [← hh, Bd.state]; rfl
  have N0 := Fr.nil n0
  have pre0 : ∀ t, Steps p.tables e below (s₁.setTop (mkF m 0 #[rv a1, iv (1 : Int32), iv p2, iv p3, iv p4] [])) t → Steps p.tables e below (s₁.setTop (entryFrame m #[(.ref a1), (.int (1 : Int32)), (.int p2), (.int p3), (.int p4)] 5)) t := fun t k => castTop (r6_2e m a1 p2 p3 p4 k5 p6) k
  obtain ⟨cl8, Ar8, q8, S8, M8, H8, G8⟩ := id H7
  obtain ⟨cl9, Ar9, q9, S9, M9, H9, G9⟩ := id H7
  have hin9 : ¬ ((0 : Int32) < 0 ∨ cl9.slots.size ≤ ((0 : Int32)).toNatClampNeg) := inb_of S9 ⟨by decide, by decide⟩
  obtain ⟨fs, hr, hrun, hended, hW, hsame⟩ := X0.leave (v := some (.int (1 : Int32))) (fun h => by rw [Bd.returns] at h; cases h)
  refine ⟨_, _, pre0 _ ?_, hrun, hended, _, _, rfl, ?_, ⟨_, rfl⟩, hW, hsame.mono (by decide) (by decide)⟩
  · show St p e below s₁ m 0 #[rv a1, iv (1 : Int32), iv p2, iv p3, iv p4] [] _
    refine XS.aloadN X0.here hx rfl (hb hby d6_0) rfl rfl ?_
    show St p e below s₁ m 1 #[rv a1, iv (1 : Int32), iv p2, iv p3, iv p4] [(.ref a1)] _
    refine XS.ifnonnullYes X0.here hx rfl (pc0 := 1) (pc' := 6) rfl (hb hby d6_1) rfl (by decide) (by decide) ?_
    show St p e below s₁ m 6 #[rv a1, iv (1 : Int32), iv p2, iv p3, iv p4] [] _
    refine XS.aloadN X0.here hx rfl (hb hby d6_6) rfl rfl ?_
    show St p e below s₁ m 7 #[rv a1, iv (1 : Int32), iv p2, iv p3, iv p4] [(.ref a1)] _
    refine X0.arraylength hx (by rw [e0]; exact Ar8.1) (State.isArrayOf_alike hZ.alike Ar8.2.1) (g := (mkF m 7 #[rv a1, iv (1 : Int32), iv p2, iv p3, iv p4] [(.ref a1)])) rfl rfl (hb hby d6_7) _ ?_
    rw [len_of S8 M8]
    show St p e below s₁ m 8 #[rv a1, iv (1 : Int32), iv p2, iv p3, iv p4] [(.int (1 : Int32))] _
    refine XS.iloadN X0.here hx rfl (hb hby d6_8) rfl ?_
    show St p e below s₁ m 9 #[rv a1, iv (1 : Int32), iv p2, iv p3, iv p4] [(.int (1 : Int32)), (.int (1 : Int32))] _
    refine XS.icmpYes X0.here hx rfl (pc0 := 9) (pc' := 14) rfl (hb hby d6_9) rfl (teq (rfl : (1 : Int32) = (1 : Int32))).1 (by decide) (by decide) ?_
    show St p e below s₁ m 14 #[rv a1, iv (1 : Int32), iv p2, iv p3, iv p4] [] _
    refine XS.iloadN X0.here hx rfl (hb hby d6_14) rfl ?_
    show St p e below s₁ m 15 #[rv a1, iv (1 : Int32), iv p2, iv p3, iv p4] [(.int (1 : Int32))] _
    refine XS.iconst X0.here hx rfl (hb hby d6_15) ?_
    show St p e below s₁ m 16 #[rv a1, iv (1 : Int32), iv p2, iv p3, iv p4] [(.int (1 : Int32)), (.int (1 : Int32))] _
    refine XS.icmpNo X0.here hx rfl (hb hby d6_16) rfl (flt (by decide : ¬ ((1 : Int32) < (1 : Int32)))).1 ?_
    show St p e below s₁ m 19 #[rv a1, iv (1 : Int32), iv p2, iv p3, iv p4] [] _
    refine XS.aloadN X0.here hx rfl (hb hby d6_19) rfl rfl ?_
    show St p e below s₁ m 20 #[rv a1, iv (1 : Int32), iv p2, iv p3, iv p4] [(.ref a1)] _
    refine XS.iconst X0.here hx rfl (hb hby d6_20) ?_
    show St p e below s₁ m 21 #[rv a1, iv (1 : Int32), iv p2, iv p3, iv p4] [(.int (0 : Int32)), (.ref a1)] _
    refine X0.baloadBytes hx (j := (0 : Int32)) (v := (.int p6)) (by rw [e0]; exact Ar9.1) (State.isArrayOf_alike hZ.alike Ar9.2.1) Ar9.2.2 hin9 (Has.at H9 hin9 rfl) (g := (mkF m 21 #[rv a1, iv (1 : Int32), iv p2, iv p3, iv p4] [(.int (0 : Int32)), (.ref a1)])) rfl rfl (hb hby d6_21) _ ?_
    show St p e below s₁ m 22 #[rv a1, iv (1 : Int32), iv p2, iv p3, iv p4] [(.int p6)] _
    refine XS.iloadN X0.here hx rfl (hb hby d6_22) rfl ?_
    show St p e below s₁ m 23 #[rv a1, iv (1 : Int32), iv p2, iv p3, iv p4] [(.int p2), (.int p6)] _
    refine XS.icmpYes X0.here hx rfl (pc0 := 23) (pc' := 28) rfl (hb hby d6_23) rfl (teq hc10).1 (by decide) (by decide) ?_
    show St p e below s₁ m 28 #[rv a1, iv (1 : Int32), iv p2, iv p3, iv p4] [] _
    refine XS.iloadN X0.here hx rfl (hb hby d6_28) rfl ?_
    show St p e below s₁ m 29 #[rv a1, iv (1 : Int32), iv p2, iv p3, iv p4] [(.int (1 : Int32))] _
    refine XS.iconst X0.here hx rfl (hb hby d6_29) ?_
    show St p e below s₁ m 30 #[rv a1, iv (1 : Int32), iv p2, iv p3, iv p4] [(.int (2 : Int32)), (.int (1 : Int32))] _
    refine XS.icmpYes X0.here hx rfl (pc0 := 30) (pc' := 42) rfl (hb hby d6_30) rfl (tlt (by decide : (1 : Int32) < (2 : Int32))).1 (by decide) (by decide) ?_
    show St p e below s₁ m 42 #[rv a1, iv (1 : Int32), iv p2, iv p3, iv p4] [] _
    refine XS.iloadN X0.here hx rfl (hb hby d6_42) rfl ?_
    show St p e below s₁ m 43 #[rv a1, iv (1 : Int32), iv p2, iv p3, iv p4] [(.int (1 : Int32))] _
    refine XS.iconst X0.here hx rfl (hb hby d6_43) ?_
    show St p e below s₁ m 44 #[rv a1, iv (1 : Int32), iv p2, iv p3, iv p4] [(.int (3 : Int32)), (.int (1 : Int32))] _
    refine XS.icmpYes X0.here hx rfl (pc0 := 44) (pc' := 57) rfl (hb hby d6_44) rfl (tlt (by decide : (1 : Int32) < (3 : Int32))).1 (by decide) (by decide) ?_
    show St p e below s₁ m 57 #[rv a1, iv (1 : Int32), iv p2, iv p3, iv p4] [] _
    refine XS.iconst X0.here hx rfl (hb hby d6_57) ?_
    show St p e below s₁ m 58 #[rv a1, iv (1 : Int32), iv p2, iv p3, iv p4] [(.int (1 : Int32))] _
    exact retN X0 hx (t := .boolean) Bd.returns (by simp) (hb hby d6_58) hr
  · show r6_2Q Z a1 p2 p3 p4 k5 p6 h0 n0 _ s₁.heap _
    rw [e0]
    exact ⟨rfl, N0, rfl⟩
set_option maxRecDepth 65536 in
set_option maxHeartbeats 40000000 in
theorem g0_4 {p : Program} {l : Launch} {e : Env} {R : Room} {s : State} {m : MethodId} {args : Array Value} {below : List Frame} {meth : Method} {c : Code} {T0 : State} {locs : List Loc} {cells slots : Nat} {Z : State} {a0 : Array Value} {h0 : Heap} {n0 : Nat} (p1 : Int32) (p2 : Int32) (p3 : Int32) (p4 : Int32) (p5 : Int32) (a6 : Addr) (p7 : Int32) (p8 : Int32) (p9 : Int32) (p10 : Int32) (a11 : Addr) (k14 : ClassId) (p15 : Int32)
    (X0 : Stand p l e R s m args below meth c T0 locs cells slots) (hx : p.tables.exec = Jvm.exec) (hZ : Z.Warmed39 s.vm) (hw : HW a0 Z) (hby : c.code = code) (hml : c.maxLocals = 15) (hown : s.vm.findClass "com/example/nervous_key/nervouskey/OutcomeOfPinLaw" = some m.cls) (e0 : T0.heap = h0) (O0 : Old Z n0 h0) (N0 : Fr n0 locs) (rc : cells + 8 ≤ R.cells) (rs : slots + 53 ≤ R.slots) (rf : 3 ≤ R.frames) (rl : 40 ≤ R.locals) (H12 : Exa Z Z.heap a6 "com/example/nervous_key/nervouskey/Outcome$Kind") (H13 : Exa Z h0 a11 "[B") (H16 : Arv Z h0 a11 k14 .byte (1 : Int32) [(.int p15)] (.int (0 : Int32))) (H22 : n0 ≤ a11) (hc34 : p15 = p7) :
    ∃ (T' : State) (h' : Heap) (L' : List Loc) (vm' : Vm) (b17_0 : Addr) (b32_0 : Addr) (b48_0 : Addr) (b17_1 : Addr), Stand p l e R (s.setVm vm') m args below meth c T' L' (cells + 8) (slots + 53) ∧ T'.heap = h' ∧ s.Since vm' h'.size ∧ Fr n0 L' ∧ Keep h0 h' [a11] ∧ h0.size ≤ b17_0 ∧ h0.size ≤ b32_0 ∧ h0.size ≤ b48_0 ∧ h0.size ≤ b17_1 ∧ b17_0 ≠ b32_0 ∧ b17_0 ≠ b48_0 ∧ b17_0 ≠ b17_1 ∧ b32_0 ≠ b48_0 ∧ b32_0 ≠ b17_1 ∧ b48_0 ≠ b17_1 ∧ Exa Z h' a11 "[B" ∧ Arv Z h' a11 k14 .byte (1 : Int32) [(.int ((p15 ^^^ p10).toInt8.toInt32))] (.int (0 : Int32)) ∧ Exa Z h' b17_0 "com/example/nervous_key/nervouskey/Outcome" ∧ Fld Z h' b17_0 "com/example/nervous_key/nervouskey/Outcome" "kind" "Lcom/example/nervous_key/nervouskey/Outcome$Kind;" (.ref a6) ∧ Fld Z h' b17_0 "com/example/nervous_key/nervouskey/Outcome" "result" "[B" (.ref b17_1) ∧ Arv Z h' b32_0 k14 .byte (1 : Int32) [(.int ((p15 ^^^ p10).toInt8.toInt32))] (.int (0 : Int32)) ∧ Exa Z h' b32_0 "[B" ∧ Arv Z h' b48_0 k14 .byte (1 : Int32) [(.int p15)] (.int (0 : Int32)) ∧ Exa Z h' b48_0 "[B" ∧ Arv Z h' b17_1 k14 .byte (1 : Int32) [(.int p15)] (.int (0 : Int32)) ∧ Exa Z h' b17_1 "[B" ∧
      ∀ target, St p e below T' m 281 #[iv p1, iv p2, iv p3, iv p4, iv p5, rv a6, iv (1 : Int32), iv p7, iv p8, iv p9, iv p10, rv a11, rv b17_0, rv b32_0, rv b48_0] [] target → St p e below T0 m 145 #[iv p1, iv p2, iv p3, iv p4, iv p5, rv a6, iv (1 : Int32), iv p7, iv p8, iv p9, iv p10, rv a11, .unset, .unset, .unset] [] target := by
  obtain ⟨_, _, ⟨T17, L17, k17, n17⟩, -, X17, hSq17, hg17, ⟨Lc17, hQ17, l17, y17, z17⟩, st17⟩ := Jvm.RoadKit.callSS X0 hx (y := y1) hown (mvT hZ (ow hw 5 rfl)) (mvT hZ (ow hw 6 rfl)) (mvT hZ (ow hw 7 rfl)) (mvT hZ (ow hw 8 rfl)) (by decide) (backOfS (W := 0) (r1_2 l Z a0 hw [] a6 a11 k14 p15 h0 n0 O0 H12 H13 H16) hZ (ow hw 8 rfl) (ow hw 7 rfl) (by show 2 + 1 ≤ R.frames; omega) (by show 0 + (2 + 11) + 27 ≤ R.locals; omega)) (g := (mkF m 149 #[iv p1, iv p2, iv p3, iv p4, iv p5, rv a6, iv (1 : Int32), iv p7, iv p8, iv p9, iv p10, rv a11, .unset, .unset, .unset] [(.ref a11), (.ref a6)])) rfl (by rw [hml]; rfl) (argsL := [(.ref a6), (.ref a11)]) (rest := []) (lenOf pd__Lcom_example_nervous_key_nervouskey_Outcome_Kind__B_Lcom_example_nervous_key_nervouskey_Outcome_ rfl) rfl (by show 2 * 0 + _ ≤ _; exact Nat.le_of_eq rfl) (hb hby at_149) (fun _ _ => ⟨rfl, e0, (by show cells + 0 + 6 ≤ R.cells; omega), (by show slots + 0 + 51 ≤ R.slots; omega)⟩)
  dsimp only [Pt.U, Pt.locs, Pt.cells, Pt.slots] at X17 l17 y17 z17 st17 hQ17
  subst l17
  rw [y17, z17] at X17
  obtain ⟨Y17, hS17, hZ17, hown17⟩ := rebS (s := s) (vm0 := s.vm) (State.WarmedH.since (State.WarmedH.refl s) 0) (by rw [e0]; exact (Nat.zero_le _)) X17 hSq17 hg17 hZ hown
  obtain ⟨b17_0, b17_1, rfl, N17q, K17, lo17_1, lo17_2, nq17_3, f17_4, f17_5, f17_6, f17_7, f17_8⟩ := hQ17
  have N17 := Fr.app N0 N17q
  have O_K17 : Old Z n0 T17.heap := O0.keep K17 all0
  have Kp_K17 : Keep h0 T17.heap [a11] := (Keep.refl h0 [a11]).trans K17 all0
  replace Y17 : Stand p l e R _ m args below meth c T17 _ (cells + 6) (slots + 51) := Y17
  have f18 := (H16.keep K17 nin0)
  obtain ⟨cl19, Ar19, q19, S19, M19, H19, G19⟩ := id f18
  have hin19 : ¬ ((0 : Int32) < 0 ∨ cl19.slots.size ≤ ((0 : Int32)).toNatClampNeg) := inb_of S19 ⟨by decide, by decide⟩
  obtain ⟨cl20, Ar20, q20, S20, M20, H20, G20⟩ := id f18
  have hin20 : ¬ ((0 : Int32) < 0 ∨ cl20.slots.size ≤ ((0 : Int32)).toNatClampNeg) := inb_of S20 ⟨by decide, by decide⟩
  obtain ⟨T20, h20, X20, e20, W20, st20⟩ := stB Y17 hx hZ17 rfl Ar20 (j := (0 : Int32)) hin20 (g := (mkF m 176 #[iv p1, iv p2, iv p3, iv p4, iv p5, rv a6, iv (1 : Int32), iv p7, iv p8, iv p9, iv p10, rv a11, rv b17_0, .unset, .unset] [(.int ((p15 ^^^ p10).toInt8.toInt32)), (.int (0 : Int32)), (.ref a11)])) rfl rfl (hb hby at_176)
  have O_W20 : Old Z n0 h20 := O_K17.wr W20 H22
  have Kp_W20 : Keep h0 h20 [a11] := Kp_K17.wr W20 (Or.inl (List.mem_of_getElem? (i := 0) rfl))
  have N23 := Fr.snoc X20 N17 H22
  have f21 : Arv Z h20 a11 k14 .byte (1 : Int32) [(.int ((p15 ^^^ p10).toInt8.toInt32))] (.int (0 : Int32)) := by simpa only [own_narb, own_i8, List.set] using Arv.set Ar20 q20 S20 M20 H20 G20 (fits_nar_byte _) W20 0 rfl (Nat.le_of_ble_eq_true rfl)
  have f24 := (f17_4.wr W20)
  have ne25 : a11 ≠ b17_0 := Nat.ne_of_lt (Nat.lt_of_lt_of_le H13.lt lo17_1)
  have f26 := (f17_5.other W20 (Or.inl (Ne.symm ne25)))
  obtain ⟨cq27, kq27, q27a, q27b, q27c⟩ := isOf hZ17 e20 f24
  obtain ⟨_, _, ⟨T27, L27, k27, n27⟩, -, X27, ⟨Lc27, hQ27, l27, y27, z27⟩, st27⟩ := X20.virtualBack hx (y := y4) (z := y4) hown17 (mvT hZ17 (ow hw 44 rfl)) (mvT hZ17 (ow hw 45 rfl)) (notFace_of_selects (args := #[]) (mvT hZ17 (ow hw 47 rfl))) (mvT hZ17 (ow hw 47 rfl)) (mvT hZ17 (ow hw 46 rfl)) (by decide) (backOf (W := 0) (r4_1 l Z a0 hw [] b17_0 a6 h20 n0 O_W20 f26) hZ17 (ow hw 48 rfl) (ow hw 7 rfl) (by show 0 + 1 ≤ R.frames; omega) (by show 0 + (1 + 11) + 0 ≤ R.locals; omega)) q27a q27c (g := (mkF m 179 #[iv p1, iv p2, iv p3, iv p4, iv p5, rv a6, iv (1 : Int32), iv p7, iv p8, iv p9, iv p10, rv a11, rv b17_0, .unset, .unset] [(.ref b17_0)])) rfl (by rw [hml]; rfl) (Steps.refl _) (argsL := []) (rest := []) (lenOf pd___Lcom_example_nervous_key_nervouskey_Outcome_Kind_ rfl) rfl (by show 2 * 0 + _ ≤ _; exact Nat.le_of_eq rfl) (hb hby at_179) (fun _ _ => ⟨rfl, e20, (by show cells + 6 + 0 ≤ R.cells; omega), (by show slots + 51 + 0 ≤ R.slots; omega)⟩)
  dsimp only [Pt.U, Pt.locs, Pt.cells, Pt.slots] at X27 l27 y27 z27 st27 hQ27
  subst l27
  rw [y27, z27] at X27
  obtain ⟨rfl, N27q, e27⟩ := hQ27
  have N27 := Fr.app N23 N27q
  replace X27 : Stand p l e R _ m args below meth c T27 _ (cells + 6) (slots + 51) := X27
  have f28 := (f17_6.other W20 (Or.inl (Ne.symm ne25)))
  have ne29 : a11 ≠ b17_1 := Nat.ne_of_lt (Nat.lt_of_lt_of_le H13.lt lo17_2)
  have f30 := (f17_7.other W20 (Ne.symm ne29))
  have f31 := (f17_8.wr W20)
  obtain ⟨cq32, kq32, q32a, q32b, q32c⟩ := isOf hZ17 e27 f24
  obtain ⟨_, _, ⟨T32, L32, k32, n32⟩, -, X32, ⟨Lc32, hQ32, l32, y32, z32⟩, st32⟩ := X27.virtualBack hx (y := y5) (z := y5) hown17 (mvT hZ17 (ow hw 49 rfl)) (mvT hZ17 (ow hw 50 rfl)) (notFace_of_selects (args := #[]) (mvT hZ17 (ow hw 52 rfl))) (mvT hZ17 (ow hw 52 rfl)) (mvT hZ17 (ow hw 51 rfl)) (by decide) (backOf (W := 0) (r5_2 l Z a0 hw [] b17_0 b17_1 k14 p15 h20 n0 O_W20 f28 f30 f31) hZ17 (ow hw 53 rfl) (ow hw 7 rfl) (by show 1 + 1 ≤ R.frames; omega) (by show 0 + (1 + 11) + 14 ≤ R.locals; omega)) q32a q32c (g := (mkF m 191 #[iv p1, iv p2, iv p3, iv p4, iv p5, rv a6, iv (1 : Int32), iv p7, iv p8, iv p9, iv p10, rv a11, rv b17_0, .unset, .unset] [(.ref b17_0)])) rfl (by rw [hml]; rfl) (Steps.refl _) (argsL := []) (rest := []) (lenOf pd____B rfl) rfl (by show 2 * 0 + _ ≤ _; exact Nat.le_of_eq rfl) (hb hby at_191) (fun _ _ => ⟨rfl, e27, (by show cells + 6 + 1 ≤ R.cells; omega), (by show slots + 51 + 1 ≤ R.slots; omega)⟩)
  dsimp only [Pt.U, Pt.locs, Pt.cells, Pt.slots] at X32 l32 y32 z32 st32 hQ32
  subst l32
  rw [y32, z32] at X32
  obtain ⟨b32_0, rfl, N32q, K32, lo32_1, f32_2, f32_3⟩ := hQ32
  have N32 := Fr.app N27 N32q
  have O_K32 : Old Z n0 T32.heap := O_W20.keep K32 all0
  have Kp_K32 : Keep h0 T32.heap [a11] := Kp_W20.trans K32 all0
  replace X32 : Stand p l e R _ m args below meth c T32 _ (cells + 7) (slots + 52) := X32
  have ne33 : a11 ≠ b32_0 := Nat.ne_of_lt (Nat.lt_of_lt_of_le ((H13.keep K17).wr W20).lt lo32_1)
  obtain ⟨_, _, ⟨T35, L35, k35, n35⟩, -, X35, ⟨Lc35, hQ35, l35, y35, z35⟩, st35⟩ := Jvm.LawKit.callS X32 hx (y := y6) hown17 (mvT hZ17 (ow hw 54 rfl)) (mvT hZ17 (ow hw 55 rfl)) (mvT hZ17 (ow hw 56 rfl)) (mvT hZ17 (ow hw 57 rfl)) (by decide) (backOf (W := 0) (r6_2 l Z a0 hw [] b32_0 p7 p8 p9 k14 p15 T32.heap n0 O_K32 f32_2 hc34) hZ17 (ow hw 57 rfl) (ow hw 56 rfl) (by show 0 + 1 ≤ R.frames; omega) (by show 0 + (5 + 11) + 0 ≤ R.locals; omega)) (g := (mkF m 215 #[iv p1, iv p2, iv p3, iv p4, iv p5, rv a6, iv (1 : Int32), iv p7, iv p8, iv p9, iv p10, rv a11, rv b17_0, rv b32_0, .unset] [(.int p9), (.int p8), (.int p7), (.int (1 : Int32)), (.ref b32_0)])) rfl (by rw [hml]; rfl) (argsL := [(.ref b32_0), (.int (1 : Int32)), (.int p7), (.int p8), (.int p9)]) (rest := []) (lenOf pd___BIBBB_Z rfl) rfl (by show 2 * 0 + _ ≤ _; exact Nat.le_of_eq rfl) (hb hby at_215) (fun _ _ => ⟨rfl, rfl, (by show cells + 7 + 0 ≤ R.cells; omega), (by show slots + 52 + 0 ≤ R.slots; omega)⟩)
  dsimp only [Pt.U, Pt.locs, Pt.cells, Pt.slots] at X35 l35 y35 z35 st35 hQ35
  subst l35
  rw [y35, z35] at X35
  obtain ⟨rfl, N35q, e35⟩ := hQ35
  have N35 := Fr.app N32 N35q
  replace X35 : Stand p l e R _ m args below meth c T35 _ (cells + 7) (slots + 52) := X35
  obtain ⟨cl36, Ar36, q36, S36, M36, H36, G36⟩ := id f32_2
  have hin36 : ¬ ((0 : Int32) < 0 ∨ cl36.slots.size ≤ ((0 : Int32)).toNatClampNeg) := inb_of S36 ⟨by decide, by decide⟩
  obtain ⟨cl37, Ar37, q37, S37, M37, H37, G37⟩ := id f32_2
  have hin37 : ¬ ((0 : Int32) < 0 ∨ cl37.slots.size ≤ ((0 : Int32)).toNatClampNeg) := inb_of S37 ⟨by decide, by decide⟩
  obtain ⟨T37, h37, X37, e37, W37, st37⟩ := stB X35 hx hZ17 e35 Ar37 (j := (0 : Int32)) hin37 (g := (mkF m 239 #[iv p1, iv p2, iv p3, iv p4, iv p5, rv a6, iv (1 : Int32), iv p7, iv p8, iv p9, iv p10, rv a11, rv b17_0, rv b32_0, .unset] [(.int ((p15 ^^^ p10).toInt8.toInt32)), (.int (0 : Int32)), (.ref b32_0)])) rfl rfl (hb hby at_239)
  have g39 : n0 ≤ b32_0 := Nat.le_trans (Nat.le_trans (Nat.le_of_eq O_W20.1.symm) O_W20.2.1) lo32_1
  have z40 : h0.size ≤ b32_0 := Nat.le_trans Kp_W20.1 lo32_1
  have O_W37 : Old Z n0 h37 := O_K32.wr W37 g39
  have Kp_W37 : Keep h0 h37 [a11] := Kp_K32.wr W37 (Or.inr z40)
  have N41 := Fr.snoc X37 N35 g39
  have f38 : Arv Z h37 b32_0 k14 .byte (1 : Int32) [(.int ((p15 ^^^ p10).toInt8.toInt32))] (.int (0 : Int32)) := by simpa only [own_narb, own_i8, List.set] using Arv.set Ar37 q37 S37 M37 H37 G37 (fits_nar_byte _) W37 0 rfl (Nat.le_of_ble_eq_true rfl)
  have f42 := ((f24.keep K32).wr W37)
  have ne43 : b17_0 ≠ b32_0 := Nat.ne_of_lt (Nat.lt_of_lt_of_le (f17_4.wr W20).lt lo32_1)
  have f44 := ((f28.keep K32 nin0).other W37 (Or.inl ne43))
  have ne45 : b17_1 ≠ b32_0 := Nat.ne_of_lt (Nat.lt_of_lt_of_le f31.lt lo32_1)
  have f46 := ((f30.keep K32 nin0).other W37 ne45)
  have f47 := ((f31.keep K32).wr W37)
  obtain ⟨cq48, kq48, q48a, q48b, q48c⟩ := isOf hZ17 e37 f42
  obtain ⟨_, _, ⟨T48, L48, k48, n48⟩, -, X48, ⟨Lc48, hQ48, l48, y48, z48⟩, st48⟩ := X37.virtualBack hx (y := y5) (z := y5) hown17 (mvT hZ17 (ow hw 49 rfl)) (mvT hZ17 (ow hw 50 rfl)) (notFace_of_selects (args := #[]) (mvT hZ17 (ow hw 52 rfl))) (mvT hZ17 (ow hw 52 rfl)) (mvT hZ17 (ow hw 51 rfl)) (by decide) (backOf (W := 0) (r5_2 l Z a0 hw [] b17_0 b17_1 k14 p15 h37 n0 O_W37 f44 f46 f47) hZ17 (ow hw 53 rfl) (ow hw 7 rfl) (by show 1 + 1 ≤ R.frames; omega) (by show 0 + (1 + 11) + 14 ≤ R.locals; omega)) q48a q48c (g := (mkF m 242 #[iv p1, iv p2, iv p3, iv p4, iv p5, rv a6, iv (1 : Int32), iv p7, iv p8, iv p9, iv p10, rv a11, rv b17_0, rv b32_0, .unset] [(.ref b17_0)])) rfl (by rw [hml]; rfl) (Steps.refl _) (argsL := []) (rest := []) (lenOf pd____B rfl) rfl (by show 2 * 0 + _ ≤ _; exact Nat.le_of_eq rfl) (hb hby at_242) (fun _ _ => ⟨rfl, e37, (by show cells + 7 + 1 ≤ R.cells; omega), (by show slots + 52 + 1 ≤ R.slots; omega)⟩)
  dsimp only [Pt.U, Pt.locs, Pt.cells, Pt.slots] at X48 l48 y48 z48 st48 hQ48
  subst l48
  rw [y48, z48] at X48
  obtain ⟨b48_0, rfl, N48q, K48, lo48_1, f48_2, f48_3⟩ := hQ48
  have N48 := Fr.app N41 N48q
  have O_K48 : Old Z n0 T48.heap := O_W37.keep K48 all0
  have Kp_K48 : Keep h0 T48.heap [a11] := Kp_W37.trans K48 all0
  replace X48 : Stand p l e R _ m args below meth c T48 _ (cells + 8) (slots + 53) := X48
  have ne49 : b32_0 ≠ b48_0 := Nat.ne_of_lt (Nat.lt_of_lt_of_le (f32_3.wr W37).lt lo48_1)
  have ne50 : a11 ≠ b48_0 := Nat.ne_of_lt (Nat.lt_of_lt_of_le ((((H13.keep K17).wr W20).keep K32).wr W37).lt lo48_1)
  obtain ⟨_, _, ⟨T51, L51, k51, n51⟩, -, X51, ⟨Lc51, hQ51, l51, y51, z51⟩, st51⟩ := Jvm.LawKit.callS X48 hx (y := y6) hown17 (mvT hZ17 (ow hw 54 rfl)) (mvT hZ17 (ow hw 55 rfl)) (mvT hZ17 (ow hw 56 rfl)) (mvT hZ17 (ow hw 57 rfl)) (by decide) (backOf (W := 0) (r6_2 l Z a0 hw [] b48_0 p7 p8 p9 k14 p15 T48.heap n0 O_K48 f48_2 hc34) hZ17 (ow hw 57 rfl) (ow hw 56 rfl) (by show 0 + 1 ≤ R.frames; omega) (by show 0 + (5 + 11) + 0 ≤ R.locals; omega)) (g := (mkF m 273 #[iv p1, iv p2, iv p3, iv p4, iv p5, rv a6, iv (1 : Int32), iv p7, iv p8, iv p9, iv p10, rv a11, rv b17_0, rv b32_0, rv b48_0] [(.int p9), (.int p8), (.int p7), (.int (1 : Int32)), (.ref b48_0)])) rfl (by rw [hml]; rfl) (argsL := [(.ref b48_0), (.int (1 : Int32)), (.int p7), (.int p8), (.int p9)]) (rest := []) (lenOf pd___BIBBB_Z rfl) rfl (by show 2 * 0 + _ ≤ _; exact Nat.le_of_eq rfl) (hb hby at_273) (fun _ _ => ⟨rfl, rfl, (by show cells + 8 + 0 ≤ R.cells; omega), (by show slots + 53 + 0 ≤ R.slots; omega)⟩)
  dsimp only [Pt.U, Pt.locs, Pt.cells, Pt.slots] at X51 l51 y51 z51 st51 hQ51
  subst l51
  rw [y51, z51] at X51
  obtain ⟨rfl, N51q, e51⟩ := hQ51
  have N51 := Fr.app N48 N51q
  replace X51 : Stand p l e R _ m args below meth c T51 _ (cells + 8) (slots + 53) := X51
  have z52 : h0.size ≤ b17_0 := Nat.le_trans (Keep.refl h0 [a11]).1 lo17_1
  have z53 : h0.size ≤ b48_0 := Nat.le_trans Kp_W37.1 lo48_1
  have z54 : h0.size ≤ b17_1 := Nat.le_trans (Keep.refl h0 [a11]).1 lo17_2
  have ne55 : b17_0 ≠ b48_0 := Nat.ne_of_lt (Nat.lt_of_lt_of_le f42.lt lo48_1)
  have ne56 : b17_1 ≠ b48_0 := Nat.ne_of_lt (Nat.lt_of_lt_of_le f47.lt lo48_1)
  have f57 := (((((H13.keep K17).wr W20).keep K32).wr W37).keep K48)
  have f58 := (((f21.keep K32 nin0).other W37 ne33).keep K48 nin0)
  have f59 := (f42.keep K48)
  have f60 := (((f26.keep K32 nin0).other W37 (Or.inl ne43)).keep K48 nin0)
  have f61 := (f44.keep K48 nin0)
  have f62 := (f38.keep K48 nin0)
  have f63 := ((f32_3.wr W37).keep K48)
  have f64 := (f46.keep K48 nin0)
  have f65 := (f47.keep K48)
  refine ⟨T51, _, _, T17.vm, b17_0, b32_0, b48_0, b17_1, X51.more (by omega) (by omega), e51, own_since hS17 (Nat.le_trans (Nat.le_trans (Nat.le_trans (Nat.le_trans (Nat.le_refl _) (Keep.of_wr W20).1) K32.1) (Keep.of_wr W37).1) K48.1), N51, Kp_K48, z52, z40, z53, z54, ne43, ne55, nq17_3, ne49, (Ne.symm ne45), (Ne.symm ne56), f57, f58, f59, f60, f61, f62, f63, f48_2, f48_3, f64, f65, fun target kt => ?_⟩
  show St p e below T0 m 145 #[iv p1, iv p2, iv p3, iv p4, iv p5, rv a6, iv (1 : Int32), iv p7, iv p8, iv p9, iv p10, rv a11, .unset, .unset, .unset] [] _
  refine XS.aload X0.here hx rfl (hb hby at_145) rfl rfl ?_
  show St p e below T0 m 147 #[iv p1, iv p2, iv p3, iv p4, iv p5, rv a6, iv (1 : Int32), iv p7, iv p8, iv p9, iv p10, rv a11, .unset, .unset, .unset] [(.ref a6)] _
  refine XS.aload X0.here hx rfl (hb hby at_147) rfl rfl ?_
  show St p e below T0 m 149 #[iv p1, iv p2, iv p3, iv p4, iv p5, rv a6, iv (1 : Int32), iv p7, iv p8, iv p9, iv p10, rv a11, .unset, .unset, .unset] [(.ref a11), (.ref a6)] _
  refine st17.trans ?_
  show St p e below T17 m 152 #[iv p1, iv p2, iv p3, iv p4, iv p5, rv a6, iv (1 : Int32), iv p7, iv p8, iv p9, iv p10, rv a11, .unset, .unset, .unset] [(.ref b17_0)] _
  refine XS.astore Y17.here hx rfl (hb hby at_152) rfl rfl (l' := #[iv p1, iv p2, iv p3, iv p4, iv p5, rv a6, iv (1 : Int32), iv p7, iv p8, iv p9, iv p10, rv a11, rv b17_0, .unset, .unset]) rfl ?_
  show St p e below T17 m 154 #[iv p1, iv p2, iv p3, iv p4, iv p5, rv a6, iv (1 : Int32), iv p7, iv p8, iv p9, iv p10, rv a11, rv b17_0, .unset, .unset] [] _
  refine XS.iload Y17.here hx rfl (hb hby at_154) rfl ?_
  show St p e below T17 m 156 #[iv p1, iv p2, iv p3, iv p4, iv p5, rv a6, iv (1 : Int32), iv p7, iv p8, iv p9, iv p10, rv a11, rv b17_0, .unset, .unset] [(.int (1 : Int32))] _
  refine XS.ifNo Y17.here hx rfl (hb hby at_156) rfl ((if0 _ _).trans (tlt (by decide : (0 : Int32) < (1 : Int32))).2.2.2) ?_
  show St p e below T17 m 159 #[iv p1, iv p2, iv p3, iv p4, iv p5, rv a6, iv (1 : Int32), iv p7, iv p8, iv p9, iv p10, rv a11, rv b17_0, .unset, .unset] [] _
  refine XS.aload Y17.here hx rfl (hb hby at_159) rfl rfl ?_
  show St p e below T17 m 161 #[iv p1, iv p2, iv p3, iv p4, iv p5, rv a6, iv (1 : Int32), iv p7, iv p8, iv p9, iv p10, rv a11, rv b17_0, .unset, .unset] [(.ref a11)] _
  refine XS.iload Y17.here hx rfl (hb hby at_161) rfl ?_
  show St p e below T17 m 163 #[iv p1, iv p2, iv p3, iv p4, iv p5, rv a6, iv (1 : Int32), iv p7, iv p8, iv p9, iv p10, rv a11, rv b17_0, .unset, .unset] [(.int (1 : Int32)), (.ref a11)] _
  refine XS.iconst Y17.here hx rfl (hb hby at_163) ?_
  show St p e below T17 m 164 #[iv p1, iv p2, iv p3, iv p4, iv p5, rv a6, iv (1 : Int32), iv p7, iv p8, iv p9, iv p10, rv a11, rv b17_0, .unset, .unset] [(.int (1 : Int32)), (.int (1 : Int32)), (.ref a11)] _
  refine XS.isub Y17.here hx rfl (hb hby at_164) rfl ?_
  show St p e below T17 m 165 #[iv p1, iv p2, iv p3, iv p4, iv p5, rv a6, iv (1 : Int32), iv p7, iv p8, iv p9, iv p10, rv a11, rv b17_0, .unset, .unset] [(.int (0 : Int32)), (.ref a11)] _
  refine XS.aload Y17.here hx rfl (hb hby at_165) rfl rfl ?_
  show St p e below T17 m 167 #[iv p1, iv p2, iv p3, iv p4, iv p5, rv a6, iv (1 : Int32), iv p7, iv p8, iv p9, iv p10, rv a11, rv b17_0, .unset, .unset] [(.ref a11), (.int (0 : Int32)), (.ref a11)] _
  refine XS.iload Y17.here hx rfl (hb hby at_167) rfl ?_
  show St p e below T17 m 169 #[iv p1, iv p2, iv p3, iv p4, iv p5, rv a6, iv (1 : Int32), iv p7, iv p8, iv p9, iv p10, rv a11, rv b17_0, .unset, .unset] [(.int (1 : Int32)), (.ref a11), (.int (0 : Int32)), (.ref a11)] _
  refine XS.iconst Y17.here hx rfl (hb hby at_169) ?_
  show St p e below T17 m 170 #[iv p1, iv p2, iv p3, iv p4, iv p5, rv a6, iv (1 : Int32), iv p7, iv p8, iv p9, iv p10, rv a11, rv b17_0, .unset, .unset] [(.int (1 : Int32)), (.int (1 : Int32)), (.ref a11), (.int (0 : Int32)), (.ref a11)] _
  refine XS.isub Y17.here hx rfl (hb hby at_170) rfl ?_
  show St p e below T17 m 171 #[iv p1, iv p2, iv p3, iv p4, iv p5, rv a6, iv (1 : Int32), iv p7, iv p8, iv p9, iv p10, rv a11, rv b17_0, .unset, .unset] [(.int (0 : Int32)), (.ref a11), (.int (0 : Int32)), (.ref a11)] _
  refine Y17.baloadBytes hx (j := (0 : Int32)) (v := (.int p15)) Ar19.1 (State.isArrayOf_alike hZ17.alike Ar19.2.1) Ar19.2.2 hin19 (Has.at H19 hin19 rfl) (g := (mkF m 171 #[iv p1, iv p2, iv p3, iv p4, iv p5, rv a6, iv (1 : Int32), iv p7, iv p8, iv p9, iv p10, rv a11, rv b17_0, .unset, .unset] [(.int (0 : Int32)), (.ref a11), (.int (0 : Int32)), (.ref a11)])) rfl rfl (hb hby at_171) _ ?_
  show St p e below T17 m 172 #[iv p1, iv p2, iv p3, iv p4, iv p5, rv a6, iv (1 : Int32), iv p7, iv p8, iv p9, iv p10, rv a11, rv b17_0, .unset, .unset] [(.int p15), (.int (0 : Int32)), (.ref a11)] _
  refine XS.iload Y17.here hx rfl (hb hby at_172) rfl ?_
  show St p e below T17 m 174 #[iv p1, iv p2, iv p3, iv p4, iv p5, rv a6, iv (1 : Int32), iv p7, iv p8, iv p9, iv p10, rv a11, rv b17_0, .unset, .unset] [(.int p10), (.int p15), (.int (0 : Int32)), (.ref a11)] _
  refine XS.ixor Y17.here hx rfl (hb hby at_174) rfl ?_
  show St p e below T17 m 175 #[iv p1, iv p2, iv p3, iv p4, iv p5, rv a6, iv (1 : Int32), iv p7, iv p8, iv p9, iv p10, rv a11, rv b17_0, .unset, .unset] [(.int (p15 ^^^ p10)), (.int (0 : Int32)), (.ref a11)] _
  refine XS.i2b Y17.here hx rfl (hb hby at_175) rfl ?_
  show St p e below T17 m 176 #[iv p1, iv p2, iv p3, iv p4, iv p5, rv a6, iv (1 : Int32), iv p7, iv p8, iv p9, iv p10, rv a11, rv b17_0, .unset, .unset] [(.int ((p15 ^^^ p10).toInt8.toInt32)), (.int (0 : Int32)), (.ref a11)] _
  refine st20 _ ?_
  show St p e below T20 m 177 #[iv p1, iv p2, iv p3, iv p4, iv p5, rv a6, iv (1 : Int32), iv p7, iv p8, iv p9, iv p10, rv a11, rv b17_0, .unset, .unset] [] _
  refine XS.aload X20.here hx rfl (hb hby at_177) rfl rfl ?_
  show St p e below T20 m 179 #[iv p1, iv p2, iv p3, iv p4, iv p5, rv a6, iv (1 : Int32), iv p7, iv p8, iv p9, iv p10, rv a11, rv b17_0, .unset, .unset] [(.ref b17_0)] _
  refine st27.trans ?_
  show St p e below T27 m 182 #[iv p1, iv p2, iv p3, iv p4, iv p5, rv a6, iv (1 : Int32), iv p7, iv p8, iv p9, iv p10, rv a11, rv b17_0, .unset, .unset] [(.ref a6)] _
  refine XS.aload X27.here hx rfl (hb hby at_182) rfl rfl ?_
  show St p e below T27 m 184 #[iv p1, iv p2, iv p3, iv p4, iv p5, rv a6, iv (1 : Int32), iv p7, iv p8, iv p9, iv p10, rv a11, rv b17_0, .unset, .unset] [(.ref a6), (.ref a6)] _
  refine Jvm.RoadKit.acmp (g := (mkF m 184 #[iv p1, iv p2, iv p3, iv p4, iv p5, rv a6, iv (1 : Int32), iv p7, iv p8, iv p9, iv p10, rv a11, rv b17_0, .unset, .unset] [(.ref a6), (.ref a6)])) X27 hx rfl rfl rfl (pc0 := 184) (pc' := 189) (same := true) rfl (hb hby at_184) rfl (decide_eq_true rfl) (by decide) (by decide) ?_
  show St p e below T27 m 189 #[iv p1, iv p2, iv p3, iv p4, iv p5, rv a6, iv (1 : Int32), iv p7, iv p8, iv p9, iv p10, rv a11, rv b17_0, .unset, .unset] [] _
  refine XS.aload X27.here hx rfl (hb hby at_189) rfl rfl ?_
  show St p e below T27 m 191 #[iv p1, iv p2, iv p3, iv p4, iv p5, rv a6, iv (1 : Int32), iv p7, iv p8, iv p9, iv p10, rv a11, rv b17_0, .unset, .unset] [(.ref b17_0)] _
  refine st32.trans ?_
  show St p e below T32 m 194 #[iv p1, iv p2, iv p3, iv p4, iv p5, rv a6, iv (1 : Int32), iv p7, iv p8, iv p9, iv p10, rv a11, rv b17_0, .unset, .unset] [(.ref b32_0)] _
  refine XS.astore X32.here hx rfl (hb hby at_194) rfl rfl (l' := #[iv p1, iv p2, iv p3, iv p4, iv p5, rv a6, iv (1 : Int32), iv p7, iv p8, iv p9, iv p10, rv a11, rv b17_0, rv b32_0, .unset]) rfl ?_
  show St p e below T32 m 196 #[iv p1, iv p2, iv p3, iv p4, iv p5, rv a6, iv (1 : Int32), iv p7, iv p8, iv p9, iv p10, rv a11, rv b17_0, rv b32_0, .unset] [] _
  refine XS.aload X32.here hx rfl (hb hby at_196) rfl rfl ?_
  show St p e below T32 m 198 #[iv p1, iv p2, iv p3, iv p4, iv p5, rv a6, iv (1 : Int32), iv p7, iv p8, iv p9, iv p10, rv a11, rv b17_0, rv b32_0, .unset] [(.ref b32_0)] _
  refine XS.aload X32.here hx rfl (hb hby at_198) rfl rfl ?_
  show St p e below T32 m 200 #[iv p1, iv p2, iv p3, iv p4, iv p5, rv a6, iv (1 : Int32), iv p7, iv p8, iv p9, iv p10, rv a11, rv b17_0, rv b32_0, .unset] [(.ref a11), (.ref b32_0)] _
  refine Jvm.RoadKit.acmp (g := (mkF m 200 #[iv p1, iv p2, iv p3, iv p4, iv p5, rv a6, iv (1 : Int32), iv p7, iv p8, iv p9, iv p10, rv a11, rv b17_0, rv b32_0, .unset] [(.ref a11), (.ref b32_0)])) X32 hx rfl rfl rfl (pc0 := 200) (pc' := 205) (same := false) rfl (hb hby at_200) rfl (decide_eq_false fun q => (Ne.symm ne33) (Value.ref.inj q)) (by decide) (by decide) ?_
  show St p e below T32 m 205 #[iv p1, iv p2, iv p3, iv p4, iv p5, rv a6, iv (1 : Int32), iv p7, iv p8, iv p9, iv p10, rv a11, rv b17_0, rv b32_0, .unset] [] _
  refine XS.aload X32.here hx rfl (hb hby at_205) rfl rfl ?_
  show St p e below T32 m 207 #[iv p1, iv p2, iv p3, iv p4, iv p5, rv a6, iv (1 : Int32), iv p7, iv p8, iv p9, iv p10, rv a11, rv b17_0, rv b32_0, .unset] [(.ref b32_0)] _
  refine XS.iload X32.here hx rfl (hb hby at_207) rfl ?_
  show St p e below T32 m 209 #[iv p1, iv p2, iv p3, iv p4, iv p5, rv a6, iv (1 : Int32), iv p7, iv p8, iv p9, iv p10, rv a11, rv b17_0, rv b32_0, .unset] [(.int (1 : Int32)), (.ref b32_0)] _
  refine XS.iload X32.here hx rfl (hb hby at_209) rfl ?_
  show St p e below T32 m 211 #[iv p1, iv p2, iv p3, iv p4, iv p5, rv a6, iv (1 : Int32), iv p7, iv p8, iv p9, iv p10, rv a11, rv b17_0, rv b32_0, .unset] [(.int p7), (.int (1 : Int32)), (.ref b32_0)] _
  refine XS.iload X32.here hx rfl (hb hby at_211) rfl ?_
  show St p e below T32 m 213 #[iv p1, iv p2, iv p3, iv p4, iv p5, rv a6, iv (1 : Int32), iv p7, iv p8, iv p9, iv p10, rv a11, rv b17_0, rv b32_0, .unset] [(.int p8), (.int p7), (.int (1 : Int32)), (.ref b32_0)] _
  refine XS.iload X32.here hx rfl (hb hby at_213) rfl ?_
  show St p e below T32 m 215 #[iv p1, iv p2, iv p3, iv p4, iv p5, rv a6, iv (1 : Int32), iv p7, iv p8, iv p9, iv p10, rv a11, rv b17_0, rv b32_0, .unset] [(.int p9), (.int p8), (.int p7), (.int (1 : Int32)), (.ref b32_0)] _
  refine st35 _ ?_
  show St p e below T35 m 218 #[iv p1, iv p2, iv p3, iv p4, iv p5, rv a6, iv (1 : Int32), iv p7, iv p8, iv p9, iv p10, rv a11, rv b17_0, rv b32_0, .unset] [(.int (1 : Int32))] _
  refine XS.ifYes X35.here hx rfl (pc0 := 218) (pc' := 223) rfl (hb hby at_218) rfl ((if0 _ _).trans (feq (by decide : ¬ ((1 : Int32) = (0 : Int32)))).2) (by decide) (by decide) ?_
  show St p e below T35 m 223 #[iv p1, iv p2, iv p3, iv p4, iv p5, rv a6, iv (1 : Int32), iv p7, iv p8, iv p9, iv p10, rv a11, rv b17_0, rv b32_0, .unset] [] _
  refine XS.iload X35.here hx rfl (hb hby at_223) rfl ?_
  show St p e below T35 m 225 #[iv p1, iv p2, iv p3, iv p4, iv p5, rv a6, iv (1 : Int32), iv p7, iv p8, iv p9, iv p10, rv a11, rv b17_0, rv b32_0, .unset] [(.int (1 : Int32))] _
  refine XS.ifNo X35.here hx rfl (hb hby at_225) rfl ((if0 _ _).trans (tlt (by decide : (0 : Int32) < (1 : Int32))).2.2.2) ?_
  show St p e below T35 m 228 #[iv p1, iv p2, iv p3, iv p4, iv p5, rv a6, iv (1 : Int32), iv p7, iv p8, iv p9, iv p10, rv a11, rv b17_0, rv b32_0, .unset] [] _
  refine XS.aload X35.here hx rfl (hb hby at_228) rfl rfl ?_
  show St p e below T35 m 230 #[iv p1, iv p2, iv p3, iv p4, iv p5, rv a6, iv (1 : Int32), iv p7, iv p8, iv p9, iv p10, rv a11, rv b17_0, rv b32_0, .unset] [(.ref b32_0)] _
  refine XS.iconst X35.here hx rfl (hb hby at_230) ?_
  show St p e below T35 m 231 #[iv p1, iv p2, iv p3, iv p4, iv p5, rv a6, iv (1 : Int32), iv p7, iv p8, iv p9, iv p10, rv a11, rv b17_0, rv b32_0, .unset] [(.int (0 : Int32)), (.ref b32_0)] _
  refine XS.aload X35.here hx rfl (hb hby at_231) rfl rfl ?_
  show St p e below T35 m 233 #[iv p1, iv p2, iv p3, iv p4, iv p5, rv a6, iv (1 : Int32), iv p7, iv p8, iv p9, iv p10, rv a11, rv b17_0, rv b32_0, .unset] [(.ref b32_0), (.int (0 : Int32)), (.ref b32_0)] _
  refine XS.iconst X35.here hx rfl (hb hby at_233) ?_
  show St p e below T35 m 234 #[iv p1, iv p2, iv p3, iv p4, iv p5, rv a6, iv (1 : Int32), iv p7, iv p8, iv p9, iv p10, rv a11, rv b17_0, rv b32_0, .unset] [(.int (0 : Int32)), (.ref b32_0), (.int (0 : Int32)), (.ref b32_0)] _
  refine X35.baloadBytes hx (j := (0 : Int32)) (v := (.int p15)) (by rw [e35]; exact Ar36.1) (State.isArrayOf_alike hZ17.alike Ar36.2.1) Ar36.2.2 hin36 (Has.at H36 hin36 rfl) (g := (mkF m 234 #[iv p1, iv p2, iv p3, iv p4, iv p5, rv a6, iv (1 : Int32), iv p7, iv p8, iv p9, iv p10, rv a11, rv b17_0, rv b32_0, .unset] [(.int (0 : Int32)), (.ref b32_0), (.int (0 : Int32)), (.ref b32_0)])) rfl rfl (hb hby at_234) _ ?_
  show St p e below T35 m 235 #[iv p1, iv p2, iv p3, iv p4, iv p5, rv a6, iv (1 : Int32), iv p7, iv p8, iv p9, iv p10, rv a11, rv b17_0, rv b32_0, .unset] [(.int p15), (.int (0 : Int32)), (.ref b32_0)] _
  refine XS.iload X35.here hx rfl (hb hby at_235) rfl ?_
  show St p e below T35 m 237 #[iv p1, iv p2, iv p3, iv p4, iv p5, rv a6, iv (1 : Int32), iv p7, iv p8, iv p9, iv p10, rv a11, rv b17_0, rv b32_0, .unset] [(.int p10), (.int p15), (.int (0 : Int32)), (.ref b32_0)] _
  refine XS.ixor X35.here hx rfl (hb hby at_237) rfl ?_
  show St p e below T35 m 238 #[iv p1, iv p2, iv p3, iv p4, iv p5, rv a6, iv (1 : Int32), iv p7, iv p8, iv p9, iv p10, rv a11, rv b17_0, rv b32_0, .unset] [(.int (p15 ^^^ p10)), (.int (0 : Int32)), (.ref b32_0)] _
  refine XS.i2b X35.here hx rfl (hb hby at_238) rfl ?_
  show St p e below T35 m 239 #[iv p1, iv p2, iv p3, iv p4, iv p5, rv a6, iv (1 : Int32), iv p7, iv p8, iv p9, iv p10, rv a11, rv b17_0, rv b32_0, .unset] [(.int ((p15 ^^^ p10).toInt8.toInt32)), (.int (0 : Int32)), (.ref b32_0)] _
  refine st37 _ ?_
  show St p e below T37 m 240 #[iv p1, iv p2, iv p3, iv p4, iv p5, rv a6, iv (1 : Int32), iv p7, iv p8, iv p9, iv p10, rv a11, rv b17_0, rv b32_0, .unset] [] _
  refine XS.aload X37.here hx rfl (hb hby at_240) rfl rfl ?_
  show St p e below T37 m 242 #[iv p1, iv p2, iv p3, iv p4, iv p5, rv a6, iv (1 : Int32), iv p7, iv p8, iv p9, iv p10, rv a11, rv b17_0, rv b32_0, .unset] [(.ref b17_0)] _
  refine st48.trans ?_
  show St p e below T48 m 245 #[iv p1, iv p2, iv p3, iv p4, iv p5, rv a6, iv (1 : Int32), iv p7, iv p8, iv p9, iv p10, rv a11, rv b17_0, rv b32_0, .unset] [(.ref b48_0)] _
  refine XS.astore X48.here hx rfl (hb hby at_245) rfl rfl (l' := #[iv p1, iv p2, iv p3, iv p4, iv p5, rv a6, iv (1 : Int32), iv p7, iv p8, iv p9, iv p10, rv a11, rv b17_0, rv b32_0, rv b48_0]) rfl ?_
  show St p e below T48 m 247 #[iv p1, iv p2, iv p3, iv p4, iv p5, rv a6, iv (1 : Int32), iv p7, iv p8, iv p9, iv p10, rv a11, rv b17_0, rv b32_0, rv b48_0] [] _
  refine XS.aload X48.here hx rfl (hb hby at_247) rfl rfl ?_
  show St p e below T48 m 249 #[iv p1, iv p2, iv p3, iv p4, iv p5, rv a6, iv (1 : Int32), iv p7, iv p8, iv p9, iv p10, rv a11, rv b17_0, rv b32_0, rv b48_0] [(.ref b48_0)] _
  refine XS.aload X48.here hx rfl (hb hby at_249) rfl rfl ?_
  show St p e below T48 m 251 #[iv p1, iv p2, iv p3, iv p4, iv p5, rv a6, iv (1 : Int32), iv p7, iv p8, iv p9, iv p10, rv a11, rv b17_0, rv b32_0, rv b48_0] [(.ref b32_0), (.ref b48_0)] _
  refine Jvm.RoadKit.acmp (g := (mkF m 251 #[iv p1, iv p2, iv p3, iv p4, iv p5, rv a6, iv (1 : Int32), iv p7, iv p8, iv p9, iv p10, rv a11, rv b17_0, rv b32_0, rv b48_0] [(.ref b32_0), (.ref b48_0)])) X48 hx rfl rfl rfl (pc0 := 251) (pc' := 254) (same := false) rfl (hb hby at_251) rfl (decide_eq_false fun q => (Ne.symm ne49) (Value.ref.inj q)) (by decide) (by decide) ?_
  show St p e below T48 m 254 #[iv p1, iv p2, iv p3, iv p4, iv p5, rv a6, iv (1 : Int32), iv p7, iv p8, iv p9, iv p10, rv a11, rv b17_0, rv b32_0, rv b48_0] [] _
  refine XS.aload X48.here hx rfl (hb hby at_254) rfl rfl ?_
  show St p e below T48 m 256 #[iv p1, iv p2, iv p3, iv p4, iv p5, rv a6, iv (1 : Int32), iv p7, iv p8, iv p9, iv p10, rv a11, rv b17_0, rv b32_0, rv b48_0] [(.ref b48_0)] _
  refine XS.aload X48.here hx rfl (hb hby at_256) rfl rfl ?_
  show St p e below T48 m 258 #[iv p1, iv p2, iv p3, iv p4, iv p5, rv a6, iv (1 : Int32), iv p7, iv p8, iv p9, iv p10, rv a11, rv b17_0, rv b32_0, rv b48_0] [(.ref a11), (.ref b48_0)] _
  refine Jvm.RoadKit.acmp (g := (mkF m 258 #[iv p1, iv p2, iv p3, iv p4, iv p5, rv a6, iv (1 : Int32), iv p7, iv p8, iv p9, iv p10, rv a11, rv b17_0, rv b32_0, rv b48_0] [(.ref a11), (.ref b48_0)])) X48 hx rfl rfl rfl (pc0 := 258) (pc' := 263) (same := false) rfl (hb hby at_258) rfl (decide_eq_false fun q => (Ne.symm ne50) (Value.ref.inj q)) (by decide) (by decide) ?_
  show St p e below T48 m 263 #[iv p1, iv p2, iv p3, iv p4, iv p5, rv a6, iv (1 : Int32), iv p7, iv p8, iv p9, iv p10, rv a11, rv b17_0, rv b32_0, rv b48_0] [] _
  refine XS.aload X48.here hx rfl (hb hby at_263) rfl rfl ?_
  show St p e below T48 m 265 #[iv p1, iv p2, iv p3, iv p4, iv p5, rv a6, iv (1 : Int32), iv p7, iv p8, iv p9, iv p10, rv a11, rv b17_0, rv b32_0, rv b48_0] [(.ref b48_0)] _
  refine XS.iload X48.here hx rfl (hb hby at_265) rfl ?_
  show St p e below T48 m 267 #[iv p1, iv p2, iv p3, iv p4, iv p5, rv a6, iv (1 : Int32), iv p7, iv p8, iv p9, iv p10, rv a11, rv b17_0, rv b32_0, rv b48_0] [(.int (1 : Int32)), (.ref b48_0)] _
  refine XS.iload X48.here hx rfl (hb hby at_267) rfl ?_
  show St p e below T48 m 269 #[iv p1, iv p2, iv p3, iv p4, iv p5, rv a6, iv (1 : Int32), iv p7, iv p8, iv p9, iv p10, rv a11, rv b17_0, rv b32_0, rv b48_0] [(.int p7), (.int (1 : Int32)), (.ref b48_0)] _
  refine XS.iload X48.here hx rfl (hb hby at_269) rfl ?_
  show St p e below T48 m 271 #[iv p1, iv p2, iv p3, iv p4, iv p5, rv a6, iv (1 : Int32), iv p7, iv p8, iv p9, iv p10, rv a11, rv b17_0, rv b32_0, rv b48_0] [(.int p8), (.int p7), (.int (1 : Int32)), (.ref b48_0)] _
  refine XS.iload X48.here hx rfl (hb hby at_271) rfl ?_
  show St p e below T48 m 273 #[iv p1, iv p2, iv p3, iv p4, iv p5, rv a6, iv (1 : Int32), iv p7, iv p8, iv p9, iv p10, rv a11, rv b17_0, rv b32_0, rv b48_0] [(.int p9), (.int p8), (.int p7), (.int (1 : Int32)), (.ref b48_0)] _
  refine st51 _ ?_
  show St p e below T51 m 276 #[iv p1, iv p2, iv p3, iv p4, iv p5, rv a6, iv (1 : Int32), iv p7, iv p8, iv p9, iv p10, rv a11, rv b17_0, rv b32_0, rv b48_0] [(.int (1 : Int32))] _
  refine XS.ifYes X51.here hx rfl (pc0 := 276) (pc' := 281) rfl (hb hby at_276) rfl ((if0 _ _).trans (feq (by decide : ¬ ((1 : Int32) = (0 : Int32)))).2) (by decide) (by decide) ?_
  exact kt
def law_2Q (Z : State) (wKind_SUCCESS : Addr) (wKind_RETRYABLE_FAILURE : Addr) (wKind_FINAL_FAILURE : Addr) (i0 : Int32) (i1 : Int32) (i2 : Int32) (i3 : Int32) (h0 : Heap) (n0 : Nat) (v : Option Value) (h : Heap) (L : List Loc) : Prop := v = some (.int (1 : Int32)) ∧ Fr n0 L
theorem law_2e (m : MethodId) (wKind_SUCCESS : Addr) (wKind_RETRYABLE_FAILURE : Addr) (wKind_FINAL_FAILURE : Addr) (i0 : Int32) (i1 : Int32) (i2 : Int32) (i3 : Int32) : entryFrame m #[(.int i0), (.int i1), (.int i2), (.int i3)] maxLocals = mkF m 0 #[iv i0, iv i1, iv i2, iv i3, .unset, .unset, .unset, .unset, .unset, .unset, .unset, .unset, .unset, .unset, .unset] [] := by first | (simp [entryFrame, mkF, argsToLocals, Value.category, maxLocals]; done) | rfl
set_option maxRecDepth 65536 in
set_option maxHeartbeats 40000000 in
theorem law_2 (l : Launch) (Z : State) (a0 : Array Value) (hw : HW a0 Z) (ws : List Jvm.Cond) (wKind_SUCCESS : Addr) (wKind_RETRYABLE_FAILURE : Addr) (wKind_FINAL_FAILURE : Addr) (B : Base Z wKind_SUCCESS wKind_RETRYABLE_FAILURE wKind_FINAL_FAILURE) (i0 : Int32) (i1 : Int32) (i2 : Int32) (i3 : Int32) (h0 : Heap) (n0 : Nat) (O0 : Old Z n0 h0) (pin0 : ((i0 &&& (2147483647 : Int32)) % (3 : Int32)) = (0 : Int32)) (pin1 : (i1 &&& (3 : Int32)) = (1 : Int32)) (hc4 : (nar .byte (i2.toInt8.toInt32)) = (i2.toInt8.toInt32)) :
    MetFree l x (head1 (Jvm.Cond.code x code maxLocals ret :: ws) room_1) (fun a U => a = #[(.int i0), (.int i1), (.int i2), (.int i3)] ∧ Z.Warmed39 U.vm ∧ U.heap = h0) (fun _ _ _ _ _ => True) (fun _ U o U' => ∃ v L, o = .returned v ∧ law_2Q Z wKind_SUCCESS wKind_RETRYABLE_FAILURE wKind_FINAL_FAILURE i0 i1 i2 i3 h0 n0 v U'.heap L ∧ ReturnedEndW U o U' L room_1.cells room_1.slots) := by
  refine MetFree.of_bodySF (plainFor_of_name pn_com_example_nervous_key_nervouskey_OutcomeOfPinLaw) hisR ?_
  intro p e s m args below meth c s₁ Bd hml0 hP hK
  obtain ⟨rfl, hZ, hh⟩ := hP
  have hx := Bd.exec
  have hby := Bd.bytes
  have hml : c.maxLocals = 15 := hml0
  have hown : s.vm.findClass "com/example/nervous_key/nervouskey/OutcomeOfPinLaw" = some m.cls := findClass_of_methodNamed Bd.named
  have hnm := (name_of_methodNamed Bd.named Bd.method).1
  have X0 : Stand p l e room_1 s m #[(.int i0), (.int i1), (.int i2), (.int i3)] below meth c s₁ [] 0 0 := Stand.of_body Bd
  have e0 : s₁.heap = h0 := by rw [← hh, Bd.state]; rfl
  have N0 := Fr.nil n0
  have pre0 : ∀ t, Steps p.tables e below (s₁.setTop (mkF m 0 #[iv i0, iv i1, iv i2, iv i3, .unset, .unset, .unset, .unset, .unset, .unset, .unset, .unset, .unset, .unset, .unset] [])) t → Steps p.tables e below (s₁.setTop (entryFrame m #[(.int i0), (.int i1), (.int i2), (.int i3)] maxLocals)) t := fun t k => castTop (law_2e m wKind_SUCCESS wKind_RETRYABLE_FAILURE wKind_FINAL_FAILURE i0 i1 i2 i3) k
  obtain ⟨T1, X1, e1, st1⟩ := getS2 X0 hx hZ hown (host := "") (Or.inl (ow hw 1 rfl)) Via.refl e0 (B.1.ext O0.2) (g := (mkF m 13 #[iv i0, iv i1, iv i2, iv i3, iv (0 : Int32), .unset, .unset, .unset, .unset, .unset, .unset, .unset, .unset, .unset, .unset] [])) rfl (hb hby at_13)
  obtain ⟨T2, h2, L2, b2_0, k2_0, X2, e2, N2, K2, lo2_1, f2_2, f2_3, st2⟩ := g0_3 i0 i1 i2 i3 (0 : Int32) wKind_SUCCESS (i2.toInt8.toInt32) ((i2 >>> ((8 : Int32) &&& 31)).toInt8.toInt32) ((i2 >>> ((16 : Int32) &&& 31)).toInt8.toInt32) ((i3 ||| (1 : Int32)).toInt8.toInt32) X1 hx hZ hw hby hml hown e1 O0 N0 (by decide) (by decide) (by decide) (by decide)
  have O_K2 : Old Z n0 h2 := O0.keep K2 all0
  have Kp_K2 : Keep h0 h2 [] := (Keep.refl h0 []).trans K2 all0
  have g3 : n0 ≤ b2_0 := Nat.le_trans (Nat.le_trans (Nat.le_of_eq O0.1.symm) O0.2.1) lo2_1
  obtain ⟨T5, h5, L5, vm5, b5_0, b5_1, b5_2, b5_3, X5, e5, hSq5, N5, K5, lo5_1, lo5_2, lo5_3, lo5_4, nq5_5, nq5_6, nq5_7, nq5_8, nq5_9, nq5_10, f5_11, f5_12, f5_13, f5_14, f5_15, f5_16, f5_17, f5_18, f5_19, f5_20, f5_21, st5⟩ := g0_4 i0 i1 i2 i3 (0 : Int32) wKind_SUCCESS (i2.toInt8.toInt32) ((i2 >>> ((8 : Int32) &&& 31)).toInt8.toInt32) ((i2 >>> ((16 : Int32) &&& 31)).toInt8.toInt32) ((i3 ||| (1 : Int32)).toInt8.toInt32) b2_0 k2_0 (nar .byte (i2.toInt8.toInt32)) X2 hx hZ hw hby hml hown e2 O_K2 N2 (by decide) (by decide) (by decide) (by decide) B.2.1 f2_3 f2_2 g3 hc4
  obtain ⟨Y5, hS5, hZ5, hown5⟩ := rebS (s := s) (vm0 := s.vm) (State.WarmedH.since (State.WarmedH.refl s) 0) (Nat.zero_le _) X5 hSq5 K5.1 hZ hown
  have z6 : h0.size ≤ b2_0 := Nat.le_trans (Keep.refl h0 []).1 lo2_1
  have O_K5 : Old Z n0 h5 := O_K2.keep K5 (allS g3 all0)
  have Kp_K5 : Keep h0 h5 [] := Kp_K2.trans K5 (allS (Or.inr z6) all0)
  obtain ⟨cq7, kq7, q7a, q7b, q7c⟩ := isOf hZ5 e5 f5_13
  obtain ⟨_, _, ⟨T7, L7, k7, n7⟩, -, X7, ⟨Lc7, hQ7, l7, y7, z7⟩, st7⟩ := Y5.virtualBack hx (y := y4) (z := y4) hown5 (mvT hZ5 (ow hw 44 rfl)) (mvT hZ5 (ow hw 45 rfl)) (notFace_of_selects (args := #[]) (mvT hZ5 (ow hw 47 rfl))) (mvT hZ5 (ow hw 47 rfl)) (mvT hZ5 (ow hw 46 rfl)) (by decide) (backOf (W := 0) (r4_1 l Z a0 hw [] b5_0 wKind_SUCCESS h5 n0 O_K5 f5_14) hZ5 (ow hw 48 rfl) (ow hw 7 rfl) (by decide) (by decide)) q7a q7c (g := (mkF m 283 #[iv i0, iv i1, iv i2, iv i3, iv (0 : Int32), rv wKind_SUCCESS, iv (1 : Int32), iv (i2.toInt8.toInt32), iv ((i2 >>> ((8 : Int32) &&& 31)).toInt8.toInt32), iv ((i2 >>> ((16 : Int32) &&& 31)).toInt8.toInt32), iv ((i3 ||| (1 : Int32)).toInt8.toInt32), rv b2_0, rv b5_0, rv b5_1, rv b5_2] [(.ref b5_0)])) rfl (by rw [hml]; rfl) (Steps.refl _) (argsL := []) (rest := []) (lenOf pd___Lcom_example_nervous_key_nervouskey_Outcome_Kind_ rfl) rfl (by show 2 * 0 + _ ≤ _; exact Nat.le_of_eq rfl) (hb hby at_283) (fun _ _ => ⟨rfl, e5, (by decide : 9 + 0 ≤ _), (by decide : 54 + 0 ≤ _)⟩)
  dsimp only [Pt.U, Pt.locs, Pt.cells, Pt.slots] at X7 l7 y7 z7 st7 hQ7
  subst l7 y7 z7
  obtain ⟨rfl, N7q, e7⟩ := hQ7
  have N7 := Fr.app N5 N7q
  obtain ⟨fs, hr, hrun, hended, hE⟩ := Stand.leaveW (s := s) (vm₁ := vm5) X7 hS5 (by rw [e7]; exact (Nat.le_refl _)) (v := some (.int (1 : Int32))) (fun h => by rw [Bd.returns] at h; cases h)
  refine ⟨_, _, pre0 _ ?_, hrun, hended, _, _, rfl, ?_, hE.1, hE.2.1, hE.2.2.1, hE.2.2.2.mono (by decide) (by decide)⟩
  · show St p e below s₁ m 0 #[iv i0, iv i1, iv i2, iv i3, .unset, .unset, .unset, .unset, .unset, .unset, .unset, .unset, .unset, .unset, .unset] [] _
    refine XS.iloadN X0.here hx rfl (hb hby at_0) rfl ?_
    show St p e below s₁ m 1 #[iv i0, iv i1, iv i2, iv i3, .unset, .unset, .unset, .unset, .unset, .unset, .unset, .unset, .unset, .unset, .unset] [(.int i0)] _
    refine X0.ldcInt hx hown (mvT hZ (ow hw 0 rfl)) (g := (mkF m 1 #[iv i0, iv i1, iv i2, iv i3, .unset, .unset, .unset, .unset, .unset, .unset, .unset, .unset, .unset, .unset, .unset] [(.int i0)])) rfl (hb hby at_1) _ ?_
    show St p e below s₁ m 3 #[iv i0, iv i1, iv i2, iv i3, .unset, .unset, .unset, .unset, .unset, .unset, .unset, .unset, .unset, .unset, .unset] [(.int (2147483647 : Int32)), (.int i0)] _
    refine XS.iand X0.here hx rfl (hb hby at_3) rfl ?_
    show St p e below s₁ m 4 #[iv i0, iv i1, iv i2, iv i3, .unset, .unset, .unset, .unset, .unset, .unset, .unset, .unset, .unset, .unset, .unset] [(.int (i0 &&& (2147483647 : Int32)))] _
    refine XS.iconst X0.here hx rfl (hb hby at_4) ?_
    show St p e below s₁ m 5 #[iv i0, iv i1, iv i2, iv i3, .unset, .unset, .unset, .unset, .unset, .unset, .unset, .unset, .unset, .unset, .unset] [(.int (3 : Int32)), (.int (i0 &&& (2147483647 : Int32)))] _
    refine Jvm.RoadKit.iremM (g := (mkF m 5 #[iv i0, iv i1, iv i2, iv i3, .unset, .unset, .unset, .unset, .unset, .unset, .unset, .unset, .unset, .unset, .unset] [(.int (3 : Int32)), (.int (i0 &&& (2147483647 : Int32)))])) X0 hx rfl (hb hby at_5) rfl (by decide : ¬ ((3 : Int32) = (0 : Int32))) ?_
    show St p e below s₁ m 6 #[iv i0, iv i1, iv i2, iv i3, .unset, .unset, .unset, .unset, .unset, .unset, .unset, .unset, .unset, .unset, .unset] [(.int ((i0 &&& (2147483647 : Int32)) % (3 : Int32)))] _
    rw [pin0]
    show St p e below s₁ m 6 #[iv i0, iv i1, iv i2, iv i3, .unset, .unset, .unset, .unset, .unset, .unset, .unset, .unset, .unset, .unset, .unset] [(.int (0 : Int32))] _
    refine XS.istore X0.here hx rfl (hb hby at_6) rfl (l' := #[iv i0, iv i1, iv i2, iv i3, iv (0 : Int32), .unset, .unset, .unset, .unset, .unset, .unset, .unset, .unset, .unset, .unset]) rfl ?_
    show St p e below s₁ m 8 #[iv i0, iv i1, iv i2, iv i3, iv (0 : Int32), .unset, .unset, .unset, .unset, .unset, .unset, .unset, .unset, .unset, .unset] [] _
    refine XS.iload X0.here hx rfl (hb hby at_8) rfl ?_
    show St p e below s₁ m 10 #[iv i0, iv i1, iv i2, iv i3, iv (0 : Int32), .unset, .unset, .unset, .unset, .unset, .unset, .unset, .unset, .unset, .unset] [(.int (0 : Int32))] _
    refine XS.ifNo X0.here hx rfl (hb hby at_10) rfl ((if0 _ _).trans (teq (rfl : (0 : Int32) = (0 : Int32))).2) ?_
    show St p e below s₁ m 13 #[iv i0, iv i1, iv i2, iv i3, iv (0 : Int32), .unset, .unset, .unset, .unset, .unset, .unset, .unset, .unset, .unset, .unset] [] _
    refine st1 _ ?_
    show St p e below T1 m 16 #[iv i0, iv i1, iv i2, iv i3, iv (0 : Int32), .unset, .unset, .unset, .unset, .unset, .unset, .unset, .unset, .unset, .unset] [(.ref wKind_SUCCESS)] _
    refine XS.astore X1.here hx rfl (hb hby at_16) rfl rfl (l' := #[iv i0, iv i1, iv i2, iv i3, iv (0 : Int32), rv wKind_SUCCESS, .unset, .unset, .unset, .unset, .unset, .unset, .unset, .unset, .unset]) rfl ?_
    show St p e below T1 m 18 #[iv i0, iv i1, iv i2, iv i3, iv (0 : Int32), rv wKind_SUCCESS, .unset, .unset, .unset, .unset, .unset, .unset, .unset, .unset, .unset] [] _
    refine XS.goto X1.here hx rfl (pc0 := 18) (pc' := 40) rfl (hb hby at_18) (by decide) (by decide) ?_
    show St p e below T1 m 40 #[iv i0, iv i1, iv i2, iv i3, iv (0 : Int32), rv wKind_SUCCESS, .unset, .unset, .unset, .unset, .unset, .unset, .unset, .unset, .unset] [] _
    refine XS.iloadN X1.here hx rfl (hb hby at_40) rfl ?_
    show St p e below T1 m 41 #[iv i0, iv i1, iv i2, iv i3, iv (0 : Int32), rv wKind_SUCCESS, .unset, .unset, .unset, .unset, .unset, .unset, .unset, .unset, .unset] [(.int i1)] _
    refine XS.iconst X1.here hx rfl (hb hby at_41) ?_
    show St p e below T1 m 42 #[iv i0, iv i1, iv i2, iv i3, iv (0 : Int32), rv wKind_SUCCESS, .unset, .unset, .unset, .unset, .unset, .unset, .unset, .unset, .unset] [(.int (3 : Int32)), (.int i1)] _
    refine XS.iand X1.here hx rfl (hb hby at_42) rfl ?_
    show St p e below T1 m 43 #[iv i0, iv i1, iv i2, iv i3, iv (0 : Int32), rv wKind_SUCCESS, .unset, .unset, .unset, .unset, .unset, .unset, .unset, .unset, .unset] [(.int (i1 &&& (3 : Int32)))] _
    rw [pin1]
    show St p e below T1 m 43 #[iv i0, iv i1, iv i2, iv i3, iv (0 : Int32), rv wKind_SUCCESS, .unset, .unset, .unset, .unset, .unset, .unset, .unset, .unset, .unset] [(.int (1 : Int32))] _
    refine XS.istore X1.here hx rfl (hb hby at_43) rfl (l' := #[iv i0, iv i1, iv i2, iv i3, iv (0 : Int32), rv wKind_SUCCESS, iv (1 : Int32), .unset, .unset, .unset, .unset, .unset, .unset, .unset, .unset]) rfl ?_
    show St p e below T1 m 45 #[iv i0, iv i1, iv i2, iv i3, iv (0 : Int32), rv wKind_SUCCESS, iv (1 : Int32), .unset, .unset, .unset, .unset, .unset, .unset, .unset, .unset] [] _
    refine XS.iloadN X1.here hx rfl (hb hby at_45) rfl ?_
    show St p e below T1 m 46 #[iv i0, iv i1, iv i2, iv i3, iv (0 : Int32), rv wKind_SUCCESS, iv (1 : Int32), .unset, .unset, .unset, .unset, .unset, .unset, .unset, .unset] [(.int i2)] _
    refine XS.i2b X1.here hx rfl (hb hby at_46) rfl ?_
    show St p e below T1 m 47 #[iv i0, iv i1, iv i2, iv i3, iv (0 : Int32), rv wKind_SUCCESS, iv (1 : Int32), .unset, .unset, .unset, .unset, .unset, .unset, .unset, .unset] [(.int (i2.toInt8.toInt32))] _
    refine XS.istore X1.here hx rfl (hb hby at_47) rfl (l' := #[iv i0, iv i1, iv i2, iv i3, iv (0 : Int32), rv wKind_SUCCESS, iv (1 : Int32), iv (i2.toInt8.toInt32), .unset, .unset, .unset, .unset, .unset, .unset, .unset]) rfl ?_
    show St p e below T1 m 49 #[iv i0, iv i1, iv i2, iv i3, iv (0 : Int32), rv wKind_SUCCESS, iv (1 : Int32), iv (i2.toInt8.toInt32), .unset, .unset, .unset, .unset, .unset, .unset, .unset] [] _
    refine XS.iloadN X1.here hx rfl (hb hby at_49) rfl ?_
    show St p e below T1 m 50 #[iv i0, iv i1, iv i2, iv i3, iv (0 : Int32), rv wKind_SUCCESS, iv (1 : Int32), iv (i2.toInt8.toInt32), .unset, .unset, .unset, .unset, .unset, .unset, .unset] [(.int i2)] _
    refine XS.bipush X1.here hx rfl (hb hby at_50) ?_
    show St p e below T1 m 52 #[iv i0, iv i1, iv i2, iv i3, iv (0 : Int32), rv wKind_SUCCESS, iv (1 : Int32), iv (i2.toInt8.toInt32), .unset, .unset, .unset, .unset, .unset, .unset, .unset] [(.int (8 : Int32)), (.int i2)] _
    refine XS.ishr X1.here hx rfl (hb hby at_52) rfl ?_
    show St p e below T1 m 53 #[iv i0, iv i1, iv i2, iv i3, iv (0 : Int32), rv wKind_SUCCESS, iv (1 : Int32), iv (i2.toInt8.toInt32), .unset, .unset, .unset, .unset, .unset, .unset, .unset] [(.int (i2 >>> ((8 : Int32) &&& 31)))] _
    refine XS.i2b X1.here hx rfl (hb hby at_53) rfl ?_
    show St p e below T1 m 54 #[iv i0, iv i1, iv i2, iv i3, iv (0 : Int32), rv wKind_SUCCESS, iv (1 : Int32), iv (i2.toInt8.toInt32), .unset, .unset, .unset, .unset, .unset, .unset, .unset] [(.int ((i2 >>> ((8 : Int32) &&& 31)).toInt8.toInt32))] _
    refine XS.istore X1.here hx rfl (hb hby at_54) rfl (l' := #[iv i0, iv i1, iv i2, iv i3, iv (0 : Int32), rv wKind_SUCCESS, iv (1 : Int32), iv (i2.toInt8.toInt32), iv ((i2 >>> ((8 : Int32) &&& 31)).toInt8.toInt32), .unset, .unset, .unset, .unset, .unset, .unset]) rfl ?_
    show St p e below T1 m 56 #[iv i0, iv i1, iv i2, iv i3, iv (0 : Int32), rv wKind_SUCCESS, iv (1 : Int32), iv (i2.toInt8.toInt32), iv ((i2 >>> ((8 : Int32) &&& 31)).toInt8.toInt32), .unset, .unset, .unset, .unset, .unset, .unset] [] _
    refine XS.iloadN X1.here hx rfl (hb hby at_56) rfl ?_
    show St p e below T1 m 57 #[iv i0, iv i1, iv i2, iv i3, iv (0 : Int32), rv wKind_SUCCESS, iv (1 : Int32), iv (i2.toInt8.toInt32), iv ((i2 >>> ((8 : Int32) &&& 31)).toInt8.toInt32), .unset, .unset, .unset, .unset, .unset, .unset] [(.int i2)] _
    refine XS.bipush X1.here hx rfl (hb hby at_57) ?_
    show St p e below T1 m 59 #[iv i0, iv i1, iv i2, iv i3, iv (0 : Int32), rv wKind_SUCCESS, iv (1 : Int32), iv (i2.toInt8.toInt32), iv ((i2 >>> ((8 : Int32) &&& 31)).toInt8.toInt32), .unset, .unset, .unset, .unset, .unset, .unset] [(.int (16 : Int32)), (.int i2)] _
    refine XS.ishr X1.here hx rfl (hb hby at_59) rfl ?_
    show St p e below T1 m 60 #[iv i0, iv i1, iv i2, iv i3, iv (0 : Int32), rv wKind_SUCCESS, iv (1 : Int32), iv (i2.toInt8.toInt32), iv ((i2 >>> ((8 : Int32) &&& 31)).toInt8.toInt32), .unset, .unset, .unset, .unset, .unset, .unset] [(.int (i2 >>> ((16 : Int32) &&& 31)))] _
    refine XS.i2b X1.here hx rfl (hb hby at_60) rfl ?_
    show St p e below T1 m 61 #[iv i0, iv i1, iv i2, iv i3, iv (0 : Int32), rv wKind_SUCCESS, iv (1 : Int32), iv (i2.toInt8.toInt32), iv ((i2 >>> ((8 : Int32) &&& 31)).toInt8.toInt32), .unset, .unset, .unset, .unset, .unset, .unset] [(.int ((i2 >>> ((16 : Int32) &&& 31)).toInt8.toInt32))] _
    refine XS.istore X1.here hx rfl (hb hby at_61) rfl (l' := #[iv i0, iv i1, iv i2, iv i3, iv (0 : Int32), rv wKind_SUCCESS, iv (1 : Int32), iv (i2.toInt8.toInt32), iv ((i2 >>> ((8 : Int32) &&& 31)).toInt8.toInt32), iv ((i2 >>> ((16 : Int32) &&& 31)).toInt8.toInt32), .unset, .unset, .unset, .unset, .unset]) rfl ?_
    show St p e below T1 m 63 #[iv i0, iv i1, iv i2, iv i3, iv (0 : Int32), rv wKind_SUCCESS, iv (1 : Int32), iv (i2.toInt8.toInt32), iv ((i2 >>> ((8 : Int32) &&& 31)).toInt8.toInt32), iv ((i2 >>> ((16 : Int32) &&& 31)).toInt8.toInt32), .unset, .unset, .unset, .unset, .unset] [] _
    refine XS.iloadN X1.here hx rfl (hb hby at_63) rfl ?_
    show St p e below T1 m 64 #[iv i0, iv i1, iv i2, iv i3, iv (0 : Int32), rv wKind_SUCCESS, iv (1 : Int32), iv (i2.toInt8.toInt32), iv ((i2 >>> ((8 : Int32) &&& 31)).toInt8.toInt32), iv ((i2 >>> ((16 : Int32) &&& 31)).toInt8.toInt32), .unset, .unset, .unset, .unset, .unset] [(.int i3)] _
    refine XS.iconst X1.here hx rfl (hb hby at_64) ?_
    show St p e below T1 m 65 #[iv i0, iv i1, iv i2, iv i3, iv (0 : Int32), rv wKind_SUCCESS, iv (1 : Int32), iv (i2.toInt8.toInt32), iv ((i2 >>> ((8 : Int32) &&& 31)).toInt8.toInt32), iv ((i2 >>> ((16 : Int32) &&& 31)).toInt8.toInt32), .unset, .unset, .unset, .unset, .unset] [(.int (1 : Int32)), (.int i3)] _
    refine XS.ior X1.here hx rfl (hb hby at_65) rfl ?_
    show St p e below T1 m 66 #[iv i0, iv i1, iv i2, iv i3, iv (0 : Int32), rv wKind_SUCCESS, iv (1 : Int32), iv (i2.toInt8.toInt32), iv ((i2 >>> ((8 : Int32) &&& 31)).toInt8.toInt32), iv ((i2 >>> ((16 : Int32) &&& 31)).toInt8.toInt32), .unset, .unset, .unset, .unset, .unset] [(.int (i3 ||| (1 : Int32)))] _
    refine XS.i2b X1.here hx rfl (hb hby at_66) rfl ?_
    show St p e below T1 m 67 #[iv i0, iv i1, iv i2, iv i3, iv (0 : Int32), rv wKind_SUCCESS, iv (1 : Int32), iv (i2.toInt8.toInt32), iv ((i2 >>> ((8 : Int32) &&& 31)).toInt8.toInt32), iv ((i2 >>> ((16 : Int32) &&& 31)).toInt8.toInt32), .unset, .unset, .unset, .unset, .unset] [(.int ((i3 ||| (1 : Int32)).toInt8.toInt32))] _
    refine XS.istore X1.here hx rfl (hb hby at_67) rfl (l' := #[iv i0, iv i1, iv i2, iv i3, iv (0 : Int32), rv wKind_SUCCESS, iv (1 : Int32), iv (i2.toInt8.toInt32), iv ((i2 >>> ((8 : Int32) &&& 31)).toInt8.toInt32), iv ((i2 >>> ((16 : Int32) &&& 31)).toInt8.toInt32), iv ((i3 ||| (1 : Int32)).toInt8.toInt32), .unset, .unset, .unset, .unset]) rfl ?_
    refine st2 _ ?_
    refine st5 _ ?_
    show St p e below T5 m 281 #[iv i0, iv i1, iv i2, iv i3, iv (0 : Int32), rv wKind_SUCCESS, iv (1 : Int32), iv (i2.toInt8.toInt32), iv ((i2 >>> ((8 : Int32) &&& 31)).toInt8.toInt32), iv ((i2 >>> ((16 : Int32) &&& 31)).toInt8.toInt32), iv ((i3 ||| (1 : Int32)).toInt8.toInt32), rv b2_0, rv b5_0, rv b5_1, rv b5_2] [] _
    refine XS.aload Y5.here hx rfl (hb hby at_281) rfl rfl ?_
    show St p e below T5 m 283 #[iv i0, iv i1, iv i2, iv i3, iv (0 : Int32), rv wKind_SUCCESS, iv (1 : Int32), iv (i2.toInt8.toInt32), iv ((i2 >>> ((8 : Int32) &&& 31)).toInt8.toInt32), iv ((i2 >>> ((16 : Int32) &&& 31)).toInt8.toInt32), iv ((i3 ||| (1 : Int32)).toInt8.toInt32), rv b2_0, rv b5_0, rv b5_1, rv b5_2] [(.ref b5_0)] _
    refine st7.trans ?_
    show St p e below T7 m 286 #[iv i0, iv i1, iv i2, iv i3, iv (0 : Int32), rv wKind_SUCCESS, iv (1 : Int32), iv (i2.toInt8.toInt32), iv ((i2 >>> ((8 : Int32) &&& 31)).toInt8.toInt32), iv ((i2 >>> ((16 : Int32) &&& 31)).toInt8.toInt32), iv ((i3 ||| (1 : Int32)).toInt8.toInt32), rv b2_0, rv b5_0, rv b5_1, rv b5_2] [(.ref wKind_SUCCESS)] _
    refine XS.aload X7.here hx rfl (hb hby at_286) rfl rfl ?_
    show St p e below T7 m 288 #[iv i0, iv i1, iv i2, iv i3, iv (0 : Int32), rv wKind_SUCCESS, iv (1 : Int32), iv (i2.toInt8.toInt32), iv ((i2 >>> ((8 : Int32) &&& 31)).toInt8.toInt32), iv ((i2 >>> ((16 : Int32) &&& 31)).toInt8.toInt32), iv ((i3 ||| (1 : Int32)).toInt8.toInt32), rv b2_0, rv b5_0, rv b5_1, rv b5_2] [(.ref wKind_SUCCESS), (.ref wKind_SUCCESS)] _
    refine Jvm.RoadKit.acmp (g := (mkF m 288 #[iv i0, iv i1, iv i2, iv i3, iv (0 : Int32), rv wKind_SUCCESS, iv (1 : Int32), iv (i2.toInt8.toInt32), iv ((i2 >>> ((8 : Int32) &&& 31)).toInt8.toInt32), iv ((i2 >>> ((16 : Int32) &&& 31)).toInt8.toInt32), iv ((i3 ||| (1 : Int32)).toInt8.toInt32), rv b2_0, rv b5_0, rv b5_1, rv b5_2] [(.ref wKind_SUCCESS), (.ref wKind_SUCCESS)])) X7 hx rfl rfl rfl (pc0 := 288) (pc' := 291) (same := true) rfl (hb hby at_288) rfl (decide_eq_true rfl) (by decide) (by decide) ?_
    show St p e below T7 m 291 #[iv i0, iv i1, iv i2, iv i3, iv (0 : Int32), rv wKind_SUCCESS, iv (1 : Int32), iv (i2.toInt8.toInt32), iv ((i2 >>> ((8 : Int32) &&& 31)).toInt8.toInt32), iv ((i2 >>> ((16 : Int32) &&& 31)).toInt8.toInt32), iv ((i3 ||| (1 : Int32)).toInt8.toInt32), rv b2_0, rv b5_0, rv b5_1, rv b5_2] [] _
    refine XS.iconst X7.here hx rfl (hb hby at_291) ?_
    show St p e below T7 m 292 #[iv i0, iv i1, iv i2, iv i3, iv (0 : Int32), rv wKind_SUCCESS, iv (1 : Int32), iv (i2.toInt8.toInt32), iv ((i2 >>> ((8 : Int32) &&& 31)).toInt8.toInt32), iv ((i2 >>> ((16 : Int32) &&& 31)).toInt8.toInt32), iv ((i3 ||| (1 : Int32)).toInt8.toInt32), rv b2_0, rv b5_0, rv b5_1, rv b5_2] [(.int (1 : Int32))] _
    refine XS.goto X7.here hx rfl (pc0 := 292) (pc' := 296) rfl (hb hby at_292) (by decide) (by decide) ?_
    show St p e below T7 m 296 #[iv i0, iv i1, iv i2, iv i3, iv (0 : Int32), rv wKind_SUCCESS, iv (1 : Int32), iv (i2.toInt8.toInt32), iv ((i2 >>> ((8 : Int32) &&& 31)).toInt8.toInt32), iv ((i2 >>> ((16 : Int32) &&& 31)).toInt8.toInt32), iv ((i3 ||| (1 : Int32)).toInt8.toInt32), rv b2_0, rv b5_0, rv b5_1, rv b5_2] [(.int (1 : Int32))] _
    exact retN X7 hx (t := .boolean) Bd.returns (by simp) (hb hby at_296) hr
  · show law_2Q Z wKind_SUCCESS wKind_RETRYABLE_FAILURE wKind_FINAL_FAILURE i0 i1 i2 i3 h0 n0 _ T7.heap _
    rw [e7]
    exact ⟨rfl, N7⟩
set_option maxRecDepth 65536 in
set_option maxHeartbeats 40000000 in
theorem g0_5 {p : Program} {l : Launch} {e : Env} {R : Room} {s : State} {m : MethodId} {args : Array Value} {below : List Frame} {meth : Method} {c : Code} {T0 : State} {locs : List Loc} {cells slots : Nat} {Z : State} {a0 : Array Value} {h0 : Heap} {n0 : Nat} (p1 : Int32) (p2 : Int32) (p3 : Int32) (p4 : Int32) (p5 : Int32) (a6 : Addr) (p7 : Int32) (p8 : Int32) (p9 : Int32) (p10 : Int32)
    (X0 : Stand p l e R s m args below meth c T0 locs cells slots) (hx : p.tables.exec = Jvm.exec) (hZ : Z.Warmed39 s.vm) (hw : HW a0 Z) (hby : c.code = code) (hml : c.maxLocals = 15) (hown : s.vm.findClass "com/example/nervous_key/nervouskey/OutcomeOfPinLaw" = some m.cls) (e0 : T0.heap = h0) (O0 : Old Z n0 h0) (N0 : Fr n0 locs) (rc : cells + 1 ≤ R.cells) (rs : slots + 2 ≤ R.slots) (rf : 0 ≤ R.frames) (rl : 0 ≤ R.locals) :
    ∃ (T' : State) (h' : Heap) (L' : List Loc) (b11 : Addr) (k11 : ClassId), Stand p l e R s m args below meth c T' L' (cells + 1) (slots + 2) ∧ T'.heap = h' ∧ Fr n0 L' ∧ Keep h0 h' [] ∧ h0.size ≤ b11 ∧ Arv Z h' b11 k11 .byte (2 : Int32) [(.int (nar .byte p7)), (.int (nar .byte p8))] (.int (0 : Int32)) ∧ Exa Z h' b11 "[B" ∧
      ∀ target, St p e below T' m 145 #[iv p1, iv p2, iv p3, iv p4, iv p5, rv a6, iv (2 : Int32), iv p7, iv p8, iv p9, iv p10, rv b11, .unset, .unset, .unset] [] target → St p e below T0 m 69 #[iv p1, iv p2, iv p3, iv p4, iv p5, rv a6, iv (2 : Int32), iv p7, iv p8, iv p9, iv p10, .unset, .unset, .unset, .unset] [] target := by
  obtain ⟨T11, h11, k11, X11, e11, E11, A11, C11, st11⟩ := newPE X0 hx hZ (ow hw 4 rfl) e0 (g := (mkF m 108 #[iv p1, iv p2, iv p3, iv p4, iv p5, rv a6, iv (2 : Int32), iv p7, iv p8, iv p9, iv p10, .unset, .unset, .unset, .unset] [(.int (2 : Int32))])) rfl (hb hby at_108) rfl (by decide) (cap := 2) (by decide) (by decide) (by omega) (by omega) (ad := "[B") (by decide)
  obtain ⟨b11, g11⟩ : ∃ z, z = h0.size := ⟨_, rfl⟩
  rw [← g11] at A11 C11 st11
  have O_E11 : Old Z n0 h11 := O0.ext E11
  have Kp_E11 : Keep h0 h11 [] := (Keep.refl h0 []).ext E11
  have V11 : Arv Z h11 b11 k11 .byte (2 : Int32) [(.int (0 : Int32)), (.int (0 : Int32))] (.int (0 : Int32)) := (Arv.new A11 (by decide)).pad (pad_rep [] (.int (0 : Int32)) 2)
  obtain ⟨cl12, Ar12, q12, S12, M12, H12, G12⟩ := id V11
  have hin12 : ¬ ((0 : Int32) < 0 ∨ cl12.slots.size ≤ ((0 : Int32)).toNatClampNeg) := inb_of S12 ⟨by decide, by decide⟩
  obtain ⟨T12, h12, X12, e12, W12, st12⟩ := stB X11 hx hZ e11 Ar12 (j := (0 : Int32)) hin12 (g := (mkF m 114 #[iv p1, iv p2, iv p3, iv p4, iv p5, rv a6, iv (2 : Int32), iv p7, iv p8, iv p9, iv p10, .unset, .unset, .unset, .unset] [(.int p7), (.int (0 : Int32)), (.ref b11), (.ref b11)])) rfl rfl (hb hby at_114)
  have g14 : n0 ≤ b11 := Nat.le_trans (Nat.le_trans (Nat.le_of_eq O0.1.symm) O0.2.1) (Nat.le_of_eq g11.symm)
  have z15 : h0.size ≤ b11 := Nat.le_trans (Keep.refl h0 []).1 (Nat.le_of_eq g11.symm)
  have O_W12 : Old Z n0 h12 := O_E11.wr W12 g14
  have Kp_W12 : Keep h0 h12 [] := Kp_E11.wr W12 (Or.inr z15)
  have N16 := Fr.snoc X12 N0 g14
  have f13 : Arv Z h12 b11 k11 .byte (2 : Int32) [(.int (nar .byte p7)), (.int (0 : Int32))] (.int (0 : Int32)) := Arv.set Ar12 q12 S12 M12 H12 G12 (fits_nar_byte _) W12 0 rfl (Nat.le_of_ble_eq_true rfl)
  obtain ⟨cl17, Ar17, q17, S17, M17, H17, G17⟩ := id f13
  have hin17 : ¬ ((1 : Int32) < 0 ∨ cl17.slots.size ≤ ((1 : Int32)).toNatClampNeg) := inb_of S17 ⟨by decide, by decide⟩
  obtain ⟨T17, h17, X17, e17, W17, st17⟩ := stB X12 hx hZ e12 Ar17 (j := (1 : Int32)) hin17 (g := (mkF m 119 #[iv p1, iv p2, iv p3, iv p4, iv p5, rv a6, iv (2 : Int32), iv p7, iv p8, iv p9, iv p10, .unset, .unset, .unset, .unset] [(.int p8), (.int (1 : Int32)), (.ref b11), (.ref b11)])) rfl rfl (hb hby at_119)
  have O_W17 : Old Z n0 h17 := O_W12.wr W17 g14
  have Kp_W17 : Keep h0 h17 [] := Kp_W12.wr W17 (Or.inr z15)
  have N19 := Fr.snoc X17 N16 g14
  have f18 : Arv Z h17 b11 k11 .byte (2 : Int32) [(.int (nar .byte p7)), (.int (nar .byte p8))] (.int (0 : Int32)) := Arv.set Ar17 q17 S17 M17 H17 G17 (fits_nar_byte _) W17 1 rfl (Nat.le_of_ble_eq_true rfl)
  have f20 := ((C11.wr W12).wr W17)
  refine ⟨T17, _, _, b11, k11, X17.more (by omega) (by omega), e17, N19, Kp_W17, z15, f18, f20, fun target kt => ?_⟩
  show St p e below T0 m 69 #[iv p1, iv p2, iv p3, iv p4, iv p5, rv a6, iv (2 : Int32), iv p7, iv p8, iv p9, iv p10, .unset, .unset, .unset, .unset] [] _
  refine XS.iload X0.here hx rfl (hb hby at_69) rfl ?_
  show St p e below T0 m 71 #[iv p1, iv p2, iv p3, iv p4, iv p5, rv a6, iv (2 : Int32), iv p7, iv p8, iv p9, iv p10, .unset, .unset, .unset, .unset] [(.int (2 : Int32))] _
  refine XS.ifYes X0.here hx rfl (pc0 := 71) (pc' := 82) rfl (hb hby at_71) rfl ((if0 _ _).trans (feq (by decide : ¬ ((2 : Int32) = (0 : Int32)))).2) (by decide) (by decide) ?_
  show St p e below T0 m 82 #[iv p1, iv p2, iv p3, iv p4, iv p5, rv a6, iv (2 : Int32), iv p7, iv p8, iv p9, iv p10, .unset, .unset, .unset, .unset] [] _
  refine XS.iload X0.here hx rfl (hb hby at_82) rfl ?_
  show St p e below T0 m 84 #[iv p1, iv p2, iv p3, iv p4, iv p5, rv a6, iv (2 : Int32), iv p7, iv p8, iv p9, iv p10, .unset, .unset, .unset, .unset] [(.int (2 : Int32))] _
  refine XS.iconst X0.here hx rfl (hb hby at_84) ?_
  show St p e below T0 m 85 #[iv p1, iv p2, iv p3, iv p4, iv p5, rv a6, iv (2 : Int32), iv p7, iv p8, iv p9, iv p10, .unset, .unset, .unset, .unset] [(.int (1 : Int32)), (.int (2 : Int32))] _
  refine XS.icmpYes X0.here hx rfl (pc0 := 85) (pc' := 101) rfl (hb hby at_85) rfl (feq (by decide : ¬ ((2 : Int32) = (1 : Int32)))).2 (by decide) (by decide) ?_
  show St p e below T0 m 101 #[iv p1, iv p2, iv p3, iv p4, iv p5, rv a6, iv (2 : Int32), iv p7, iv p8, iv p9, iv p10, .unset, .unset, .unset, .unset] [] _
  refine XS.iload X0.here hx rfl (hb hby at_101) rfl ?_
  show St p e below T0 m 103 #[iv p1, iv p2, iv p3, iv p4, iv p5, rv a6, iv (2 : Int32), iv p7, iv p8, iv p9, iv p10, .unset, .unset, .unset, .unset] [(.int (2 : Int32))] _
  refine XS.iconst X0.here hx rfl (hb hby at_103) ?_
  show St p e below T0 m 104 #[iv p1, iv p2, iv p3, iv p4, iv p5, rv a6, iv (2 : Int32), iv p7, iv p8, iv p9, iv p10, .unset, .unset, .unset, .unset] [(.int (2 : Int32)), (.int (2 : Int32))] _
  refine XS.icmpNo X0.here hx rfl (hb hby at_104) rfl (teq (rfl : (2 : Int32) = (2 : Int32))).2 ?_
  show St p e below T0 m 107 #[iv p1, iv p2, iv p3, iv p4, iv p5, rv a6, iv (2 : Int32), iv p7, iv p8, iv p9, iv p10, .unset, .unset, .unset, .unset] [] _
  refine XS.iconst X0.here hx rfl (hb hby at_107) ?_
  show St p e below T0 m 108 #[iv p1, iv p2, iv p3, iv p4, iv p5, rv a6, iv (2 : Int32), iv p7, iv p8, iv p9, iv p10, .unset, .unset, .unset, .unset] [(.int (2 : Int32))] _
  refine st11 _ ?_
  show St p e below T11 m 110 #[iv p1, iv p2, iv p3, iv p4, iv p5, rv a6, iv (2 : Int32), iv p7, iv p8, iv p9, iv p10, .unset, .unset, .unset, .unset] [(.ref b11)] _
  refine XS.dup X11.here hx rfl (hb hby at_110) rfl rfl ?_
  show St p e below T11 m 111 #[iv p1, iv p2, iv p3, iv p4, iv p5, rv a6, iv (2 : Int32), iv p7, iv p8, iv p9, iv p10, .unset, .unset, .unset, .unset] [(.ref b11), (.ref b11)] _
  refine XS.iconst X11.here hx rfl (hb hby at_111) ?_
  show St p e below T11 m 112 #[iv p1, iv p2, iv p3, iv p4, iv p5, rv a6, iv (2 : Int32), iv p7, iv p8, iv p9, iv p10, .unset, .unset, .unset, .unset] [(.int (0 : Int32)), (.ref b11), (.ref b11)] _
  refine XS.iload X11.here hx rfl (hb hby at_112) rfl ?_
  show St p e below T11 m 114 #[iv p1, iv p2, iv p3, iv p4, iv p5, rv a6, iv (2 : Int32), iv p7, iv p8, iv p9, iv p10, .unset, .unset, .unset, .unset] [(.int p7), (.int (0 : Int32)), (.ref b11), (.ref b11)] _
  refine st12 _ ?_
  show St p e below T12 m 115 #[iv p1, iv p2, iv p3, iv p4, iv p5, rv a6, iv (2 : Int32), iv p7, iv p8, iv p9, iv p10, .unset, .unset, .unset, .unset] [(.ref b11)] _
  refine XS.dup X12.here hx rfl (hb hby at_115) rfl rfl ?_
  show St p e below T12 m 116 #[iv p1, iv p2, iv p3, iv p4, iv p5, rv a6, iv (2 : Int32), iv p7, iv p8, iv p9, iv p10, .unset, .unset, .unset, .unset] [(.ref b11), (.ref b11)] _
  refine XS.iconst X12.here hx rfl (hb hby at_116) ?_
  show St p e below T12 m 117 #[iv p1, iv p2, iv p3, iv p4, iv p5, rv a6, iv (2 : Int32), iv p7, iv p8, iv p9, iv p10, .unset, .unset, .unset, .unset] [(.int (1 : Int32)), (.ref b11), (.ref b11)] _
  refine XS.iload X12.here hx rfl (hb hby at_117) rfl ?_
  show St p e below T12 m 119 #[iv p1, iv p2, iv p3, iv p4, iv p5, rv a6, iv (2 : Int32), iv p7, iv p8, iv p9, iv p10, .unset, .unset, .unset, .unset] [(.int p8), (.int (1 : Int32)), (.ref b11), (.ref b11)] _
  refine st17 _ ?_
  show St p e below T17 m 120 #[iv p1, iv p2, iv p3, iv p4, iv p5, rv a6, iv (2 : Int32), iv p7, iv p8, iv p9, iv p10, .unset, .unset, .unset, .unset] [(.ref b11)] _
  refine XS.astore X17.here hx rfl (hb hby at_120) rfl rfl (l' := #[iv p1, iv p2, iv p3, iv p4, iv p5, rv a6, iv (2 : Int32), iv p7, iv p8, iv p9, iv p10, rv b11, .unset, .unset, .unset]) rfl ?_
  show St p e below T17 m 122 #[iv p1, iv p2, iv p3, iv p4, iv p5, rv a6, iv (2 : Int32), iv p7, iv p8, iv p9, iv p10, rv b11, .unset, .unset, .unset] [] _
  refine XS.goto X17.here hx rfl (pc0 := 122) (pc' := 145) rfl (hb hby at_122) (by decide) (by decide) ?_
  exact kt
def r1_3Q (Z : State) (a1 : Addr) (a2 : Addr) (k13 : ClassId) (p14 : Int32) (p15 : Int32) (h0 : Heap) (n0 : Nat) (v : Option Value) (h : Heap) (L : List Loc) : Prop := ∃ (b3 : Addr) (b18 : Addr), v = some (.ref b3) ∧ Fr n0 L ∧ Keep h0 h [] ∧ h0.size ≤ b3 ∧ h0.size ≤ b18 ∧ b3 ≠ b18 ∧ Exa Z h b3 "com/example/nervous_key/nervouskey/Outcome" ∧ Fld Z h b3 "com/example/nervous_key/nervouskey/Outcome" "kind" "Lcom/example/nervous_key/nervouskey/Outcome$Kind;" (.ref a1) ∧ Fld Z h b3 "com/example/nervous_key/nervouskey/Outcome" "result" "[B" (.ref b18) ∧ Arv Z h b18 k13 .byte (2 : Int32) [(.int p14), (.int p15)] (.int (0 : Int32)) ∧ Exa Z h b18 "[B"
theorem r1_3e (m : MethodId) (a1 : Addr) (a2 : Addr) (k13 : ClassId) (p14 : Int32) (p15 : Int32) : entryFrame m #[(.ref a1), (.ref a2)] 2 = mkF m 0 #[rv a1, rv a2] [] := by first | (simp [entryFrame, mkF, argsToLocals, Value.category]; done) | rfl
set_option maxRecDepth 65536 in
set_option maxHeartbeats 40000000 in
theorem r1_3 (l : Launch) (Z : State) (a0 : Array Value) (hw : HW a0 Z) (ws : List Jvm.Cond) (a1 : Addr) (a2 : Addr) (k13 : ClassId) (p14 : Int32) (p15 : Int32) (h0 : Heap) (n0 : Nat) (O0 : Old Z n0 h0) (H7 : Exa Z Z.heap a1 "com/example/nervous_key/nervouskey/Outcome$Kind") (H11 : Exa Z h0 a2 "[B") (H16 : Arv Z h0 a2 k13 .byte (2 : Int32) [(.int p14), (.int p15)] (.int (0 : Int32))) :
    MFS l y1 prog_7_method_5_code 2 (some (.object "com/example/nervous_key/nervouskey/Outcome")) ws ({ frames := 2, cells := 6, slots := 52, locals := 27 } : Room) Z #[(.ref a1), (.ref a2)] h0 (r1_3Q Z a1 a2 k13 p14 p15 h0 n0) := by
  refine MetFree.of_bodySF (plainFor_of_name pn_com_example_nervous_key_nervouskey_Outcome) hisR ?_
  intro p e s m args below meth c s₁ Bd hml0 hP hK
  obtain ⟨rfl, hZ, hh⟩ := hP
  have hx := Bd.exec
  have hby := Bd.bytes
  have hml : c.maxLocals = 2 := hml0
  have hown : s.vm.findClass "com/example/nervous_key/nervouskey/Outcome" = some m.cls := findClass_of_methodNamed Bd.named
  have hnm := (name_of_methodNamed Bd.named Bd.method).1
  have X0 : Stand p l e ({ frames := 2, cells := 6, slots := 52, locals := 27 } : Room) s m #[(.ref a1), (.ref a2)] below meth c s₁ [] 0 0 := Stand.of_body Bd
  have e0 : s₁.heap = h0 := by rw [← hh, Bd.state]; rfl
  have N0 := Fr.nil n0
  have pre0 : ∀ t, Steps p.tables e below (s₁.setTop (mkF m 0 #[rv a1, rv a2] [])) t → Steps p.tables e below (s₁.setTop (entryFrame m #[(.ref a1), (.ref a2)] 2)) t := fun t k => castTop (r1_3e m a1 a2 k13 p14 p15) k
  obtain ⟨T3, h3, X3, e3, E3, A3, D3, -, st3⟩ := newO X0 hx hZ hown (ow hw 9 rfl) (ow hw 10 rfl) (ow hw 7 rfl) e0 (g := (mkF m 0 #[rv a1, rv a2] [])) rfl (hb hby d1_0) (by decide) (by decide)
  obtain ⟨b3, g3⟩ : ∃ z, z = h0.size := ⟨_, rfl⟩
  rw [← g3] at A3 D3 st3
  have O_E3 : Old Z n0 h3 := O0.ext E3
  have Kp_E3 : Keep h0 h3 [] := (Keep.refl h0 []).ext E3
  obtain ⟨a4, T4, h4, kk4, X4, e4, E4, hS4, hk4, hZ4, hown4, st4⟩ := ldcS (s := s) (vm0 := s.vm) X3 hx hZ (own := "com/example/nervous_key/nervouskey/Outcome") hown (ow hw 11 rfl) (fun d hd => hw d (strW d hd)) e3 (State.WarmedH.since (State.WarmedH.refl s) 0) (Nat.zero_le _) (g := (mkF m 5 #[rv a1, rv a2] [(.ref a1), (.ref b3), (.ref b3)])) rfl (hb hby d1_5) (n := 16) (by decide) (by decide) (by decide) (by decide)
  have O_E4 : Old Z n0 h4 := O_E3.ext E4
  have Kp_E4 : Keep h0 h4 [] := Kp_E3.ext E4
  obtain ⟨_, _, ⟨T5, L5, k5, n5⟩, -, X5, ⟨Lc5, hQ5, l5, y5, z5⟩, st5⟩ := Jvm.LawKit.callS X4 hx (y := y2) hown4 (mvT hZ4 (ow hw 18 rfl)) (mvT hZ4 (ow hw 19 rfl)) (mvT hZ4 (ow hw 20 rfl)) (mvT hZ4 (ow hw 21 rfl)) (by decide) (backOf (W := 2) (r2_1 l Z a0 hw [] a1 a4 h4 n0 O_E4) hZ4 (ow hw 21 rfl) (ow hw 20 rfl) (by decide) (by decide)) (g := (mkF m 7 #[rv a1, rv a2] [(.ref a4), (.ref a1), (.ref b3), (.ref b3)])) rfl (by rw [hml]; rfl) (argsL := [(.ref a1), (.ref a4)]) (rest := [(.ref b3), (.ref b3)]) (lenOf pd__Ljava_lang_Object_Ljava_lang_String__Ljava_lang_Object_ rfl) rfl (by show 2 * 0 + _ ≤ _; exact Nat.le_of_eq rfl) (hb hby d1_7) (fun _ _ => ⟨rfl, e4, (by decide : 3 + 0 ≤ _), (by decide : 22 + 0 ≤ _)⟩)
  dsimp only [Pt.U, Pt.locs, Pt.cells, Pt.slots] at X5 l5 y5 z5 st5 hQ5
  subst l5 y5 z5
  obtain ⟨rfl, N5q, e5⟩ := hQ5
  have N5 := Fr.app N0 N5q
  obtain ⟨T6, X6, e6, st6⟩ := castY X5 hx hZ4 hown4 (ow hw 22 rfl) e5 (Ins.self (H7.ext O_E4.2)) (g := (mkF m 10 #[rv a1, rv a2] [(.ref a1), (.ref b3), (.ref b3)])) rfl rfl (hb hby d1_10)
  obtain ⟨a8, T8, h8, kk8, X8, e8, E8, hS8, hk8, hZ8, hown8, st8⟩ := ldcS (s := s) (vm0 := T4.vm) X6 hx hZ4 (own := "com/example/nervous_key/nervouskey/Outcome") hown4 (ow hw 24 rfl) (fun d hd => hw d (strW d hd)) e6 hS4 hk4 (g := (mkF m 14 #[rv a1, rv a2] [(.ref a2), (.ref a1), (.ref b3), (.ref b3)])) rfl (hb hby d1_14) (n := 24) (by decide) (by decide) (by decide) (by decide)
  have O_E8 : Old Z n0 h8 := O_E4.ext E8
  have Kp_E8 : Keep h0 h8 [] := Kp_E4.ext E8
  obtain ⟨_, _, ⟨T9, L9, k9, n9⟩, -, X9, ⟨Lc9, hQ9, l9, y9, z9⟩, st9⟩ := Jvm.LawKit.callS X8 hx (y := y2) hown8 (mvT hZ8 (ow hw 18 rfl)) (mvT hZ8 (ow hw 19 rfl)) (mvT hZ8 (ow hw 20 rfl)) (mvT hZ8 (ow hw 21 rfl)) (by decide) (backOf (W := 3) (r2_1 l Z a0 hw [] a2 a8 h8 n0 O_E8) hZ8 (ow hw 21 rfl) (ow hw 20 rfl) (by decide) (by decide)) (g := (mkF m 16 #[rv a1, rv a2] [(.ref a8), (.ref a2), (.ref a1), (.ref b3), (.ref b3)])) rfl (by rw [hml]; rfl) (argsL := [(.ref a2), (.ref a8)]) (rest := [(.ref a1), (.ref b3), (.ref b3)]) (lenOf pd__Ljava_lang_Object_Ljava_lang_String__Ljava_lang_Object_ rfl) rfl (by show 2 * 0 + _ ≤ _; exact Nat.le_of_eq rfl) (hb hby d1_16) (fun _ _ => ⟨rfl, e8, (by decide : 5 + 0 ≤ _), (by decide : 50 + 0 ≤ _)⟩)
  dsimp only [Pt.U, Pt.locs, Pt.cells, Pt.slots] at X9 l9 y9 z9 st9 hQ9
  subst l9 y9 z9
  obtain ⟨rfl, N9q, e9⟩ := hQ9
  have N9 := Fr.app N5 N9q
  have f12 := (((H11.ext E3).ext E4).ext E8)
  obtain ⟨T10, X10, e10, st10⟩ := castY X9 hx hZ8 hown8 (ow hw 25 rfl) e9 (Ins.self f12) (g := (mkF m 19 #[rv a1, rv a2] [(.ref a2), (.ref a1), (.ref b3), (.ref b3)])) rfl rfl (hb hby d1_19)
  have f17 := (((H16.ext E3).ext E4).ext E8)
  obtain ⟨T18, h18, X18, e18, E18, A18, C18, st18⟩ := cloneH X10 hx hZ8 hown8 (ow hw 27 rfl) (ow hw 28 rfl) (ow hw 32 rfl) (ow hw 30 rfl) (ow hw 31 rfl) (ow hw 33 rfl) e10 (Arv.arh f17) f12 (g := (mkF m 22 #[rv a1, rv a2] [(.ref a2), (.ref a1), (.ref b3), (.ref b3)])) rfl (by rw [hml]; rfl) rfl (hb hby d1_22) (by decide) (W := 3) (cap := 2) (by show 2 * 0 + _ ≤ _; exact Nat.le_of_eq rfl) (by decide) (by decide) (by decide) (by decide)
  obtain ⟨b18, g18⟩ : ∃ z, z = h8.size := ⟨_, rfl⟩
  rw [← g18] at A18 C18 st18
  have O_E18 : Old Z n0 h18 := O_E8.ext E18
  have Kp_E18 : Keep h0 h18 [] := Kp_E8.ext E18
  have V18 : Arv Z h18 b18 k13 .byte (2 : Int32) [(.int p14), (.int p15)] (.int (0 : Int32)) := A18
  obtain ⟨T19, X19, e19, st19⟩ := castY X18 hx hZ8 hown8 (ow hw 25 rfl) e18 (Ins.self C18) (g := (mkF m 25 #[rv a1, rv a2] [(.ref b18), (.ref a1), (.ref b3), (.ref b3)])) rfl rfl (hb hby d1_25)
  have f20 : Fld Z h3 b3 "com/example/nervous_key/nervouskey/Outcome" "kind" "Lcom/example/nervous_key/nervouskey/Outcome$Kind;" .null := D3 (Or.inr (ow hw 41 rfl)) (ty := (.object "com/example/nervous_key/nervouskey/Outcome$Kind")) (by decide)
  have f21 := (((f20.ext E4).ext E8).ext E18)
  have f22 := (((A3.ext E4).ext E8).ext E18)
  have g23 : n0 ≤ b3 := Nat.le_trans (Nat.le_trans (Nat.le_of_eq O0.1.symm) O0.2.1) (Nat.le_of_eq g3.symm)
  have f24 : Fld Z h3 b3 "com/example/nervous_key/nervouskey/Outcome" "result" "[B" .null := D3 (Or.inr (ow hw 43 rfl)) (ty := (.array .byte)) (by decide)
  have f25 := (((f24.ext E4).ext E8).ext E18)
  obtain ⟨_, _, ⟨T26, L26, k26, n26⟩, -, X26, ⟨Lc26, hQ26, l26, y26, z26⟩, st26⟩ := X19.specialBack hx (y := y3) rfl hown8 (mvT hZ8 (ow hw 34 rfl)) (mvT hZ8 (ow hw 35 rfl)) (mvT hZ8 (ow hw 36 rfl)) (by decide) (backOf (W := 1) (r3_1 l Z a0 hw [] b3 a1 b18 h18 n0 O_E18 f21 f22 g23 f25) hZ8 (ow hw 36 rfl) (ow hw 7 rfl) (by decide) (by decide)) (g := (mkF m 28 #[rv a1, rv a2] [(.ref b18), (.ref a1), (.ref b3), (.ref b3)])) rfl (by rw [hml]; rfl) (Steps.refl _) (a := b3) (argsL := [(.ref a1), (.ref b18)]) (rest := [(.ref b3)]) (lenOf pd__Lcom_example_nervous_key_nervouskey_Outcome_Kind__B_V rfl) rfl (by show 2 * 0 + _ ≤ _; exact Nat.le_of_eq rfl) (hb hby d1_28) (fun _ _ => ⟨rfl, e19, (by decide : 6 + 0 ≤ _), (by decide : 52 + 0 ≤ _)⟩)
  dsimp only [Pt.U, Pt.locs, Pt.cells, Pt.slots] at X26 l26 y26 z26 st26 hQ26
  subst l26 y26 z26
  obtain ⟨rfl, N26q, K26, f26_1, f26_2, f26_3⟩ := hQ26
  have N26 := Fr.app N9 N26q
  have z27 : h0.size ≤ b3 := Nat.le_trans (Keep.refl h0 []).1 (Nat.le_of_eq g3.symm)
  have O_K26 : Old Z n0 T26.heap := O_E18.keep K26 (allS g23 all0)
  have Kp_K26 : Keep h0 T26.heap [] := Kp_E18.trans K26 (allS (Or.inr z27) all0)
  have z28 : h0.size ≤ b18 := Nat.le_trans Kp_E8.1 (Nat.le_of_eq g18.symm)
  have ne29 : b3 ≠ b18 := Nat.ne_of_lt (Nat.lt_of_lt_of_le ((A3.ext E4).ext E8).lt (Nat.le_of_eq g18.symm))
  have f30 := (V18.keep K26 (ninS (Ne.symm ne29) nin0))
  have f31 := (C18.keep K26)
  obtain ⟨fs, hr, hrun, hended, hE⟩ := Stand.leaveW (s := s) (vm₁ := T8.vm) X26 hS8 (Nat.le_trans (Nat.le_trans hk8 E18.1) K26.1) (v := some (.ref b3)) (fun h => by rw [Bd.returns] at h; cases h)
  refine ⟨_, _, pre0 _ ?_, hrun, hended, _, _, rfl, ?_, hE.1, hE.2.1, hE.2.2.1, hE.2.2.2.mono (by decide) (by decide)⟩
  · show St p e below s₁ m 0 #[rv a1, rv a2] [] _
    refine st3 _ ?_
    show St p e below T3 m 3 #[rv a1, rv a2] [(.ref b3)] _
    refine XS.dup X3.here hx rfl (hb hby d1_3) rfl rfl ?_
    show St p e below T3 m 4 #[rv a1, rv a2] [(.ref b3), (.ref b3)] _
    refine XS.aloadN X3.here hx rfl (hb hby d1_4) rfl rfl ?_
    show St p e below T3 m 5 #[rv a1, rv a2] [(.ref a1), (.ref b3), (.ref b3)] _
    refine st4 _ ?_
    show St p e below T4 m 7 #[rv a1, rv a2] [(.ref a4), (.ref a1), (.ref b3), (.ref b3)] _
    refine st5 _ ?_
    show St p e below T5 m 10 #[rv a1, rv a2] [(.ref a1), (.ref b3), (.ref b3)] _
    refine st6 _ ?_
    show St p e below T6 m 13 #[rv a1, rv a2] [(.ref a1), (.ref b3), (.ref b3)] _
    refine XS.aloadN X6.here hx rfl (hb hby d1_13) rfl rfl ?_
    show St p e below T6 m 14 #[rv a1, rv a2] [(.ref a2), (.ref a1), (.ref b3), (.ref b3)] _
    refine st8 _ ?_
    show St p e below T8 m 16 #[rv a1, rv a2] [(.ref a8), (.ref a2), (.ref a1), (.ref b3), (.ref b3)] _
    refine st9 _ ?_
    show St p e below T9 m 19 #[rv a1, rv a2] [(.ref a2), (.ref a1), (.ref b3), (.ref b3)] _
    refine st10 _ ?_
    show St p e below T10 m 22 #[rv a1, rv a2] [(.ref a2), (.ref a1), (.ref b3), (.ref b3)] _
    refine st18 _ ?_
    show St p e below T18 m 25 #[rv a1, rv a2] [(.ref b18), (.ref a1), (.ref b3), (.ref b3)] _
    refine st19 _ ?_
    show St p e below T19 m 28 #[rv a1, rv a2] [(.ref b18), (.ref a1), (.ref b3), (.ref b3)] _
    refine st26.trans ?_
    show St p e below T26 m 31 #[rv a1, rv a2] [(.ref b3)] _
    jvm_step X26.here [X26.here.top, hx, (hb hby d1_31), X26.method', Bd.returns, Value.isRef, FieldType.isReference]
    first | (intro acts; rw [hr _ acts rfl rfl rfl]) | rw [hr _ _ rfl rfl rfl]
    exact Steps.refl _
  · show r1_3Q Z a1 a2 k13 p14 p15 h0 n0 _ T26.heap _
    exact ⟨b3, b18, rfl, N26, Kp_K26, z27, z28, ne29, f26_2, f26_1, f26_3, f30, f31⟩
def r5_3Q (Z : State) (a1 : Addr) (a2 : Addr) (k5 : ClassId) (p6 : Int32) (p7 : Int32) (h0 : Heap) (n0 : Nat) (v : Option Value) (h : Heap) (L : List Loc) : Prop := ∃ (b10 : Addr), v = some (.ref b10) ∧ Fr n0 L ∧ Keep h0 h [] ∧ h0.size ≤ b10 ∧ Arv Z h b10 k5 .byte (2 : Int32) [(.int p6), (.int p7)] (.int (0 : Int32)) ∧ Exa Z h b10 "[B"
theorem r5_3e (m : MethodId) (a1 : Addr) (a2 : Addr) (k5 : ClassId) (p6 : Int32) (p7 : Int32) : entryFrame m #[(.ref a1)] 1 = mkF m 0 #[rv a1] [] := by first | (simp [entryFrame, mkF, argsToLocals, Value.category]; done) | rfl
set_option maxRecDepth 65536 in
set_option maxHeartbeats 40000000 in
theorem r5_3 (l : Launch) (Z : State) (a0 : Array Value) (hw : HW a0 Z) (ws : List Jvm.Cond) (a1 : Addr) (a2 : Addr) (k5 : ClassId) (p6 : Int32) (p7 : Int32) (h0 : Heap) (n0 : Nat) (O0 : Old Z n0 h0) (H3 : Fld Z h0 a1 "com/example/nervous_key/nervouskey/Outcome" "result" "[B" (.ref a2)) (H8 : Arv Z h0 a2 k5 .byte (2 : Int32) [(.int p6), (.int p7)] (.int (0 : Int32))) (H9 : Exa Z h0 a2 "[B") :
    MF l y5 prog_7_method_7_code 1 (some (.array .byte)) ws ({ frames := 1, cells := 1, slots := 2, locals := 14 } : Room) Z #[(.ref a1)] h0 (r5_3Q Z a1 a2 k5 p6 p7 h0 n0) := by
  refine MetFree.of_bodySF (plainFor_of_name pn_com_example_nervous_key_nervouskey_Outcome) hisR ?_
  intro p e s m args below meth c s₁ Bd hml0 hP hK
  obtain ⟨rfl, hZ, hh⟩ := hP
  have hx := Bd.exec
  have hby := Bd.bytes
  have hml : c.maxLocals = 1 := hml0
  have hown : s.vm.findClass "com/example/nervous_key/nervouskey/Outcome" = some m.cls := findClass_of_methodNamed Bd.named
  have hnm := (name_of_methodNamed Bd.named Bd.method).1
  have X0 : Stand p l e ({ frames := 1, cells := 1, slots := 2, locals := 14 } : Room) s m #[(.ref a1)] below meth c s₁ [] 0 0 := Stand.of_body Bd
  have e0 : s₁.heap = h0 := by rw [← hh, Bd.state]; rfl
  have N0 := Fr.nil n0
  have pre0 : ∀ t, Steps p.tables e below (s₁.setTop (mkF m 0 #[rv a1] [])) t → Steps p.tables e below (s₁.setTop (entryFrame m #[(.ref a1)] 1)) t := fun t k => castTop (r5_3e m a1 a2 k5 p6 p7) k
  obtain ⟨T4, X4, e4, st4⟩ := getF X0 hx hZ hown (host := "") (Or.inl (ow hw 42 rfl)) Via.refl e0 H3 (g := (mkF m 1 #[rv a1] [(.ref a1)])) rfl rfl (hb hby d5_1)
  obtain ⟨T10, h10, X10, e10, E10, A10, C10, st10⟩ := cloneH X4 hx hZ hown (ow hw 27 rfl) (ow hw 28 rfl) (ow hw 32 rfl) (ow hw 30 rfl) (ow hw 31 rfl) (ow hw 33 rfl) e4 (Arv.arh H8) H9 (g := (mkF m 4 #[rv a1] [(.ref a2)])) rfl (by rw [hml]; rfl) rfl (hb hby d5_4) (by decide) (W := 0) (cap := 2) (by show 2 * 0 + _ ≤ _; exact Nat.le_of_eq rfl) (by decide) (by decide) (by decide) (by decide)
  obtain ⟨b10, g10⟩ : ∃ z, z = h0.size := ⟨_, rfl⟩
  rw [← g10] at A10 C10 st10
  have O_E10 : Old Z n0 h10 := O0.ext E10
  have Kp_E10 : Keep h0 h10 [] := (Keep.refl h0 []).ext E10
  have V10 : Arv Z h10 b10 k5 .byte (2 : Int32) [(.int p6), (.int p7)] (.int (0 : Int32)) := A10
  obtain ⟨T11, X11, e11, st11⟩ := castY X10 hx hZ hown (ow hw 25 rfl) e10 (Ins.self C10) (g := (mkF m 7 #[rv a1] [(.ref b10)])) rfl rfl (hb hby d5_7)
  have z12 : h0.size ≤ b10 := Nat.le_trans (Keep.refl h0 []).1 (Nat.le_of_eq g10.symm)
  obtain ⟨fs, hr, hrun, hended, hW, hsame⟩ := X11.leave (v := some (.ref b10)) (fun h => by rw [Bd.returns] at h; cases h)
  refine ⟨_, _, pre0 _ ?_, hrun, hended, _, _, rfl, ?_, ⟨_, rfl⟩, hW, hsame.mono (by decide) (by decide)⟩
  · show St p e below s₁ m 0 #[rv a1] [] _
    refine XS.aloadN X0.here hx rfl (hb hby d5_0) rfl rfl ?_
    show St p e below s₁ m 1 #[rv a1] [(.ref a1)] _
    refine st4 _ ?_
    show St p e below T4 m 4 #[rv a1] [(.ref a2)] _
    refine st10 _ ?_
    show St p e below T10 m 7 #[rv a1] [(.ref b10)] _
    refine st11 _ ?_
    show St p e below T11 m 10 #[rv a1] [(.ref b10)] _
    jvm_step X11.here [X11.here.top, hx, (hb hby d5_10), X11.method', Bd.returns, Value.isRef, FieldType.isReference]
    first | (intro acts; rw [hr _ acts rfl rfl rfl]) | rw [hr _ _ rfl rfl rfl]
    exact Steps.refl _
  · show r5_3Q Z a1 a2 k5 p6 p7 h0 n0 _ T11.heap _
    rw [e11]
    exact ⟨b10, rfl, N0, Kp_E10, z12, V10, C10⟩
theorem d6_33 : decode method_2_code 33 = .ok (.aload_n 0, 1) := by decide +kernel
theorem d6_34 : decode method_2_code 34 = .ok (.iconst 1, 1) := by decide +kernel
theorem d6_35 : decode method_2_code 35 = .ok (.baload, 1) := by decide +kernel
theorem d6_36 : decode method_2_code 36 = .ok (.iload_n 3, 1) := by decide +kernel
theorem d6_37 : decode method_2_code 37 = .ok (.if_icmp .eq 5, 3) := by decide +kernel
def r6_3Q (Z : State) (a1 : Addr) (p2 : Int32) (p3 : Int32) (p4 : Int32) (k5 : ClassId) (p6 : Int32) (p7 : Int32) (h0 : Heap) (n0 : Nat) (v : Option Value) (h : Heap) (L : List Loc) : Prop := v = some (.int (1 : Int32)) ∧ Fr n0 L ∧ h = h0
theorem r6_3e (m : MethodId) (a1 : Addr) (p2 : Int32) (p3 : Int32) (p4 : Int32) (k5 : ClassId) (p6 : Int32) (p7 : Int32) : entryFrame m #[(.ref a1), (.int (2 : Int32)), (.int p2), (.int p3), (.int p4)] 5 = mkF m 0 #[rv a1, iv (2 : Int32), iv p2, iv p3, iv p4] [] := by first | (simp [entryFrame, mkF, argsToLocals, Value.category]; done) | rfl
set_option maxRecDepth 65536 in
set_option maxHeartbeats 40000000 in
theorem r6_3 (l : Launch) (Z : State) (a0 : Array Value) (hw : HW a0 Z) (ws : List Jvm.Cond) (a1 : Addr) (p2 : Int32) (p3 : Int32) (p4 : Int32) (k5 : ClassId) (p6 : Int32) (p7 : Int32) (h0 : Heap) (n0 : Nat) (O0 : Old Z n0 h0) (H8 : Arv Z h0 a1 k5 .byte (2 : Int32) [(.int p6), (.int p7)] (.int (0 : Int32))) (hc11 : p6 = p2) (hc13 : p7 = p3) :
    MF l y6 method_2_code 5 (some .boolean) ws ({ frames := 0, cells := 0, slots := 0, locals := 0 } : Room) Z #[(.ref a1), (.int (2 : Int32)), (.int p2), (.int p3), (.int p4)] h0 (r6_3Q Z a1 p2 p3 p4 k5 p6 p7 h0 n0) := by
  refine MetFree.of_bodySF (plainFor_of_name pn_com_example_nervous_key_nervouskey_OutcomeOfPinLaw) hisR ?_
  intro p e s m args below meth c s₁ Bd hml0 hP hK
  obtain ⟨rfl, hZ, hh⟩ := hP
  have hx := Bd.exec
  have hby := Bd.bytes
  have hml : c.maxLocals = 5 := hml0
  have hown : s.vm.findClass "com/example/nervous_key/nervouskey/OutcomeOfPinLaw" = some m.cls := findClass_of_methodNamed Bd.named
  have hnm := (name_of_methodNamed Bd.named Bd.method).1
  have X0 : Stand p l e ({ frames := 0, cells := 0, slots := 0, locals := 0 } : Room) s m #[(.ref a1), (.int (2 : Int32)), (.int p2), (.int p3), (.int p4)] below meth c s₁ [] 0 0 := Stand.of_body Bd
  have e0 : s₁.heap = h0 := by rw [← hh, Bd.state]; rfl
  have N0 := Fr.nil n0
  have pre0 : ∀ t, Steps p.tables e below (s₁.setTop (mkF m 0 #[rv a1, iv (2 : Int32), iv p2, iv p3, iv p4] [])) t → Steps p.tables e below (s₁.setTop (entryFrame m #[(.ref a1), (.int (2 : Int32)), (.int p2), (.int p3), (.int p4)] 5)) t := fun t k => castTop (r6_3e m a1 p2 p3 p4 k5 p6 p7) k
  obtain ⟨cl9, Ar9, q9, S9, M9, H9, G9⟩ := id H8
  obtain ⟨cl10, Ar10, q10, S10, M10, H10, G10⟩ := id H8
  have hin10 : ¬ ((0 : Int32) < 0 ∨ cl10.slots.size ≤ ((0 : Int32)).toNatClampNeg) := inb_of S10 ⟨by decide, by decide⟩
  obtain ⟨cl12, Ar12, q12, S12, M12, H12, G12⟩ := id H8
  have hin12 : ¬ ((1 : Int32) < 0 ∨ cl12.slots.size ≤ ((1 : Int32)).toNatClampNeg) := inb_of S12 ⟨by decide, by decide⟩
  obtain ⟨fs, hr, hrun, hended, hW, hsame⟩ := X0.leave (v := some (.int (1 : Int32))) (fun h => by rw [Bd.returns] at h; cases h)
  refine ⟨_, _, pre0 _ ?_, hrun, hended, _, _, rfl, ?_, ⟨_, rfl⟩, hW, hsame.mono (by decide) (by decide)⟩
  · show St p e below s₁ m 0 #[rv a1, iv (2 : Int32), iv p2, iv p3, iv p4] [] _
    refine XS.aloadN X0.here hx rfl (hb hby d6_0) rfl rfl ?_
    show St p e below s₁ m 1 #[rv a1, iv (2 : Int32), iv p2, iv p3, iv p4] [(.ref a1)] _
    refine XS.ifnonnullYes X0.here hx rfl (pc0 := 1) (pc' := 6) rfl (hb hby d6_1) rfl (by decide) (by decide) ?_
    show St p e below s₁ m 6 #[rv a1, iv (2 : Int32), iv p2, iv p3, iv p4] [] _
    refine XS.aloadN X0.here hx rfl (hb hby d6_6) rfl rfl ?_
    show St p e below s₁ m 7 #[rv a1, iv (2 : Int32), iv p2, iv p3, iv p4] [(.ref a1)] _
    refine X0.arraylength hx (by rw [e0]; exact Ar9.1) (State.isArrayOf_alike hZ.alike Ar9.2.1) (g := (mkF m 7 #[rv a1, iv (2 : Int32), iv p2, iv p3, iv p4] [(.ref a1)])) rfl rfl (hb hby d6_7) _ ?_
    rw [len_of S9 M9]
    show St p e below s₁ m 8 #[rv a1, iv (2 : Int32), iv p2, iv p3, iv p4] [(.int (2 : Int32))] _
    refine XS.iloadN X0.here hx rfl (hb hby d6_8) rfl ?_
    show St p e below s₁ m 9 #[rv a1, iv (2 : Int32), iv p2, iv p3, iv p4] [(.int (2 : Int32)), (.int (2 : Int32))] _
    refine XS.icmpYes X0.here hx rfl (pc0 := 9) (pc' := 14) rfl (hb hby d6_9) rfl (teq (rfl : (2 : Int32) = (2 : Int32))).1 (by decide) (by decide) ?_
    show St p e below s₁ m 14 #[rv a1, iv (2 : Int32), iv p2, iv p3, iv p4] [] _
    refine XS.iloadN X0.here hx rfl (hb hby d6_14) rfl ?_
    show St p e below s₁ m 15 #[rv a1, iv (2 : Int32), iv p2, iv p3, iv p4] [(.int (2 : Int32))] _
    refine XS.iconst X0.here hx rfl (hb hby d6_15) ?_
    show St p e below s₁ m 16 #[rv a1, iv (2 : Int32), iv p2, iv p3, iv p4] [(.int (1 : Int32)), (.int (2 : Int32))] _
    refine XS.icmpNo X0.here hx rfl (hb hby d6_16) rfl (flt (by decide : ¬ ((2 : Int32) < (1 : Int32)))).1 ?_
    show St p e below s₁ m 19 #[rv a1, iv (2 : Int32), iv p2, iv p3, iv p4] [] _
    refine XS.aloadN X0.here hx rfl (hb hby d6_19) rfl rfl ?_
    show St p e below s₁ m 20 #[rv a1, iv (2 : Int32), iv p2, iv p3, iv p4] [(.ref a1)] _
    refine XS.iconst X0.here hx rfl (hb hby d6_20) ?_
    show St p e below s₁ m 21 #[rv a1, iv (2 : Int32), iv p2, iv p3, iv p4] [(.int (0 : Int32)), (.ref a1)] _
    refine X0.baloadBytes hx (j := (0 : Int32)) (v := (.int p6)) (by rw [e0]; exact Ar10.1) (State.isArrayOf_alike hZ.alike Ar10.2.1) Ar10.2.2 hin10 (Has.at H10 hin10 rfl) (g := (mkF m 21 #[rv a1, iv (2 : Int32), iv p2, iv p3, iv p4] [(.int (0 : Int32)), (.ref a1)])) rfl rfl (hb hby d6_21) _ ?_
    show St p e below s₁ m 22 #[rv a1, iv (2 : Int32), iv p2, iv p3, iv p4] [(.int p6)] _
    refine XS.iloadN X0.here hx rfl (hb hby d6_22) rfl ?_
    show St p e below s₁ m 23 #[rv a1, iv (2 : Int32), iv p2, iv p3, iv p4] [(.int p2), (.int p6)] _
    refine XS.icmpYes X0.here hx rfl (pc0 := 23) (pc' := 28) rfl (hb hby d6_23) rfl (teq hc11).1 (by decide) (by decide) ?_
    show St p e below s₁ m 28 #[rv a1, iv (2 : Int32), iv p2, iv p3, iv p4] [] _
    refine XS.iloadN X0.here hx rfl (hb hby d6_28) rfl ?_
    show St p e below s₁ m 29 #[rv a1, iv (2 : Int32), iv p2, iv p3, iv p4] [(.int (2 : Int32))] _
    refine XS.iconst X0.here hx rfl (hb hby d6_29) ?_
    show St p e below s₁ m 30 #[rv a1, iv (2 : Int32), iv p2, iv p3, iv p4] [(.int (2 : Int32)), (.int (2 : Int32))] _
    refine XS.icmpNo X0.here hx rfl (hb hby d6_30) rfl (flt (by decide : ¬ ((2 : Int32) < (2 : Int32)))).1 ?_
    show St p e below s₁ m 33 #[rv a1, iv (2 : Int32), iv p2, iv p3, iv p4] [] _
    refine XS.aloadN X0.here hx rfl (hb hby d6_33) rfl rfl ?_
    show St p e below s₁ m 34 #[rv a1, iv (2 : Int32), iv p2, iv p3, iv p4] [(.ref a1)] _
    refine XS.iconst X0.here hx rfl (hb hby d6_34) ?_
    show St p e below s₁ m 35 #[rv a1, iv (2 : Int32), iv p2, iv p3, iv p4] [(.int (1 : Int32)), (.ref a1)] _
    refine X0.baloadBytes hx (j := (1 : Int32)) (v := (.int p7)) (by rw [e0]; exact Ar12.1) (State.isArrayOf_alike hZ.alike Ar12.2.1) Ar12.2.2 hin12 (Has.at H12 hin12 rfl) (g := (mkF m 35 #[rv a1, iv (2 : Int32), iv p2, iv p3, iv p4] [(.int (1 : Int32)), (.ref a1)])) rfl rfl (hb hby d6_35) _ ?_
    show St p e below s₁ m 36 #[rv a1, iv (2 : Int32), iv p2, iv p3, iv p4] [(.int p7)] _
    refine XS.iloadN X0.here hx rfl (hb hby d6_36) rfl ?_
    show St p e below s₁ m 37 #[rv a1, iv (2 : Int32), iv p2, iv p3, iv p4] [(.int p3), (.int p7)] _
    refine XS.icmpYes X0.here hx rfl (pc0 := 37) (pc' := 42) rfl (hb hby d6_37) rfl (teq hc13).1 (by decide) (by decide) ?_
    show St p e below s₁ m 42 #[rv a1, iv (2 : Int32), iv p2, iv p3, iv p4] [] _
    refine XS.iloadN X0.here hx rfl (hb hby d6_42) rfl ?_
    show St p e below s₁ m 43 #[rv a1, iv (2 : Int32), iv p2, iv p3, iv p4] [(.int (2 : Int32))] _
    refine XS.iconst X0.here hx rfl (hb hby d6_43) ?_
    show St p e below s₁ m 44 #[rv a1, iv (2 : Int32), iv p2, iv p3, iv p4] [(.int (3 : Int32)), (.int (2 : Int32))] _
    refine XS.icmpYes X0.here hx rfl (pc0 := 44) (pc' := 57) rfl (hb hby d6_44) rfl (tlt (by decide : (2 : Int32) < (3 : Int32))).1 (by decide) (by decide) ?_
    show St p e below s₁ m 57 #[rv a1, iv (2 : Int32), iv p2, iv p3, iv p4] [] _
    refine XS.iconst X0.here hx rfl (hb hby d6_57) ?_
    show St p e below s₁ m 58 #[rv a1, iv (2 : Int32), iv p2, iv p3, iv p4] [(.int (1 : Int32))] _
    exact retN X0 hx (t := .boolean) Bd.returns (by simp) (hb hby d6_58) hr
  · show r6_3Q Z a1 p2 p3 p4 k5 p6 p7 h0 n0 _ s₁.heap _
    rw [e0]
    exact ⟨rfl, N0, rfl⟩
set_option maxRecDepth 65536 in
set_option maxHeartbeats 40000000 in
theorem g0_6 {p : Program} {l : Launch} {e : Env} {R : Room} {s : State} {m : MethodId} {args : Array Value} {below : List Frame} {meth : Method} {c : Code} {T0 : State} {locs : List Loc} {cells slots : Nat} {Z : State} {a0 : Array Value} {h0 : Heap} {n0 : Nat} (p1 : Int32) (p2 : Int32) (p3 : Int32) (p4 : Int32) (p5 : Int32) (a6 : Addr) (p7 : Int32) (p8 : Int32) (p9 : Int32) (p10 : Int32) (a11 : Addr) (k14 : ClassId) (p15 : Int32) (p16 : Int32)
    (X0 : Stand p l e R s m args below meth c T0 locs cells slots) (hx : p.tables.exec = Jvm.exec) (hZ : Z.Warmed39 s.vm) (hw : HW a0 Z) (hby : c.code = code) (hml : c.maxLocals = 15) (hown : s.vm.findClass "com/example/nervous_key/nervouskey/OutcomeOfPinLaw" = some m.cls) (e0 : T0.heap = h0) (O0 : Old Z n0 h0) (N0 : Fr n0 locs) (rc : cells + 8 ≤ R.cells) (rs : slots + 56 ≤ R.slots) (rf : 3 ≤ R.frames) (rl : 40 ≤ R.locals) (H12 : Exa Z Z.heap a6 "com/example/nervous_key/nervouskey/Outcome$Kind") (H13 : Exa Z h0 a11 "[B") (H17 : Arv Z h0 a11 k14 .byte (2 : Int32) [(.int p15), (.int p16)] (.int (0 : Int32))) (H23 : n0 ≤ a11) (hc35 : p15 = p7) (hc36 : p16 = p8) :
    ∃ (T' : State) (h' : Heap) (L' : List Loc) (vm' : Vm) (b18_0 : Addr) (b33_0 : Addr) (b50_0 : Addr) (b18_1 : Addr), Stand p l e R (s.setVm vm') m args below meth c T' L' (cells + 8) (slots + 56) ∧ T'.heap = h' ∧ s.Since vm' h'.size ∧ Fr n0 L' ∧ Keep h0 h' [a11] ∧ h0.size ≤ b18_0 ∧ h0.size ≤ b33_0 ∧ h0.size ≤ b50_0 ∧ h0.size ≤ b18_1 ∧ b18_0 ≠ b33_0 ∧ b18_0 ≠ b50_0 ∧ b18_0 ≠ b18_1 ∧ b33_0 ≠ b50_0 ∧ b33_0 ≠ b18_1 ∧ b50_0 ≠ b18_1 ∧ Exa Z h' a11 "[B" ∧ Arv Z h' a11 k14 .byte (2 : Int32) [(.int p15), (.int ((p16 ^^^ p10).toInt8.toInt32))] (.int (0 : Int32)) ∧ Exa Z h' b18_0 "com/example/nervous_key/nervouskey/Outcome" ∧ Fld Z h' b18_0 "com/example/nervous_key/nervouskey/Outcome" "kind" "Lcom/example/nervous_key/nervouskey/Outcome$Kind;" (.ref a6) ∧ Fld Z h' b18_0 "com/example/nervous_key/nervouskey/Outcome" "result" "[B" (.ref b18_1) ∧ Arv Z h' b33_0 k14 .byte (2 : Int32) [(.int ((p15 ^^^ p10).toInt8.toInt32)), (.int p16)] (.int (0 : Int32)) ∧ Exa Z h' b33_0 "[B" ∧ Arv Z h' b50_0 k14 .byte (2 : Int32) [(.int p15), (.int p16)] (.int (0 : Int32)) ∧ Exa Z h' b50_0 "[B" ∧ Arv Z h' b18_1 k14 .byte (2 : Int32) [(.int p15), (.int p16)] (.int (0 : Int32)) ∧ Exa Z h' b18_1 "[B" ∧
      ∀ target, St p e below T' m 281 #[iv p1, iv p2, iv p3, iv p4, iv p5, rv a6, iv (2 : Int32), iv p7, iv p8, iv p9, iv p10, rv a11, rv b18_0, rv b33_0, rv b50_0] [] target → St p e below T0 m 145 #[iv p1, iv p2, iv p3, iv p4, iv p5, rv a6, iv (2 : Int32), iv p7, iv p8, iv p9, iv p10, rv a11, .unset, .unset, .unset] [] target := by
  obtain ⟨_, _, ⟨T18, L18, k18, n18⟩, -, X18, hSq18, hg18, ⟨Lc18, hQ18, l18, y18, z18⟩, st18⟩ := Jvm.RoadKit.callSS X0 hx (y := y1) hown (mvT hZ (ow hw 5 rfl)) (mvT hZ (ow hw 6 rfl)) (mvT hZ (ow hw 7 rfl)) (mvT hZ (ow hw 8 rfl)) (by decide) (backOfS (W := 0) (r1_3 l Z a0 hw [] a6 a11 k14 p15 p16 h0 n0 O0 H12 H13 H17) hZ (ow hw 8 rfl) (ow hw 7 rfl) (by show 2 + 1 ≤ R.frames; omega) (by show 0 + (2 + 11) + 27 ≤ R.locals; omega)) (g := (mkF m 149 #[iv p1, iv p2, iv p3, iv p4, iv p5, rv a6, iv (2 : Int32), iv p7, iv p8, iv p9, iv p10, rv a11, .unset, .unset, .unset] [(.ref a11), (.ref a6)])) rfl (by rw [hml]; rfl) (argsL := [(.ref a6), (.ref a11)]) (rest := []) (lenOf pd__Lcom_example_nervous_key_nervouskey_Outcome_Kind__B_Lcom_example_nervous_key_nervouskey_Outcome_ rfl) rfl (by show 2 * 0 + _ ≤ _; exact Nat.le_of_eq rfl) (hb hby at_149) (fun _ _ => ⟨rfl, e0, (by show cells + 0 + 6 ≤ R.cells; omega), (by show slots + 0 + 52 ≤ R.slots; omega)⟩)
  dsimp only [Pt.U, Pt.locs, Pt.cells, Pt.slots] at X18 l18 y18 z18 st18 hQ18
  subst l18
  rw [y18, z18] at X18
  obtain ⟨Y18, hS18, hZ18, hown18⟩ := rebS (s := s) (vm0 := s.vm) (State.WarmedH.since (State.WarmedH.refl s) 0) (by rw [e0]; exact (Nat.zero_le _)) X18 hSq18 hg18 hZ hown
  obtain ⟨b18_0, b18_1, rfl, N18q, K18, lo18_1, lo18_2, nq18_3, f18_4, f18_5, f18_6, f18_7, f18_8⟩ := hQ18
  have N18 := Fr.app N0 N18q
  have O_K18 : Old Z n0 T18.heap := O0.keep K18 all0
  have Kp_K18 : Keep h0 T18.heap [a11] := (Keep.refl h0 [a11]).trans K18 all0
  replace Y18 : Stand p l e R _ m args below meth c T18 _ (cells + 6) (slots + 52) := Y18
  have f19 := (H17.keep K18 nin0)
  obtain ⟨cl20, Ar20, q20, S20, M20, H20, G20⟩ := id f19
  have hin20 : ¬ ((1 : Int32) < 0 ∨ cl20.slots.size ≤ ((1 : Int32)).toNatClampNeg) := inb_of S20 ⟨by decide, by decide⟩
  obtain ⟨cl21, Ar21, q21, S21, M21, H21, G21⟩ := id f19
  have hin21 : ¬ ((1 : Int32) < 0 ∨ cl21.slots.size ≤ ((1 : Int32)).toNatClampNeg) := inb_of S21 ⟨by decide, by decide⟩
  obtain ⟨T21, h21, X21, e21, W21, st21⟩ := stB Y18 hx hZ18 rfl Ar21 (j := (1 : Int32)) hin21 (g := (mkF m 176 #[iv p1, iv p2, iv p3, iv p4, iv p5, rv a6, iv (2 : Int32), iv p7, iv p8, iv p9, iv p10, rv a11, rv b18_0, .unset, .unset] [(.int ((p16 ^^^ p10).toInt8.toInt32)), (.int (1 : Int32)), (.ref a11)])) rfl rfl (hb hby at_176)
  have O_W21 : Old Z n0 h21 := O_K18.wr W21 H23
  have Kp_W21 : Keep h0 h21 [a11] := Kp_K18.wr W21 (Or.inl (List.mem_of_getElem? (i := 0) rfl))
  have N24 := Fr.snoc X21 N18 H23
  have f22 : Arv Z h21 a11 k14 .byte (2 : Int32) [(.int p15), (.int ((p16 ^^^ p10).toInt8.toInt32))] (.int (0 : Int32)) := by simpa only [own_narb, own_i8, List.set] using Arv.set Ar21 q21 S21 M21 H21 G21 (fits_nar_byte _) W21 1 rfl (Nat.le_of_ble_eq_true rfl)
  have f25 := (f18_4.wr W21)
  have ne26 : a11 ≠ b18_0 := Nat.ne_of_lt (Nat.lt_of_lt_of_le H13.lt lo18_1)
  have f27 := (f18_5.other W21 (Or.inl (Ne.symm ne26)))
  obtain ⟨cq28, kq28, q28a, q28b, q28c⟩ := isOf hZ18 e21 f25
  obtain ⟨_, _, ⟨T28, L28, k28, n28⟩, -, X28, ⟨Lc28, hQ28, l28, y28, z28⟩, st28⟩ := X21.virtualBack hx (y := y4) (z := y4) hown18 (mvT hZ18 (ow hw 44 rfl)) (mvT hZ18 (ow hw 45 rfl)) (notFace_of_selects (args := #[]) (mvT hZ18 (ow hw 47 rfl))) (mvT hZ18 (ow hw 47 rfl)) (mvT hZ18 (ow hw 46 rfl)) (by decide) (backOf (W := 0) (r4_1 l Z a0 hw [] b18_0 a6 h21 n0 O_W21 f27) hZ18 (ow hw 48 rfl) (ow hw 7 rfl) (by show 0 + 1 ≤ R.frames; omega) (by show 0 + (1 + 11) + 0 ≤ R.locals; omega)) q28a q28c (g := (mkF m 179 #[iv p1, iv p2, iv p3, iv p4, iv p5, rv a6, iv (2 : Int32), iv p7, iv p8, iv p9, iv p10, rv a11, rv b18_0, .unset, .unset] [(.ref b18_0)])) rfl (by rw [hml]; rfl) (Steps.refl _) (argsL := []) (rest := []) (lenOf pd___Lcom_example_nervous_key_nervouskey_Outcome_Kind_ rfl) rfl (by show 2 * 0 + _ ≤ _; exact Nat.le_of_eq rfl) (hb hby at_179) (fun _ _ => ⟨rfl, e21, (by show cells + 6 + 0 ≤ R.cells; omega), (by show slots + 52 + 0 ≤ R.slots; omega)⟩)
  dsimp only [Pt.U, Pt.locs, Pt.cells, Pt.slots] at X28 l28 y28 z28 st28 hQ28
  subst l28
  rw [y28, z28] at X28
  obtain ⟨rfl, N28q, e28⟩ := hQ28
  have N28 := Fr.app N24 N28q
  replace X28 : Stand p l e R _ m args below meth c T28 _ (cells + 6) (slots + 52) := X28
  have f29 := (f18_6.other W21 (Or.inl (Ne.symm ne26)))
  have ne30 : a11 ≠ b18_1 := Nat.ne_of_lt (Nat.lt_of_lt_of_le H13.lt lo18_2)
  have f31 := (f18_7.other W21 (Ne.symm ne30))
  have f32 := (f18_8.wr W21)
  obtain ⟨cq33, kq33, q33a, q33b, q33c⟩ := isOf hZ18 e28 f25
  obtain ⟨_, _, ⟨T33, L33, k33, n33⟩, -, X33, ⟨Lc33, hQ33, l33, y33, z33⟩, st33⟩ := X28.virtualBack hx (y := y5) (z := y5) hown18 (mvT hZ18 (ow hw 49 rfl)) (mvT hZ18 (ow hw 50 rfl)) (notFace_of_selects (args := #[]) (mvT hZ18 (ow hw 52 rfl))) (mvT hZ18 (ow hw 52 rfl)) (mvT hZ18 (ow hw 51 rfl)) (by decide) (backOf (W := 0) (r5_3 l Z a0 hw [] b18_0 b18_1 k14 p15 p16 h21 n0 O_W21 f29 f31 f32) hZ18 (ow hw 53 rfl) (ow hw 7 rfl) (by show 1 + 1 ≤ R.frames; omega) (by show 0 + (1 + 11) + 14 ≤ R.locals; omega)) q33a q33c (g := (mkF m 191 #[iv p1, iv p2, iv p3, iv p4, iv p5, rv a6, iv (2 : Int32), iv p7, iv p8, iv p9, iv p10, rv a11, rv b18_0, .unset, .unset] [(.ref b18_0)])) rfl (by rw [hml]; rfl) (Steps.refl _) (argsL := []) (rest := []) (lenOf pd____B rfl) rfl (by show 2 * 0 + _ ≤ _; exact Nat.le_of_eq rfl) (hb hby at_191) (fun _ _ => ⟨rfl, e28, (by show cells + 6 + 1 ≤ R.cells; omega), (by show slots + 52 + 2 ≤ R.slots; omega)⟩)
  dsimp only [Pt.U, Pt.locs, Pt.cells, Pt.slots] at X33 l33 y33 z33 st33 hQ33
  subst l33
  rw [y33, z33] at X33
  obtain ⟨b33_0, rfl, N33q, K33, lo33_1, f33_2, f33_3⟩ := hQ33
  have N33 := Fr.app N28 N33q
  have O_K33 : Old Z n0 T33.heap := O_W21.keep K33 all0
  have Kp_K33 : Keep h0 T33.heap [a11] := Kp_W21.trans K33 all0
  replace X33 : Stand p l e R _ m args below meth c T33 _ (cells + 7) (slots + 54) := X33
  have ne34 : a11 ≠ b33_0 := Nat.ne_of_lt (Nat.lt_of_lt_of_le ((H13.keep K18).wr W21).lt lo33_1)
  obtain ⟨_, _, ⟨T37, L37, k37, n37⟩, -, X37, ⟨Lc37, hQ37, l37, y37, z37⟩, st37⟩ := Jvm.LawKit.callS X33 hx (y := y6) hown18 (mvT hZ18 (ow hw 54 rfl)) (mvT hZ18 (ow hw 55 rfl)) (mvT hZ18 (ow hw 56 rfl)) (mvT hZ18 (ow hw 57 rfl)) (by decide) (backOf (W := 0) (r6_3 l Z a0 hw [] b33_0 p7 p8 p9 k14 p15 p16 T33.heap n0 O_K33 f33_2 hc35 hc36) hZ18 (ow hw 57 rfl) (ow hw 56 rfl) (by show 0 + 1 ≤ R.frames; omega) (by show 0 + (5 + 11) + 0 ≤ R.locals; omega)) (g := (mkF m 215 #[iv p1, iv p2, iv p3, iv p4, iv p5, rv a6, iv (2 : Int32), iv p7, iv p8, iv p9, iv p10, rv a11, rv b18_0, rv b33_0, .unset] [(.int p9), (.int p8), (.int p7), (.int (2 : Int32)), (.ref b33_0)])) rfl (by rw [hml]; rfl) (argsL := [(.ref b33_0), (.int (2 : Int32)), (.int p7), (.int p8), (.int p9)]) (rest := []) (lenOf pd___BIBBB_Z rfl) rfl (by show 2 * 0 + _ ≤ _; exact Nat.le_of_eq rfl) (hb hby at_215) (fun _ _ => ⟨rfl, rfl, (by show cells + 7 + 0 ≤ R.cells; omega), (by show slots + 54 + 0 ≤ R.slots; omega)⟩)
  dsimp only [Pt.U, Pt.locs, Pt.cells, Pt.slots] at X37 l37 y37 z37 st37 hQ37
  subst l37
  rw [y37, z37] at X37
  obtain ⟨rfl, N37q, e37⟩ := hQ37
  have N37 := Fr.app N33 N37q
  replace X37 : Stand p l e R _ m args below meth c T37 _ (cells + 7) (slots + 54) := X37
  obtain ⟨cl38, Ar38, q38, S38, M38, H38, G38⟩ := id f33_2
  have hin38 : ¬ ((0 : Int32) < 0 ∨ cl38.slots.size ≤ ((0 : Int32)).toNatClampNeg) := inb_of S38 ⟨by decide, by decide⟩
  obtain ⟨cl39, Ar39, q39, S39, M39, H39, G39⟩ := id f33_2
  have hin39 : ¬ ((0 : Int32) < 0 ∨ cl39.slots.size ≤ ((0 : Int32)).toNatClampNeg) := inb_of S39 ⟨by decide, by decide⟩
  obtain ⟨T39, h39, X39, e39, W39, st39⟩ := stB X37 hx hZ18 e37 Ar39 (j := (0 : Int32)) hin39 (g := (mkF m 239 #[iv p1, iv p2, iv p3, iv p4, iv p5, rv a6, iv (2 : Int32), iv p7, iv p8, iv p9, iv p10, rv a11, rv b18_0, rv b33_0, .unset] [(.int ((p15 ^^^ p10).toInt8.toInt32)), (.int (0 : Int32)), (.ref b33_0)])) rfl rfl (hb hby at_239)
  have g41 : n0 ≤ b33_0 := Nat.le_trans (Nat.le_trans (Nat.le_of_eq O_W21.1.symm) O_W21.2.1) lo33_1
  have z42 : h0.size ≤ b33_0 := Nat.le_trans Kp_W21.1 lo33_1
  have O_W39 : Old Z n0 h39 := O_K33.wr W39 g41
  have Kp_W39 : Keep h0 h39 [a11] := Kp_K33.wr W39 (Or.inr z42)
  have N43 := Fr.snoc X39 N37 g41
  have f40 : Arv Z h39 b33_0 k14 .byte (2 : Int32) [(.int ((p15 ^^^ p10).toInt8.toInt32)), (.int p16)] (.int (0 : Int32)) := by simpa only [own_narb, own_i8, List.set] using Arv.set Ar39 q39 S39 M39 H39 G39 (fits_nar_byte _) W39 0 rfl (Nat.le_of_ble_eq_true rfl)
  have f44 := ((f25.keep K33).wr W39)
  have ne45 : b18_0 ≠ b33_0 := Nat.ne_of_lt (Nat.lt_of_lt_of_le (f18_4.wr W21).lt lo33_1)
  have f46 := ((f29.keep K33 nin0).other W39 (Or.inl ne45))
  have ne47 : b18_1 ≠ b33_0 := Nat.ne_of_lt (Nat.lt_of_lt_of_le f32.lt lo33_1)
  have f48 := ((f31.keep K33 nin0).other W39 ne47)
  have f49 := ((f32.keep K33).wr W39)
  obtain ⟨cq50, kq50, q50a, q50b, q50c⟩ := isOf hZ18 e39 f44
  obtain ⟨_, _, ⟨T50, L50, k50, n50⟩, -, X50, ⟨Lc50, hQ50, l50, y50, z50⟩, st50⟩ := X39.virtualBack hx (y := y5) (z := y5) hown18 (mvT hZ18 (ow hw 49 rfl)) (mvT hZ18 (ow hw 50 rfl)) (notFace_of_selects (args := #[]) (mvT hZ18 (ow hw 52 rfl))) (mvT hZ18 (ow hw 52 rfl)) (mvT hZ18 (ow hw 51 rfl)) (by decide) (backOf (W := 0) (r5_3 l Z a0 hw [] b18_0 b18_1 k14 p15 p16 h39 n0 O_W39 f46 f48 f49) hZ18 (ow hw 53 rfl) (ow hw 7 rfl) (by show 1 + 1 ≤ R.frames; omega) (by show 0 + (1 + 11) + 14 ≤ R.locals; omega)) q50a q50c (g := (mkF m 242 #[iv p1, iv p2, iv p3, iv p4, iv p5, rv a6, iv (2 : Int32), iv p7, iv p8, iv p9, iv p10, rv a11, rv b18_0, rv b33_0, .unset] [(.ref b18_0)])) rfl (by rw [hml]; rfl) (Steps.refl _) (argsL := []) (rest := []) (lenOf pd____B rfl) rfl (by show 2 * 0 + _ ≤ _; exact Nat.le_of_eq rfl) (hb hby at_242) (fun _ _ => ⟨rfl, e39, (by show cells + 7 + 1 ≤ R.cells; omega), (by show slots + 54 + 2 ≤ R.slots; omega)⟩)
  dsimp only [Pt.U, Pt.locs, Pt.cells, Pt.slots] at X50 l50 y50 z50 st50 hQ50
  subst l50
  rw [y50, z50] at X50
  obtain ⟨b50_0, rfl, N50q, K50, lo50_1, f50_2, f50_3⟩ := hQ50
  have N50 := Fr.app N43 N50q
  have O_K50 : Old Z n0 T50.heap := O_W39.keep K50 all0
  have Kp_K50 : Keep h0 T50.heap [a11] := Kp_W39.trans K50 all0
  replace X50 : Stand p l e R _ m args below meth c T50 _ (cells + 8) (slots + 56) := X50
  have ne51 : b33_0 ≠ b50_0 := Nat.ne_of_lt (Nat.lt_of_lt_of_le (f33_3.wr W39).lt lo50_1)
  have ne52 : a11 ≠ b50_0 := Nat.ne_of_lt (Nat.lt_of_lt_of_le ((((H13.keep K18).wr W21).keep K33).wr W39).lt lo50_1)
  obtain ⟨_, _, ⟨T53, L53, k53, n53⟩, -, X53, ⟨Lc53, hQ53, l53, y53, z53⟩, st53⟩ := Jvm.LawKit.callS X50 hx (y := y6) hown18 (mvT hZ18 (ow hw 54 rfl)) (mvT hZ18 (ow hw 55 rfl)) (mvT hZ18 (ow hw 56 rfl)) (mvT hZ18 (ow hw 57 rfl)) (by decide) (backOf (W := 0) (r6_3 l Z a0 hw [] b50_0 p7 p8 p9 k14 p15 p16 T50.heap n0 O_K50 f50_2 hc35 hc36) hZ18 (ow hw 57 rfl) (ow hw 56 rfl) (by show 0 + 1 ≤ R.frames; omega) (by show 0 + (5 + 11) + 0 ≤ R.locals; omega)) (g := (mkF m 273 #[iv p1, iv p2, iv p3, iv p4, iv p5, rv a6, iv (2 : Int32), iv p7, iv p8, iv p9, iv p10, rv a11, rv b18_0, rv b33_0, rv b50_0] [(.int p9), (.int p8), (.int p7), (.int (2 : Int32)), (.ref b50_0)])) rfl (by rw [hml]; rfl) (argsL := [(.ref b50_0), (.int (2 : Int32)), (.int p7), (.int p8), (.int p9)]) (rest := []) (lenOf pd___BIBBB_Z rfl) rfl (by show 2 * 0 + _ ≤ _; exact Nat.le_of_eq rfl) (hb hby at_273) (fun _ _ => ⟨rfl, rfl, (by show cells + 8 + 0 ≤ R.cells; omega), (by show slots + 56 + 0 ≤ R.slots; omega)⟩)
  dsimp only [Pt.U, Pt.locs, Pt.cells, Pt.slots] at X53 l53 y53 z53 st53 hQ53
  subst l53
  rw [y53, z53] at X53
  obtain ⟨rfl, N53q, e53⟩ := hQ53
  have N53 := Fr.app N50 N53q
  replace X53 : Stand p l e R _ m args below meth c T53 _ (cells + 8) (slots + 56) := X53
  have z54 : h0.size ≤ b18_0 := Nat.le_trans (Keep.refl h0 [a11]).1 lo18_1
  have z55 : h0.size ≤ b50_0 := Nat.le_trans Kp_W39.1 lo50_1
  have z56 : h0.size ≤ b18_1 := Nat.le_trans (Keep.refl h0 [a11]).1 lo18_2
  have ne57 : b18_0 ≠ b50_0 := Nat.ne_of_lt (Nat.lt_of_lt_of_le f44.lt lo50_1)
  have ne58 : b18_1 ≠ b50_0 := Nat.ne_of_lt (Nat.lt_of_lt_of_le f49.lt lo50_1)
  have f59 := (((((H13.keep K18).wr W21).keep K33).wr W39).keep K50)
  have f60 := (((f22.keep K33 nin0).other W39 ne34).keep K50 nin0)
  have f61 := (f44.keep K50)
  have f62 := (((f27.keep K33 nin0).other W39 (Or.inl ne45)).keep K50 nin0)
  have f63 := (f46.keep K50 nin0)
  have f64 := (f40.keep K50 nin0)
  have f65 := ((f33_3.wr W39).keep K50)
  have f66 := (f48.keep K50 nin0)
  have f67 := (f49.keep K50)
  refine ⟨T53, _, _, T18.vm, b18_0, b33_0, b50_0, b18_1, X53.more (by omega) (by omega), e53, own_since hS18 (Nat.le_trans (Nat.le_trans (Nat.le_trans (Nat.le_trans (Nat.le_refl _) (Keep.of_wr W21).1) K33.1) (Keep.of_wr W39).1) K50.1), N53, Kp_K50, z54, z42, z55, z56, ne45, ne57, nq18_3, ne51, (Ne.symm ne47), (Ne.symm ne58), f59, f60, f61, f62, f63, f64, f65, f50_2, f50_3, f66, f67, fun target kt => ?_⟩
  show St p e below T0 m 145 #[iv p1, iv p2, iv p3, iv p4, iv p5, rv a6, iv (2 : Int32), iv p7, iv p8, iv p9, iv p10, rv a11, .unset, .unset, .unset] [] _
  refine XS.aload X0.here hx rfl (hb hby at_145) rfl rfl ?_
  show St p e below T0 m 147 #[iv p1, iv p2, iv p3, iv p4, iv p5, rv a6, iv (2 : Int32), iv p7, iv p8, iv p9, iv p10, rv a11, .unset, .unset, .unset] [(.ref a6)] _
  refine XS.aload X0.here hx rfl (hb hby at_147) rfl rfl ?_
  show St p e below T0 m 149 #[iv p1, iv p2, iv p3, iv p4, iv p5, rv a6, iv (2 : Int32), iv p7, iv p8, iv p9, iv p10, rv a11, .unset, .unset, .unset] [(.ref a11), (.ref a6)] _
  refine st18.trans ?_
  show St p e below T18 m 152 #[iv p1, iv p2, iv p3, iv p4, iv p5, rv a6, iv (2 : Int32), iv p7, iv p8, iv p9, iv p10, rv a11, .unset, .unset, .unset] [(.ref b18_0)] _
  refine XS.astore Y18.here hx rfl (hb hby at_152) rfl rfl (l' := #[iv p1, iv p2, iv p3, iv p4, iv p5, rv a6, iv (2 : Int32), iv p7, iv p8, iv p9, iv p10, rv a11, rv b18_0, .unset, .unset]) rfl ?_
  show St p e below T18 m 154 #[iv p1, iv p2, iv p3, iv p4, iv p5, rv a6, iv (2 : Int32), iv p7, iv p8, iv p9, iv p10, rv a11, rv b18_0, .unset, .unset] [] _
  refine XS.iload Y18.here hx rfl (hb hby at_154) rfl ?_
  show St p e below T18 m 156 #[iv p1, iv p2, iv p3, iv p4, iv p5, rv a6, iv (2 : Int32), iv p7, iv p8, iv p9, iv p10, rv a11, rv b18_0, .unset, .unset] [(.int (2 : Int32))] _
  refine XS.ifNo Y18.here hx rfl (hb hby at_156) rfl ((if0 _ _).trans (tlt (by decide : (0 : Int32) < (2 : Int32))).2.2.2) ?_
  show St p e below T18 m 159 #[iv p1, iv p2, iv p3, iv p4, iv p5, rv a6, iv (2 : Int32), iv p7, iv p8, iv p9, iv p10, rv a11, rv b18_0, .unset, .unset] [] _
  refine XS.aload Y18.here hx rfl (hb hby at_159) rfl rfl ?_
  show St p e below T18 m 161 #[iv p1, iv p2, iv p3, iv p4, iv p5, rv a6, iv (2 : Int32), iv p7, iv p8, iv p9, iv p10, rv a11, rv b18_0, .unset, .unset] [(.ref a11)] _
  refine XS.iload Y18.here hx rfl (hb hby at_161) rfl ?_
  show St p e below T18 m 163 #[iv p1, iv p2, iv p3, iv p4, iv p5, rv a6, iv (2 : Int32), iv p7, iv p8, iv p9, iv p10, rv a11, rv b18_0, .unset, .unset] [(.int (2 : Int32)), (.ref a11)] _
  refine XS.iconst Y18.here hx rfl (hb hby at_163) ?_
  show St p e below T18 m 164 #[iv p1, iv p2, iv p3, iv p4, iv p5, rv a6, iv (2 : Int32), iv p7, iv p8, iv p9, iv p10, rv a11, rv b18_0, .unset, .unset] [(.int (1 : Int32)), (.int (2 : Int32)), (.ref a11)] _
  refine XS.isub Y18.here hx rfl (hb hby at_164) rfl ?_
  show St p e below T18 m 165 #[iv p1, iv p2, iv p3, iv p4, iv p5, rv a6, iv (2 : Int32), iv p7, iv p8, iv p9, iv p10, rv a11, rv b18_0, .unset, .unset] [(.int (1 : Int32)), (.ref a11)] _
  refine XS.aload Y18.here hx rfl (hb hby at_165) rfl rfl ?_
  show St p e below T18 m 167 #[iv p1, iv p2, iv p3, iv p4, iv p5, rv a6, iv (2 : Int32), iv p7, iv p8, iv p9, iv p10, rv a11, rv b18_0, .unset, .unset] [(.ref a11), (.int (1 : Int32)), (.ref a11)] _
  refine XS.iload Y18.here hx rfl (hb hby at_167) rfl ?_
  show St p e below T18 m 169 #[iv p1, iv p2, iv p3, iv p4, iv p5, rv a6, iv (2 : Int32), iv p7, iv p8, iv p9, iv p10, rv a11, rv b18_0, .unset, .unset] [(.int (2 : Int32)), (.ref a11), (.int (1 : Int32)), (.ref a11)] _
  refine XS.iconst Y18.here hx rfl (hb hby at_169) ?_
  show St p e below T18 m 170 #[iv p1, iv p2, iv p3, iv p4, iv p5, rv a6, iv (2 : Int32), iv p7, iv p8, iv p9, iv p10, rv a11, rv b18_0, .unset, .unset] [(.int (1 : Int32)), (.int (2 : Int32)), (.ref a11), (.int (1 : Int32)), (.ref a11)] _
  refine XS.isub Y18.here hx rfl (hb hby at_170) rfl ?_
  show St p e below T18 m 171 #[iv p1, iv p2, iv p3, iv p4, iv p5, rv a6, iv (2 : Int32), iv p7, iv p8, iv p9, iv p10, rv a11, rv b18_0, .unset, .unset] [(.int (1 : Int32)), (.ref a11), (.int (1 : Int32)), (.ref a11)] _
  refine Y18.baloadBytes hx (j := (1 : Int32)) (v := (.int p16)) Ar20.1 (State.isArrayOf_alike hZ18.alike Ar20.2.1) Ar20.2.2 hin20 (Has.at H20 hin20 rfl) (g := (mkF m 171 #[iv p1, iv p2, iv p3, iv p4, iv p5, rv a6, iv (2 : Int32), iv p7, iv p8, iv p9, iv p10, rv a11, rv b18_0, .unset, .unset] [(.int (1 : Int32)), (.ref a11), (.int (1 : Int32)), (.ref a11)])) rfl rfl (hb hby at_171) _ ?_
  show St p e below T18 m 172 #[iv p1, iv p2, iv p3, iv p4, iv p5, rv a6, iv (2 : Int32), iv p7, iv p8, iv p9, iv p10, rv a11, rv b18_0, .unset, .unset] [(.int p16), (.int (1 : Int32)), (.ref a11)] _
  refine XS.iload Y18.here hx rfl (hb hby at_172) rfl ?_
  show St p e below T18 m 174 #[iv p1, iv p2, iv p3, iv p4, iv p5, rv a6, iv (2 : Int32), iv p7, iv p8, iv p9, iv p10, rv a11, rv b18_0, .unset, .unset] [(.int p10), (.int p16), (.int (1 : Int32)), (.ref a11)] _
  refine XS.ixor Y18.here hx rfl (hb hby at_174) rfl ?_
  show St p e below T18 m 175 #[iv p1, iv p2, iv p3, iv p4, iv p5, rv a6, iv (2 : Int32), iv p7, iv p8, iv p9, iv p10, rv a11, rv b18_0, .unset, .unset] [(.int (p16 ^^^ p10)), (.int (1 : Int32)), (.ref a11)] _
  refine XS.i2b Y18.here hx rfl (hb hby at_175) rfl ?_
  show St p e below T18 m 176 #[iv p1, iv p2, iv p3, iv p4, iv p5, rv a6, iv (2 : Int32), iv p7, iv p8, iv p9, iv p10, rv a11, rv b18_0, .unset, .unset] [(.int ((p16 ^^^ p10).toInt8.toInt32)), (.int (1 : Int32)), (.ref a11)] _
  refine st21 _ ?_
  show St p e below T21 m 177 #[iv p1, iv p2, iv p3, iv p4, iv p5, rv a6, iv (2 : Int32), iv p7, iv p8, iv p9, iv p10, rv a11, rv b18_0, .unset, .unset] [] _
  refine XS.aload X21.here hx rfl (hb hby at_177) rfl rfl ?_
  show St p e below T21 m 179 #[iv p1, iv p2, iv p3, iv p4, iv p5, rv a6, iv (2 : Int32), iv p7, iv p8, iv p9, iv p10, rv a11, rv b18_0, .unset, .unset] [(.ref b18_0)] _
  refine st28.trans ?_
  show St p e below T28 m 182 #[iv p1, iv p2, iv p3, iv p4, iv p5, rv a6, iv (2 : Int32), iv p7, iv p8, iv p9, iv p10, rv a11, rv b18_0, .unset, .unset] [(.ref a6)] _
  refine XS.aload X28.here hx rfl (hb hby at_182) rfl rfl ?_
  show St p e below T28 m 184 #[iv p1, iv p2, iv p3, iv p4, iv p5, rv a6, iv (2 : Int32), iv p7, iv p8, iv p9, iv p10, rv a11, rv b18_0, .unset, .unset] [(.ref a6), (.ref a6)] _
  refine Jvm.RoadKit.acmp (g := (mkF m 184 #[iv p1, iv p2, iv p3, iv p4, iv p5, rv a6, iv (2 : Int32), iv p7, iv p8, iv p9, iv p10, rv a11, rv b18_0, .unset, .unset] [(.ref a6), (.ref a6)])) X28 hx rfl rfl rfl (pc0 := 184) (pc' := 189) (same := true) rfl (hb hby at_184) rfl (decide_eq_true rfl) (by decide) (by decide) ?_
  show St p e below T28 m 189 #[iv p1, iv p2, iv p3, iv p4, iv p5, rv a6, iv (2 : Int32), iv p7, iv p8, iv p9, iv p10, rv a11, rv b18_0, .unset, .unset] [] _
  refine XS.aload X28.here hx rfl (hb hby at_189) rfl rfl ?_
  show St p e below T28 m 191 #[iv p1, iv p2, iv p3, iv p4, iv p5, rv a6, iv (2 : Int32), iv p7, iv p8, iv p9, iv p10, rv a11, rv b18_0, .unset, .unset] [(.ref b18_0)] _
  refine st33.trans ?_
  show St p e below T33 m 194 #[iv p1, iv p2, iv p3, iv p4, iv p5, rv a6, iv (2 : Int32), iv p7, iv p8, iv p9, iv p10, rv a11, rv b18_0, .unset, .unset] [(.ref b33_0)] _
  refine XS.astore X33.here hx rfl (hb hby at_194) rfl rfl (l' := #[iv p1, iv p2, iv p3, iv p4, iv p5, rv a6, iv (2 : Int32), iv p7, iv p8, iv p9, iv p10, rv a11, rv b18_0, rv b33_0, .unset]) rfl ?_
  show St p e below T33 m 196 #[iv p1, iv p2, iv p3, iv p4, iv p5, rv a6, iv (2 : Int32), iv p7, iv p8, iv p9, iv p10, rv a11, rv b18_0, rv b33_0, .unset] [] _
  refine XS.aload X33.here hx rfl (hb hby at_196) rfl rfl ?_
  show St p e below T33 m 198 #[iv p1, iv p2, iv p3, iv p4, iv p5, rv a6, iv (2 : Int32), iv p7, iv p8, iv p9, iv p10, rv a11, rv b18_0, rv b33_0, .unset] [(.ref b33_0)] _
  refine XS.aload X33.here hx rfl (hb hby at_198) rfl rfl ?_
  show St p e below T33 m 200 #[iv p1, iv p2, iv p3, iv p4, iv p5, rv a6, iv (2 : Int32), iv p7, iv p8, iv p9, iv p10, rv a11, rv b18_0, rv b33_0, .unset] [(.ref a11), (.ref b33_0)] _
  refine Jvm.RoadKit.acmp (g := (mkF m 200 #[iv p1, iv p2, iv p3, iv p4, iv p5, rv a6, iv (2 : Int32), iv p7, iv p8, iv p9, iv p10, rv a11, rv b18_0, rv b33_0, .unset] [(.ref a11), (.ref b33_0)])) X33 hx rfl rfl rfl (pc0 := 200) (pc' := 205) (same := false) rfl (hb hby at_200) rfl (decide_eq_false fun q => (Ne.symm ne34) (Value.ref.inj q)) (by decide) (by decide) ?_
  show St p e below T33 m 205 #[iv p1, iv p2, iv p3, iv p4, iv p5, rv a6, iv (2 : Int32), iv p7, iv p8, iv p9, iv p10, rv a11, rv b18_0, rv b33_0, .unset] [] _
  refine XS.aload X33.here hx rfl (hb hby at_205) rfl rfl ?_
  show St p e below T33 m 207 #[iv p1, iv p2, iv p3, iv p4, iv p5, rv a6, iv (2 : Int32), iv p7, iv p8, iv p9, iv p10, rv a11, rv b18_0, rv b33_0, .unset] [(.ref b33_0)] _
  refine XS.iload X33.here hx rfl (hb hby at_207) rfl ?_
  show St p e below T33 m 209 #[iv p1, iv p2, iv p3, iv p4, iv p5, rv a6, iv (2 : Int32), iv p7, iv p8, iv p9, iv p10, rv a11, rv b18_0, rv b33_0, .unset] [(.int (2 : Int32)), (.ref b33_0)] _
  refine XS.iload X33.here hx rfl (hb hby at_209) rfl ?_
  show St p e below T33 m 211 #[iv p1, iv p2, iv p3, iv p4, iv p5, rv a6, iv (2 : Int32), iv p7, iv p8, iv p9, iv p10, rv a11, rv b18_0, rv b33_0, .unset] [(.int p7), (.int (2 : Int32)), (.ref b33_0)] _
  refine XS.iload X33.here hx rfl (hb hby at_211) rfl ?_
  show St p e below T33 m 213 #[iv p1, iv p2, iv p3, iv p4, iv p5, rv a6, iv (2 : Int32), iv p7, iv p8, iv p9, iv p10, rv a11, rv b18_0, rv b33_0, .unset] [(.int p8), (.int p7), (.int (2 : Int32)), (.ref b33_0)] _
  refine XS.iload X33.here hx rfl (hb hby at_213) rfl ?_
  show St p e below T33 m 215 #[iv p1, iv p2, iv p3, iv p4, iv p5, rv a6, iv (2 : Int32), iv p7, iv p8, iv p9, iv p10, rv a11, rv b18_0, rv b33_0, .unset] [(.int p9), (.int p8), (.int p7), (.int (2 : Int32)), (.ref b33_0)] _
  refine st37 _ ?_
  show St p e below T37 m 218 #[iv p1, iv p2, iv p3, iv p4, iv p5, rv a6, iv (2 : Int32), iv p7, iv p8, iv p9, iv p10, rv a11, rv b18_0, rv b33_0, .unset] [(.int (1 : Int32))] _
  refine XS.ifYes X37.here hx rfl (pc0 := 218) (pc' := 223) rfl (hb hby at_218) rfl ((if0 _ _).trans (feq (by decide : ¬ ((1 : Int32) = (0 : Int32)))).2) (by decide) (by decide) ?_
  show St p e below T37 m 223 #[iv p1, iv p2, iv p3, iv p4, iv p5, rv a6, iv (2 : Int32), iv p7, iv p8, iv p9, iv p10, rv a11, rv b18_0, rv b33_0, .unset] [] _
  refine XS.iload X37.here hx rfl (hb hby at_223) rfl ?_
  show St p e below T37 m 225 #[iv p1, iv p2, iv p3, iv p4, iv p5, rv a6, iv (2 : Int32), iv p7, iv p8, iv p9, iv p10, rv a11, rv b18_0, rv b33_0, .unset] [(.int (2 : Int32))] _
  refine XS.ifNo X37.here hx rfl (hb hby at_225) rfl ((if0 _ _).trans (tlt (by decide : (0 : Int32) < (2 : Int32))).2.2.2) ?_
  show St p e below T37 m 228 #[iv p1, iv p2, iv p3, iv p4, iv p5, rv a6, iv (2 : Int32), iv p7, iv p8, iv p9, iv p10, rv a11, rv b18_0, rv b33_0, .unset] [] _
  refine XS.aload X37.here hx rfl (hb hby at_228) rfl rfl ?_
  show St p e below T37 m 230 #[iv p1, iv p2, iv p3, iv p4, iv p5, rv a6, iv (2 : Int32), iv p7, iv p8, iv p9, iv p10, rv a11, rv b18_0, rv b33_0, .unset] [(.ref b33_0)] _
  refine XS.iconst X37.here hx rfl (hb hby at_230) ?_
  show St p e below T37 m 231 #[iv p1, iv p2, iv p3, iv p4, iv p5, rv a6, iv (2 : Int32), iv p7, iv p8, iv p9, iv p10, rv a11, rv b18_0, rv b33_0, .unset] [(.int (0 : Int32)), (.ref b33_0)] _
  refine XS.aload X37.here hx rfl (hb hby at_231) rfl rfl ?_
  show St p e below T37 m 233 #[iv p1, iv p2, iv p3, iv p4, iv p5, rv a6, iv (2 : Int32), iv p7, iv p8, iv p9, iv p10, rv a11, rv b18_0, rv b33_0, .unset] [(.ref b33_0), (.int (0 : Int32)), (.ref b33_0)] _
  refine XS.iconst X37.here hx rfl (hb hby at_233) ?_
  show St p e below T37 m 234 #[iv p1, iv p2, iv p3, iv p4, iv p5, rv a6, iv (2 : Int32), iv p7, iv p8, iv p9, iv p10, rv a11, rv b18_0, rv b33_0, .unset] [(.int (0 : Int32)), (.ref b33_0), (.int (0 : Int32)), (.ref b33_0)] _
  refine X37.baloadBytes hx (j := (0 : Int32)) (v := (.int p15)) (by rw [e37]; exact Ar38.1) (State.isArrayOf_alike hZ18.alike Ar38.2.1) Ar38.2.2 hin38 (Has.at H38 hin38 rfl) (g := (mkF m 234 #[iv p1, iv p2, iv p3, iv p4, iv p5, rv a6, iv (2 : Int32), iv p7, iv p8, iv p9, iv p10, rv a11, rv b18_0, rv b33_0, .unset] [(.int (0 : Int32)), (.ref b33_0), (.int (0 : Int32)), (.ref b33_0)])) rfl rfl (hb hby at_234) _ ?_
  show St p e below T37 m 235 #[iv p1, iv p2, iv p3, iv p4, iv p5, rv a6, iv (2 : Int32), iv p7, iv p8, iv p9, iv p10, rv a11, rv b18_0, rv b33_0, .unset] [(.int p15), (.int (0 : Int32)), (.ref b33_0)] _
  refine XS.iload X37.here hx rfl (hb hby at_235) rfl ?_
  show St p e below T37 m 237 #[iv p1, iv p2, iv p3, iv p4, iv p5, rv a6, iv (2 : Int32), iv p7, iv p8, iv p9, iv p10, rv a11, rv b18_0, rv b33_0, .unset] [(.int p10), (.int p15), (.int (0 : Int32)), (.ref b33_0)] _
  refine XS.ixor X37.here hx rfl (hb hby at_237) rfl ?_
  show St p e below T37 m 238 #[iv p1, iv p2, iv p3, iv p4, iv p5, rv a6, iv (2 : Int32), iv p7, iv p8, iv p9, iv p10, rv a11, rv b18_0, rv b33_0, .unset] [(.int (p15 ^^^ p10)), (.int (0 : Int32)), (.ref b33_0)] _
  refine XS.i2b X37.here hx rfl (hb hby at_238) rfl ?_
  show St p e below T37 m 239 #[iv p1, iv p2, iv p3, iv p4, iv p5, rv a6, iv (2 : Int32), iv p7, iv p8, iv p9, iv p10, rv a11, rv b18_0, rv b33_0, .unset] [(.int ((p15 ^^^ p10).toInt8.toInt32)), (.int (0 : Int32)), (.ref b33_0)] _
  refine st39 _ ?_
  show St p e below T39 m 240 #[iv p1, iv p2, iv p3, iv p4, iv p5, rv a6, iv (2 : Int32), iv p7, iv p8, iv p9, iv p10, rv a11, rv b18_0, rv b33_0, .unset] [] _
  refine XS.aload X39.here hx rfl (hb hby at_240) rfl rfl ?_
  show St p e below T39 m 242 #[iv p1, iv p2, iv p3, iv p4, iv p5, rv a6, iv (2 : Int32), iv p7, iv p8, iv p9, iv p10, rv a11, rv b18_0, rv b33_0, .unset] [(.ref b18_0)] _
  refine st50.trans ?_
  show St p e below T50 m 245 #[iv p1, iv p2, iv p3, iv p4, iv p5, rv a6, iv (2 : Int32), iv p7, iv p8, iv p9, iv p10, rv a11, rv b18_0, rv b33_0, .unset] [(.ref b50_0)] _
  refine XS.astore X50.here hx rfl (hb hby at_245) rfl rfl (l' := #[iv p1, iv p2, iv p3, iv p4, iv p5, rv a6, iv (2 : Int32), iv p7, iv p8, iv p9, iv p10, rv a11, rv b18_0, rv b33_0, rv b50_0]) rfl ?_
  show St p e below T50 m 247 #[iv p1, iv p2, iv p3, iv p4, iv p5, rv a6, iv (2 : Int32), iv p7, iv p8, iv p9, iv p10, rv a11, rv b18_0, rv b33_0, rv b50_0] [] _
  refine XS.aload X50.here hx rfl (hb hby at_247) rfl rfl ?_
  show St p e below T50 m 249 #[iv p1, iv p2, iv p3, iv p4, iv p5, rv a6, iv (2 : Int32), iv p7, iv p8, iv p9, iv p10, rv a11, rv b18_0, rv b33_0, rv b50_0] [(.ref b50_0)] _
  refine XS.aload X50.here hx rfl (hb hby at_249) rfl rfl ?_
  show St p e below T50 m 251 #[iv p1, iv p2, iv p3, iv p4, iv p5, rv a6, iv (2 : Int32), iv p7, iv p8, iv p9, iv p10, rv a11, rv b18_0, rv b33_0, rv b50_0] [(.ref b33_0), (.ref b50_0)] _
  refine Jvm.RoadKit.acmp (g := (mkF m 251 #[iv p1, iv p2, iv p3, iv p4, iv p5, rv a6, iv (2 : Int32), iv p7, iv p8, iv p9, iv p10, rv a11, rv b18_0, rv b33_0, rv b50_0] [(.ref b33_0), (.ref b50_0)])) X50 hx rfl rfl rfl (pc0 := 251) (pc' := 254) (same := false) rfl (hb hby at_251) rfl (decide_eq_false fun q => (Ne.symm ne51) (Value.ref.inj q)) (by decide) (by decide) ?_
  show St p e below T50 m 254 #[iv p1, iv p2, iv p3, iv p4, iv p5, rv a6, iv (2 : Int32), iv p7, iv p8, iv p9, iv p10, rv a11, rv b18_0, rv b33_0, rv b50_0] [] _
  refine XS.aload X50.here hx rfl (hb hby at_254) rfl rfl ?_
  show St p e below T50 m 256 #[iv p1, iv p2, iv p3, iv p4, iv p5, rv a6, iv (2 : Int32), iv p7, iv p8, iv p9, iv p10, rv a11, rv b18_0, rv b33_0, rv b50_0] [(.ref b50_0)] _
  refine XS.aload X50.here hx rfl (hb hby at_256) rfl rfl ?_
  show St p e below T50 m 258 #[iv p1, iv p2, iv p3, iv p4, iv p5, rv a6, iv (2 : Int32), iv p7, iv p8, iv p9, iv p10, rv a11, rv b18_0, rv b33_0, rv b50_0] [(.ref a11), (.ref b50_0)] _
  refine Jvm.RoadKit.acmp (g := (mkF m 258 #[iv p1, iv p2, iv p3, iv p4, iv p5, rv a6, iv (2 : Int32), iv p7, iv p8, iv p9, iv p10, rv a11, rv b18_0, rv b33_0, rv b50_0] [(.ref a11), (.ref b50_0)])) X50 hx rfl rfl rfl (pc0 := 258) (pc' := 263) (same := false) rfl (hb hby at_258) rfl (decide_eq_false fun q => (Ne.symm ne52) (Value.ref.inj q)) (by decide) (by decide) ?_
  show St p e below T50 m 263 #[iv p1, iv p2, iv p3, iv p4, iv p5, rv a6, iv (2 : Int32), iv p7, iv p8, iv p9, iv p10, rv a11, rv b18_0, rv b33_0, rv b50_0] [] _
  refine XS.aload X50.here hx rfl (hb hby at_263) rfl rfl ?_
  show St p e below T50 m 265 #[iv p1, iv p2, iv p3, iv p4, iv p5, rv a6, iv (2 : Int32), iv p7, iv p8, iv p9, iv p10, rv a11, rv b18_0, rv b33_0, rv b50_0] [(.ref b50_0)] _
  refine XS.iload X50.here hx rfl (hb hby at_265) rfl ?_
  show St p e below T50 m 267 #[iv p1, iv p2, iv p3, iv p4, iv p5, rv a6, iv (2 : Int32), iv p7, iv p8, iv p9, iv p10, rv a11, rv b18_0, rv b33_0, rv b50_0] [(.int (2 : Int32)), (.ref b50_0)] _
  refine XS.iload X50.here hx rfl (hb hby at_267) rfl ?_
  show St p e below T50 m 269 #[iv p1, iv p2, iv p3, iv p4, iv p5, rv a6, iv (2 : Int32), iv p7, iv p8, iv p9, iv p10, rv a11, rv b18_0, rv b33_0, rv b50_0] [(.int p7), (.int (2 : Int32)), (.ref b50_0)] _
  refine XS.iload X50.here hx rfl (hb hby at_269) rfl ?_
  show St p e below T50 m 271 #[iv p1, iv p2, iv p3, iv p4, iv p5, rv a6, iv (2 : Int32), iv p7, iv p8, iv p9, iv p10, rv a11, rv b18_0, rv b33_0, rv b50_0] [(.int p8), (.int p7), (.int (2 : Int32)), (.ref b50_0)] _
  refine XS.iload X50.here hx rfl (hb hby at_271) rfl ?_
  show St p e below T50 m 273 #[iv p1, iv p2, iv p3, iv p4, iv p5, rv a6, iv (2 : Int32), iv p7, iv p8, iv p9, iv p10, rv a11, rv b18_0, rv b33_0, rv b50_0] [(.int p9), (.int p8), (.int p7), (.int (2 : Int32)), (.ref b50_0)] _
  refine st53 _ ?_
  show St p e below T53 m 276 #[iv p1, iv p2, iv p3, iv p4, iv p5, rv a6, iv (2 : Int32), iv p7, iv p8, iv p9, iv p10, rv a11, rv b18_0, rv b33_0, rv b50_0] [(.int (1 : Int32))] _
  refine XS.ifYes X53.here hx rfl (pc0 := 276) (pc' := 281) rfl (hb hby at_276) rfl ((if0 _ _).trans (feq (by decide : ¬ ((1 : Int32) = (0 : Int32)))).2) (by decide) (by decide) ?_
  exact kt
def law_3Q (Z : State) (wKind_SUCCESS : Addr) (wKind_RETRYABLE_FAILURE : Addr) (wKind_FINAL_FAILURE : Addr) (i0 : Int32) (i1 : Int32) (i2 : Int32) (i3 : Int32) (h0 : Heap) (n0 : Nat) (v : Option Value) (h : Heap) (L : List Loc) : Prop := v = some (.int (1 : Int32)) ∧ Fr n0 L
theorem law_3e (m : MethodId) (wKind_SUCCESS : Addr) (wKind_RETRYABLE_FAILURE : Addr) (wKind_FINAL_FAILURE : Addr) (i0 : Int32) (i1 : Int32) (i2 : Int32) (i3 : Int32) : entryFrame m #[(.int i0), (.int i1), (.int i2), (.int i3)] maxLocals = mkF m 0 #[iv i0, iv i1, iv i2, iv i3, .unset, .unset, .unset, .unset, .unset, .unset, .unset, .unset, .unset, .unset, .unset] [] := by first | (simp [entryFrame, mkF, argsToLocals, Value.category, maxLocals]; done) | rfl
set_option maxRecDepth 65536 in
set_option maxHeartbeats 40000000 in
theorem law_3 (l : Launch) (Z : State) (a0 : Array Value) (hw : HW a0 Z) (ws : List Jvm.Cond) (wKind_SUCCESS : Addr) (wKind_RETRYABLE_FAILURE : Addr) (wKind_FINAL_FAILURE : Addr) (B : Base Z wKind_SUCCESS wKind_RETRYABLE_FAILURE wKind_FINAL_FAILURE) (i0 : Int32) (i1 : Int32) (i2 : Int32) (i3 : Int32) (h0 : Heap) (n0 : Nat) (O0 : Old Z n0 h0) (pin0 : ((i0 &&& (2147483647 : Int32)) % (3 : Int32)) = (0 : Int32)) (pin1 : (i1 &&& (3 : Int32)) = (2 : Int32)) (hc4 : (nar .byte (i2.toInt8.toInt32)) = (i2.toInt8.toInt32)) (hc5 : (nar .byte ((i2 >>> ((8 : Int32) &&& 31)).toInt8.toInt32)) = ((i2 >>> ((8 : Int32) &&& 31)).toInt8.toInt32)) :
    MetFree l x (head1 (Jvm.Cond.code x code maxLocals ret :: ws) room_1) (fun a U => a = #[(.int i0), (.int i1), (.int i2), (.int i3)] ∧ Z.Warmed39 U.vm ∧ U.heap = h0) (fun _ _ _ _ _ => True) (fun _ U o U' => ∃ v L, o = .returned v ∧ law_3Q Z wKind_SUCCESS wKind_RETRYABLE_FAILURE wKind_FINAL_FAILURE i0 i1 i2 i3 h0 n0 v U'.heap L ∧ ReturnedEndW U o U' L room_1.cells room_1.slots) := by
  refine MetFree.of_bodySF (plainFor_of_name pn_com_example_nervous_key_nervouskey_OutcomeOfPinLaw) hisR ?_
  intro p e s m args below meth c s₁ Bd hml0 hP hK
  obtain ⟨rfl, hZ, hh⟩ := hP
  have hx := Bd.exec
  have hby := Bd.bytes
  have hml : c.maxLocals = 15 := hml0
  have hown : s.vm.findClass "com/example/nervous_key/nervouskey/OutcomeOfPinLaw" = some m.cls := findClass_of_methodNamed Bd.named
  have hnm := (name_of_methodNamed Bd.named Bd.method).1
  have X0 : Stand p l e room_1 s m #[(.int i0), (.int i1), (.int i2), (.int i3)] below meth c s₁ [] 0 0 := Stand.of_body Bd
  have e0 : s₁.heap = h0 := by rw [← hh, Bd.state]; rfl
  have N0 := Fr.nil n0
  have pre0 : ∀ t, Steps p.tables e below (s₁.setTop (mkF m 0 #[iv i0, iv i1, iv i2, iv i3, .unset, .unset, .unset, .unset, .unset, .unset, .unset, .unset, .unset, .unset, .unset] [])) t → Steps p.tables e below (s₁.setTop (entryFrame m #[(.int i0), (.int i1), (.int i2), (.int i3)] maxLocals)) t := fun t k => castTop (law_3e m wKind_SUCCESS wKind_RETRYABLE_FAILURE wKind_FINAL_FAILURE i0 i1 i2 i3) k
  obtain ⟨T1, X1, e1, st1⟩ := getS2 X0 hx hZ hown (host := "") (Or.inl (ow hw 1 rfl)) Via.refl e0 (B.1.ext O0.2) (g := (mkF m 13 #[iv i0, iv i1, iv i2, iv i3, iv (0 : Int32), .unset, .unset, .unset, .unset, .unset, .unset, .unset, .unset, .unset, .unset] [])) rfl (hb hby at_13)
  obtain ⟨T2, h2, L2, b2_0, k2_0, X2, e2, N2, K2, lo2_1, f2_2, f2_3, st2⟩ := g0_5 i0 i1 i2 i3 (0 : Int32) wKind_SUCCESS (i2.toInt8.toInt32) ((i2 >>> ((8 : Int32) &&& 31)).toInt8.toInt32) ((i2 >>> ((16 : Int32) &&& 31)).toInt8.toInt32) ((i3 ||| (1 : Int32)).toInt8.toInt32) X1 hx hZ hw hby hml hown e1 O0 N0 (by decide) (by decide) (by decide) (by decide)
  have O_K2 : Old Z n0 h2 := O0.keep K2 all0
  have Kp_K2 : Keep h0 h2 [] := (Keep.refl h0 []).trans K2 all0
  have g3 : n0 ≤ b2_0 := Nat.le_trans (Nat.le_trans (Nat.le_of_eq O0.1.symm) O0.2.1) lo2_1
  obtain ⟨T6, h6, L6, vm6, b6_0, b6_1, b6_2, b6_3, X6, e6, hSq6, N6, K6, lo6_1, lo6_2, lo6_3, lo6_4, nq6_5, nq6_6, nq6_7, nq6_8, nq6_9, nq6_10, f6_11, f6_12, f6_13, f6_14, f6_15, f6_16, f6_17, f6_18, f6_19, f6_20, f6_21, st6⟩ := g0_6 i0 i1 i2 i3 (0 : Int32) wKind_SUCCESS (i2.toInt8.toInt32) ((i2 >>> ((8 : Int32) &&& 31)).toInt8.toInt32) ((i2 >>> ((16 : Int32) &&& 31)).toInt8.toInt32) ((i3 ||| (1 : Int32)).toInt8.toInt32) b2_0 k2_0 (nar .byte (i2.toInt8.toInt32)) (nar .byte ((i2 >>> ((8 : Int32) &&& 31)).toInt8.toInt32)) X2 hx hZ hw hby hml hown e2 O_K2 N2 (by decide) (by decide) (by decide) (by decide) B.2.1 f2_3 f2_2 g3 hc4 hc5
  obtain ⟨Y6, hS6, hZ6, hown6⟩ := rebS (s := s) (vm0 := s.vm) (State.WarmedH.since (State.WarmedH.refl s) 0) (Nat.zero_le _) X6 hSq6 K6.1 hZ hown
  have z7 : h0.size ≤ b2_0 := Nat.le_trans (Keep.refl h0 []).1 lo2_1
  have O_K6 : Old Z n0 h6 := O_K2.keep K6 (allS g3 all0)
  have Kp_K6 : Keep h0 h6 [] := Kp_K2.trans K6 (allS (Or.inr z7) all0)
  obtain ⟨cq8, kq8, q8a, q8b, q8c⟩ := isOf hZ6 e6 f6_13
  obtain ⟨_, _, ⟨T8, L8, k8, n8⟩, -, X8, ⟨Lc8, hQ8, l8, y8, z8⟩, st8⟩ := Y6.virtualBack hx (y := y4) (z := y4) hown6 (mvT hZ6 (ow hw 44 rfl)) (mvT hZ6 (ow hw 45 rfl)) (notFace_of_selects (args := #[]) (mvT hZ6 (ow hw 47 rfl))) (mvT hZ6 (ow hw 47 rfl)) (mvT hZ6 (ow hw 46 rfl)) (by decide) (backOf (W := 0) (r4_1 l Z a0 hw [] b6_0 wKind_SUCCESS h6 n0 O_K6 f6_14) hZ6 (ow hw 48 rfl) (ow hw 7 rfl) (by decide) (by decide)) q8a q8c (g := (mkF m 283 #[iv i0, iv i1, iv i2, iv i3, iv (0 : Int32), rv wKind_SUCCESS, iv (2 : Int32), iv (i2.toInt8.toInt32), iv ((i2 >>> ((8 : Int32) &&& 31)).toInt8.toInt32), iv ((i2 >>> ((16 : Int32) &&& 31)).toInt8.toInt32), iv ((i3 ||| (1 : Int32)).toInt8.toInt32), rv b2_0, rv b6_0, rv b6_1, rv b6_2] [(.ref b6_0)])) rfl (by rw [hml]; rfl) (Steps.refl _) (argsL := []) (rest := []) (lenOf pd___Lcom_example_nervous_key_nervouskey_Outcome_Kind_ rfl) rfl (by show 2 * 0 + _ ≤ _; exact Nat.le_of_eq rfl) (hb hby at_283) (fun _ _ => ⟨rfl, e6, (by decide : 9 + 0 ≤ _), (by decide : 58 + 0 ≤ _)⟩)
  dsimp only [Pt.U, Pt.locs, Pt.cells, Pt.slots] at X8 l8 y8 z8 st8 hQ8
  subst l8 y8 z8
  obtain ⟨rfl, N8q, e8⟩ := hQ8
  have N8 := Fr.app N6 N8q
  obtain ⟨fs, hr, hrun, hended, hE⟩ := Stand.leaveW (s := s) (vm₁ := vm6) X8 hS6 (by rw [e8]; exact (Nat.le_refl _)) (v := some (.int (1 : Int32))) (fun h => by rw [Bd.returns] at h; cases h)
  refine ⟨_, _, pre0 _ ?_, hrun, hended, _, _, rfl, ?_, hE.1, hE.2.1, hE.2.2.1, hE.2.2.2.mono (by decide) (by decide)⟩
  · show St p e below s₁ m 0 #[iv i0, iv i1, iv i2, iv i3, .unset, .unset, .unset, .unset, .unset, .unset, .unset, .unset, .unset, .unset, .unset] [] _
    refine XS.iloadN X0.here hx rfl (hb hby at_0) rfl ?_
    show St p e below s₁ m 1 #[iv i0, iv i1, iv i2, iv i3, .unset, .unset, .unset, .unset, .unset, .unset, .unset, .unset, .unset, .unset, .unset] [(.int i0)] _
    refine X0.ldcInt hx hown (mvT hZ (ow hw 0 rfl)) (g := (mkF m 1 #[iv i0, iv i1, iv i2, iv i3, .unset, .unset, .unset, .unset, .unset, .unset, .unset, .unset, .unset, .unset, .unset] [(.int i0)])) rfl (hb hby at_1) _ ?_
    show St p e below s₁ m 3 #[iv i0, iv i1, iv i2, iv i3, .unset, .unset, .unset, .unset, .unset, .unset, .unset, .unset, .unset, .unset, .unset] [(.int (2147483647 : Int32)), (.int i0)] _
    refine XS.iand X0.here hx rfl (hb hby at_3) rfl ?_
    show St p e below s₁ m 4 #[iv i0, iv i1, iv i2, iv i3, .unset, .unset, .unset, .unset, .unset, .unset, .unset, .unset, .unset, .unset, .unset] [(.int (i0 &&& (2147483647 : Int32)))] _
    refine XS.iconst X0.here hx rfl (hb hby at_4) ?_
    show St p e below s₁ m 5 #[iv i0, iv i1, iv i2, iv i3, .unset, .unset, .unset, .unset, .unset, .unset, .unset, .unset, .unset, .unset, .unset] [(.int (3 : Int32)), (.int (i0 &&& (2147483647 : Int32)))] _
    refine Jvm.RoadKit.iremM (g := (mkF m 5 #[iv i0, iv i1, iv i2, iv i3, .unset, .unset, .unset, .unset, .unset, .unset, .unset, .unset, .unset, .unset, .unset] [(.int (3 : Int32)), (.int (i0 &&& (2147483647 : Int32)))])) X0 hx rfl (hb hby at_5) rfl (by decide : ¬ ((3 : Int32) = (0 : Int32))) ?_
    show St p e below s₁ m 6 #[iv i0, iv i1, iv i2, iv i3, .unset, .unset, .unset, .unset, .unset, .unset, .unset, .unset, .unset, .unset, .unset] [(.int ((i0 &&& (2147483647 : Int32)) % (3 : Int32)))] _
    rw [pin0]
    show St p e below s₁ m 6 #[iv i0, iv i1, iv i2, iv i3, .unset, .unset, .unset, .unset, .unset, .unset, .unset, .unset, .unset, .unset, .unset] [(.int (0 : Int32))] _
    refine XS.istore X0.here hx rfl (hb hby at_6) rfl (l' := #[iv i0, iv i1, iv i2, iv i3, iv (0 : Int32), .unset, .unset, .unset, .unset, .unset, .unset, .unset, .unset, .unset, .unset]) rfl ?_
    show St p e below s₁ m 8 #[iv i0, iv i1, iv i2, iv i3, iv (0 : Int32), .unset, .unset, .unset, .unset, .unset, .unset, .unset, .unset, .unset, .unset] [] _
    refine XS.iload X0.here hx rfl (hb hby at_8) rfl ?_
    show St p e below s₁ m 10 #[iv i0, iv i1, iv i2, iv i3, iv (0 : Int32), .unset, .unset, .unset, .unset, .unset, .unset, .unset, .unset, .unset, .unset] [(.int (0 : Int32))] _
    refine XS.ifNo X0.here hx rfl (hb hby at_10) rfl ((if0 _ _).trans (teq (rfl : (0 : Int32) = (0 : Int32))).2) ?_
    show St p e below s₁ m 13 #[iv i0, iv i1, iv i2, iv i3, iv (0 : Int32), .unset, .unset, .unset, .unset, .unset, .unset, .unset, .unset, .unset, .unset] [] _
    refine st1 _ ?_
    show St p e below T1 m 16 #[iv i0, iv i1, iv i2, iv i3, iv (0 : Int32), .unset, .unset, .unset, .unset, .unset, .unset, .unset, .unset, .unset, .unset] [(.ref wKind_SUCCESS)] _
    refine XS.astore X1.here hx rfl (hb hby at_16) rfl rfl (l' := #[iv i0, iv i1, iv i2, iv i3, iv (0 : Int32), rv wKind_SUCCESS, .unset, .unset, .unset, .unset, .unset, .unset, .unset, .unset, .unset]) rfl ?_
    show St p e below T1 m 18 #[iv i0, iv i1, iv i2, iv i3, iv (0 : Int32), rv wKind_SUCCESS, .unset, .unset, .unset, .unset, .unset, .unset, .unset, .unset, .unset] [] _
    refine XS.goto X1.here hx rfl (pc0 := 18) (pc' := 40) rfl (hb hby at_18) (by decide) (by decide) ?_
    show St p e below T1 m 40 #[iv i0, iv i1, iv i2, iv i3, iv (0 : Int32), rv wKind_SUCCESS, .unset, .unset, .unset, .unset, .unset, .unset, .unset, .unset, .unset] [] _
    refine XS.iloadN X1.here hx rfl (hb hby at_40) rfl ?_
    show St p e below T1 m 41 #[iv i0, iv i1, iv i2, iv i3, iv (0 : Int32), rv wKind_SUCCESS, .unset, .unset, .unset, .unset, .unset, .unset, .unset, .unset, .unset] [(.int i1)] _
    refine XS.iconst X1.here hx rfl (hb hby at_41) ?_
    show St p e below T1 m 42 #[iv i0, iv i1, iv i2, iv i3, iv (0 : Int32), rv wKind_SUCCESS, .unset, .unset, .unset, .unset, .unset, .unset, .unset, .unset, .unset] [(.int (3 : Int32)), (.int i1)] _
    refine XS.iand X1.here hx rfl (hb hby at_42) rfl ?_
    show St p e below T1 m 43 #[iv i0, iv i1, iv i2, iv i3, iv (0 : Int32), rv wKind_SUCCESS, .unset, .unset, .unset, .unset, .unset, .unset, .unset, .unset, .unset] [(.int (i1 &&& (3 : Int32)))] _
    rw [pin1]
    show St p e below T1 m 43 #[iv i0, iv i1, iv i2, iv i3, iv (0 : Int32), rv wKind_SUCCESS, .unset, .unset, .unset, .unset, .unset, .unset, .unset, .unset, .unset] [(.int (2 : Int32))] _
    refine XS.istore X1.here hx rfl (hb hby at_43) rfl (l' := #[iv i0, iv i1, iv i2, iv i3, iv (0 : Int32), rv wKind_SUCCESS, iv (2 : Int32), .unset, .unset, .unset, .unset, .unset, .unset, .unset, .unset]) rfl ?_
    show St p e below T1 m 45 #[iv i0, iv i1, iv i2, iv i3, iv (0 : Int32), rv wKind_SUCCESS, iv (2 : Int32), .unset, .unset, .unset, .unset, .unset, .unset, .unset, .unset] [] _
    refine XS.iloadN X1.here hx rfl (hb hby at_45) rfl ?_
    show St p e below T1 m 46 #[iv i0, iv i1, iv i2, iv i3, iv (0 : Int32), rv wKind_SUCCESS, iv (2 : Int32), .unset, .unset, .unset, .unset, .unset, .unset, .unset, .unset] [(.int i2)] _
    refine XS.i2b X1.here hx rfl (hb hby at_46) rfl ?_
    show St p e below T1 m 47 #[iv i0, iv i1, iv i2, iv i3, iv (0 : Int32), rv wKind_SUCCESS, iv (2 : Int32), .unset, .unset, .unset, .unset, .unset, .unset, .unset, .unset] [(.int (i2.toInt8.toInt32))] _
    refine XS.istore X1.here hx rfl (hb hby at_47) rfl (l' := #[iv i0, iv i1, iv i2, iv i3, iv (0 : Int32), rv wKind_SUCCESS, iv (2 : Int32), iv (i2.toInt8.toInt32), .unset, .unset, .unset, .unset, .unset, .unset, .unset]) rfl ?_
    show St p e below T1 m 49 #[iv i0, iv i1, iv i2, iv i3, iv (0 : Int32), rv wKind_SUCCESS, iv (2 : Int32), iv (i2.toInt8.toInt32), .unset, .unset, .unset, .unset, .unset, .unset, .unset] [] _
    refine XS.iloadN X1.here hx rfl (hb hby at_49) rfl ?_
    show St p e below T1 m 50 #[iv i0, iv i1, iv i2, iv i3, iv (0 : Int32), rv wKind_SUCCESS, iv (2 : Int32), iv (i2.toInt8.toInt32), .unset, .unset, .unset, .unset, .unset, .unset, .unset] [(.int i2)] _
    refine XS.bipush X1.here hx rfl (hb hby at_50) ?_
    show St p e below T1 m 52 #[iv i0, iv i1, iv i2, iv i3, iv (0 : Int32), rv wKind_SUCCESS, iv (2 : Int32), iv (i2.toInt8.toInt32), .unset, .unset, .unset, .unset, .unset, .unset, .unset] [(.int (8 : Int32)), (.int i2)] _
    refine XS.ishr X1.here hx rfl (hb hby at_52) rfl ?_
    show St p e below T1 m 53 #[iv i0, iv i1, iv i2, iv i3, iv (0 : Int32), rv wKind_SUCCESS, iv (2 : Int32), iv (i2.toInt8.toInt32), .unset, .unset, .unset, .unset, .unset, .unset, .unset] [(.int (i2 >>> ((8 : Int32) &&& 31)))] _
    refine XS.i2b X1.here hx rfl (hb hby at_53) rfl ?_
    show St p e below T1 m 54 #[iv i0, iv i1, iv i2, iv i3, iv (0 : Int32), rv wKind_SUCCESS, iv (2 : Int32), iv (i2.toInt8.toInt32), .unset, .unset, .unset, .unset, .unset, .unset, .unset] [(.int ((i2 >>> ((8 : Int32) &&& 31)).toInt8.toInt32))] _
    refine XS.istore X1.here hx rfl (hb hby at_54) rfl (l' := #[iv i0, iv i1, iv i2, iv i3, iv (0 : Int32), rv wKind_SUCCESS, iv (2 : Int32), iv (i2.toInt8.toInt32), iv ((i2 >>> ((8 : Int32) &&& 31)).toInt8.toInt32), .unset, .unset, .unset, .unset, .unset, .unset]) rfl ?_
    show St p e below T1 m 56 #[iv i0, iv i1, iv i2, iv i3, iv (0 : Int32), rv wKind_SUCCESS, iv (2 : Int32), iv (i2.toInt8.toInt32), iv ((i2 >>> ((8 : Int32) &&& 31)).toInt8.toInt32), .unset, .unset, .unset, .unset, .unset, .unset] [] _
    refine XS.iloadN X1.here hx rfl (hb hby at_56) rfl ?_
    show St p e below T1 m 57 #[iv i0, iv i1, iv i2, iv i3, iv (0 : Int32), rv wKind_SUCCESS, iv (2 : Int32), iv (i2.toInt8.toInt32), iv ((i2 >>> ((8 : Int32) &&& 31)).toInt8.toInt32), .unset, .unset, .unset, .unset, .unset, .unset] [(.int i2)] _
    refine XS.bipush X1.here hx rfl (hb hby at_57) ?_
    show St p e below T1 m 59 #[iv i0, iv i1, iv i2, iv i3, iv (0 : Int32), rv wKind_SUCCESS, iv (2 : Int32), iv (i2.toInt8.toInt32), iv ((i2 >>> ((8 : Int32) &&& 31)).toInt8.toInt32), .unset, .unset, .unset, .unset, .unset, .unset] [(.int (16 : Int32)), (.int i2)] _
    refine XS.ishr X1.here hx rfl (hb hby at_59) rfl ?_
    show St p e below T1 m 60 #[iv i0, iv i1, iv i2, iv i3, iv (0 : Int32), rv wKind_SUCCESS, iv (2 : Int32), iv (i2.toInt8.toInt32), iv ((i2 >>> ((8 : Int32) &&& 31)).toInt8.toInt32), .unset, .unset, .unset, .unset, .unset, .unset] [(.int (i2 >>> ((16 : Int32) &&& 31)))] _
    refine XS.i2b X1.here hx rfl (hb hby at_60) rfl ?_
    show St p e below T1 m 61 #[iv i0, iv i1, iv i2, iv i3, iv (0 : Int32), rv wKind_SUCCESS, iv (2 : Int32), iv (i2.toInt8.toInt32), iv ((i2 >>> ((8 : Int32) &&& 31)).toInt8.toInt32), .unset, .unset, .unset, .unset, .unset, .unset] [(.int ((i2 >>> ((16 : Int32) &&& 31)).toInt8.toInt32))] _
    refine XS.istore X1.here hx rfl (hb hby at_61) rfl (l' := #[iv i0, iv i1, iv i2, iv i3, iv (0 : Int32), rv wKind_SUCCESS, iv (2 : Int32), iv (i2.toInt8.toInt32), iv ((i2 >>> ((8 : Int32) &&& 31)).toInt8.toInt32), iv ((i2 >>> ((16 : Int32) &&& 31)).toInt8.toInt32), .unset, .unset, .unset, .unset, .unset]) rfl ?_
    show St p e below T1 m 63 #[iv i0, iv i1, iv i2, iv i3, iv (0 : Int32), rv wKind_SUCCESS, iv (2 : Int32), iv (i2.toInt8.toInt32), iv ((i2 >>> ((8 : Int32) &&& 31)).toInt8.toInt32), iv ((i2 >>> ((16 : Int32) &&& 31)).toInt8.toInt32), .unset, .unset, .unset, .unset, .unset] [] _
    refine XS.iloadN X1.here hx rfl (hb hby at_63) rfl ?_
    show St p e below T1 m 64 #[iv i0, iv i1, iv i2, iv i3, iv (0 : Int32), rv wKind_SUCCESS, iv (2 : Int32), iv (i2.toInt8.toInt32), iv ((i2 >>> ((8 : Int32) &&& 31)).toInt8.toInt32), iv ((i2 >>> ((16 : Int32) &&& 31)).toInt8.toInt32), .unset, .unset, .unset, .unset, .unset] [(.int i3)] _
    refine XS.iconst X1.here hx rfl (hb hby at_64) ?_
    show St p e below T1 m 65 #[iv i0, iv i1, iv i2, iv i3, iv (0 : Int32), rv wKind_SUCCESS, iv (2 : Int32), iv (i2.toInt8.toInt32), iv ((i2 >>> ((8 : Int32) &&& 31)).toInt8.toInt32), iv ((i2 >>> ((16 : Int32) &&& 31)).toInt8.toInt32), .unset, .unset, .unset, .unset, .unset] [(.int (1 : Int32)), (.int i3)] _
    refine XS.ior X1.here hx rfl (hb hby at_65) rfl ?_
    show St p e below T1 m 66 #[iv i0, iv i1, iv i2, iv i3, iv (0 : Int32), rv wKind_SUCCESS, iv (2 : Int32), iv (i2.toInt8.toInt32), iv ((i2 >>> ((8 : Int32) &&& 31)).toInt8.toInt32), iv ((i2 >>> ((16 : Int32) &&& 31)).toInt8.toInt32), .unset, .unset, .unset, .unset, .unset] [(.int (i3 ||| (1 : Int32)))] _
    refine XS.i2b X1.here hx rfl (hb hby at_66) rfl ?_
    show St p e below T1 m 67 #[iv i0, iv i1, iv i2, iv i3, iv (0 : Int32), rv wKind_SUCCESS, iv (2 : Int32), iv (i2.toInt8.toInt32), iv ((i2 >>> ((8 : Int32) &&& 31)).toInt8.toInt32), iv ((i2 >>> ((16 : Int32) &&& 31)).toInt8.toInt32), .unset, .unset, .unset, .unset, .unset] [(.int ((i3 ||| (1 : Int32)).toInt8.toInt32))] _
    refine XS.istore X1.here hx rfl (hb hby at_67) rfl (l' := #[iv i0, iv i1, iv i2, iv i3, iv (0 : Int32), rv wKind_SUCCESS, iv (2 : Int32), iv (i2.toInt8.toInt32), iv ((i2 >>> ((8 : Int32) &&& 31)).toInt8.toInt32), iv ((i2 >>> ((16 : Int32) &&& 31)).toInt8.toInt32), iv ((i3 ||| (1 : Int32)).toInt8.toInt32), .unset, .unset, .unset, .unset]) rfl ?_
    refine st2 _ ?_
    refine st6 _ ?_
    show St p e below T6 m 281 #[iv i0, iv i1, iv i2, iv i3, iv (0 : Int32), rv wKind_SUCCESS, iv (2 : Int32), iv (i2.toInt8.toInt32), iv ((i2 >>> ((8 : Int32) &&& 31)).toInt8.toInt32), iv ((i2 >>> ((16 : Int32) &&& 31)).toInt8.toInt32), iv ((i3 ||| (1 : Int32)).toInt8.toInt32), rv b2_0, rv b6_0, rv b6_1, rv b6_2] [] _
    refine XS.aload Y6.here hx rfl (hb hby at_281) rfl rfl ?_
    show St p e below T6 m 283 #[iv i0, iv i1, iv i2, iv i3, iv (0 : Int32), rv wKind_SUCCESS, iv (2 : Int32), iv (i2.toInt8.toInt32), iv ((i2 >>> ((8 : Int32) &&& 31)).toInt8.toInt32), iv ((i2 >>> ((16 : Int32) &&& 31)).toInt8.toInt32), iv ((i3 ||| (1 : Int32)).toInt8.toInt32), rv b2_0, rv b6_0, rv b6_1, rv b6_2] [(.ref b6_0)] _
    refine st8.trans ?_
    show St p e below T8 m 286 #[iv i0, iv i1, iv i2, iv i3, iv (0 : Int32), rv wKind_SUCCESS, iv (2 : Int32), iv (i2.toInt8.toInt32), iv ((i2 >>> ((8 : Int32) &&& 31)).toInt8.toInt32), iv ((i2 >>> ((16 : Int32) &&& 31)).toInt8.toInt32), iv ((i3 ||| (1 : Int32)).toInt8.toInt32), rv b2_0, rv b6_0, rv b6_1, rv b6_2] [(.ref wKind_SUCCESS)] _
    refine XS.aload X8.here hx rfl (hb hby at_286) rfl rfl ?_
    show St p e below T8 m 288 #[iv i0, iv i1, iv i2, iv i3, iv (0 : Int32), rv wKind_SUCCESS, iv (2 : Int32), iv (i2.toInt8.toInt32), iv ((i2 >>> ((8 : Int32) &&& 31)).toInt8.toInt32), iv ((i2 >>> ((16 : Int32) &&& 31)).toInt8.toInt32), iv ((i3 ||| (1 : Int32)).toInt8.toInt32), rv b2_0, rv b6_0, rv b6_1, rv b6_2] [(.ref wKind_SUCCESS), (.ref wKind_SUCCESS)] _
    refine Jvm.RoadKit.acmp (g := (mkF m 288 #[iv i0, iv i1, iv i2, iv i3, iv (0 : Int32), rv wKind_SUCCESS, iv (2 : Int32), iv (i2.toInt8.toInt32), iv ((i2 >>> ((8 : Int32) &&& 31)).toInt8.toInt32), iv ((i2 >>> ((16 : Int32) &&& 31)).toInt8.toInt32), iv ((i3 ||| (1 : Int32)).toInt8.toInt32), rv b2_0, rv b6_0, rv b6_1, rv b6_2] [(.ref wKind_SUCCESS), (.ref wKind_SUCCESS)])) X8 hx rfl rfl rfl (pc0 := 288) (pc' := 291) (same := true) rfl (hb hby at_288) rfl (decide_eq_true rfl) (by decide) (by decide) ?_
    show St p e below T8 m 291 #[iv i0, iv i1, iv i2, iv i3, iv (0 : Int32), rv wKind_SUCCESS, iv (2 : Int32), iv (i2.toInt8.toInt32), iv ((i2 >>> ((8 : Int32) &&& 31)).toInt8.toInt32), iv ((i2 >>> ((16 : Int32) &&& 31)).toInt8.toInt32), iv ((i3 ||| (1 : Int32)).toInt8.toInt32), rv b2_0, rv b6_0, rv b6_1, rv b6_2] [] _
    refine XS.iconst X8.here hx rfl (hb hby at_291) ?_
    show St p e below T8 m 292 #[iv i0, iv i1, iv i2, iv i3, iv (0 : Int32), rv wKind_SUCCESS, iv (2 : Int32), iv (i2.toInt8.toInt32), iv ((i2 >>> ((8 : Int32) &&& 31)).toInt8.toInt32), iv ((i2 >>> ((16 : Int32) &&& 31)).toInt8.toInt32), iv ((i3 ||| (1 : Int32)).toInt8.toInt32), rv b2_0, rv b6_0, rv b6_1, rv b6_2] [(.int (1 : Int32))] _
    refine XS.goto X8.here hx rfl (pc0 := 292) (pc' := 296) rfl (hb hby at_292) (by decide) (by decide) ?_
    show St p e below T8 m 296 #[iv i0, iv i1, iv i2, iv i3, iv (0 : Int32), rv wKind_SUCCESS, iv (2 : Int32), iv (i2.toInt8.toInt32), iv ((i2 >>> ((8 : Int32) &&& 31)).toInt8.toInt32), iv ((i2 >>> ((16 : Int32) &&& 31)).toInt8.toInt32), iv ((i3 ||| (1 : Int32)).toInt8.toInt32), rv b2_0, rv b6_0, rv b6_1, rv b6_2] [(.int (1 : Int32))] _
    exact retN X8 hx (t := .boolean) Bd.returns (by simp) (hb hby at_296) hr
  · show law_3Q Z wKind_SUCCESS wKind_RETRYABLE_FAILURE wKind_FINAL_FAILURE i0 i1 i2 i3 h0 n0 _ T8.heap _
    rw [e8]
    exact ⟨rfl, N8⟩
set_option maxRecDepth 65536 in
set_option maxHeartbeats 40000000 in
theorem g0_7 {p : Program} {l : Launch} {e : Env} {R : Room} {s : State} {m : MethodId} {args : Array Value} {below : List Frame} {meth : Method} {c : Code} {T0 : State} {locs : List Loc} {cells slots : Nat} {Z : State} {a0 : Array Value} {h0 : Heap} {n0 : Nat} (p1 : Int32) (p2 : Int32) (p3 : Int32) (p4 : Int32) (p5 : Int32) (a6 : Addr) (p7 : Int32) (p8 : Int32) (p9 : Int32) (p10 : Int32)
    (X0 : Stand p l e R s m args below meth c T0 locs cells slots) (hx : p.tables.exec = Jvm.exec) (hZ : Z.Warmed39 s.vm) (hw : HW a0 Z) (hby : c.code = code) (hml : c.maxLocals = 15) (hown : s.vm.findClass "com/example/nervous_key/nervouskey/OutcomeOfPinLaw" = some m.cls) (e0 : T0.heap = h0) (O0 : Old Z n0 h0) (N0 : Fr n0 locs) (rc : cells + 1 ≤ R.cells) (rs : slots + 3 ≤ R.slots) (rf : 0 ≤ R.frames) (rl : 0 ≤ R.locals) :
    ∃ (T' : State) (h' : Heap) (L' : List Loc) (b11 : Addr) (k11 : ClassId), Stand p l e R s m args below meth c T' L' (cells + 1) (slots + 3) ∧ T'.heap = h' ∧ Fr n0 L' ∧ Keep h0 h' [] ∧ h0.size ≤ b11 ∧ Arv Z h' b11 k11 .byte (3 : Int32) [(.int (nar .byte p7)), (.int (nar .byte p8)), (.int (nar .byte p9))] (.int (0 : Int32)) ∧ Exa Z h' b11 "[B" ∧
      ∀ target, St p e below T' m 145 #[iv p1, iv p2, iv p3, iv p4, iv p5, rv a6, iv (3 : Int32), iv p7, iv p8, iv p9, iv p10, rv b11, .unset, .unset, .unset] [] target → St p e below T0 m 69 #[iv p1, iv p2, iv p3, iv p4, iv p5, rv a6, iv (3 : Int32), iv p7, iv p8, iv p9, iv p10, .unset, .unset, .unset, .unset] [] target := by
  obtain ⟨T11, h11, k11, X11, e11, E11, A11, C11, st11⟩ := newPE X0 hx hZ (ow hw 4 rfl) e0 (g := (mkF m 126 #[iv p1, iv p2, iv p3, iv p4, iv p5, rv a6, iv (3 : Int32), iv p7, iv p8, iv p9, iv p10, .unset, .unset, .unset, .unset] [(.int (3 : Int32))])) rfl (hb hby at_126) rfl (by decide) (cap := 3) (by decide) (by decide) (by omega) (by omega) (ad := "[B") (by decide)
  obtain ⟨b11, g11⟩ : ∃ z, z = h0.size := ⟨_, rfl⟩
  rw [← g11] at A11 C11 st11
  have O_E11 : Old Z n0 h11 := O0.ext E11
  have Kp_E11 : Keep h0 h11 [] := (Keep.refl h0 []).ext E11
  have V11 : Arv Z h11 b11 k11 .byte (3 : Int32) [(.int (0 : Int32)), (.int (0 : Int32)), (.int (0 : Int32))] (.int (0 : Int32)) := (Arv.new A11 (by decide)).pad (pad_rep [] (.int (0 : Int32)) 3)
  obtain ⟨cl12, Ar12, q12, S12, M12, H12, G12⟩ := id V11
  have hin12 : ¬ ((0 : Int32) < 0 ∨ cl12.slots.size ≤ ((0 : Int32)).toNatClampNeg) := inb_of S12 ⟨by decide, by decide⟩
  obtain ⟨T12, h12, X12, e12, W12, st12⟩ := stB X11 hx hZ e11 Ar12 (j := (0 : Int32)) hin12 (g := (mkF m 132 #[iv p1, iv p2, iv p3, iv p4, iv p5, rv a6, iv (3 : Int32), iv p7, iv p8, iv p9, iv p10, .unset, .unset, .unset, .unset] [(.int p7), (.int (0 : Int32)), (.ref b11), (.ref b11)])) rfl rfl (hb hby at_132)
  have g14 : n0 ≤ b11 := Nat.le_trans (Nat.le_trans (Nat.le_of_eq O0.1.symm) O0.2.1) (Nat.le_of_eq g11.symm)
  have z15 : h0.size ≤ b11 := Nat.le_trans (Keep.refl h0 []).1 (Nat.le_of_eq g11.symm)
  have O_W12 : Old Z n0 h12 := O_E11.wr W12 g14
  have Kp_W12 : Keep h0 h12 [] := Kp_E11.wr W12 (Or.inr z15)
  have N16 := Fr.snoc X12 N0 g14
  have f13 : Arv Z h12 b11 k11 .byte (3 : Int32) [(.int (nar .byte p7)), (.int (0 : Int32)), (.int (0 : Int32))] (.int (0 : Int32)) := Arv.set Ar12 q12 S12 M12 H12 G12 (fits_nar_byte _) W12 0 rfl (Nat.le_of_ble_eq_true rfl)
  obtain ⟨cl17, Ar17, q17, S17, M17, H17, G17⟩ := id f13
  have hin17 : ¬ ((1 : Int32) < 0 ∨ cl17.slots.size ≤ ((1 : Int32)).toNatClampNeg) := inb_of S17 ⟨by decide, by decide⟩
  obtain ⟨T17, h17, X17, e17, W17, st17⟩ := stB X12 hx hZ e12 Ar17 (j := (1 : Int32)) hin17 (g := (mkF m 137 #[iv p1, iv p2, iv p3, iv p4, iv p5, rv a6, iv (3 : Int32), iv p7, iv p8, iv p9, iv p10, .unset, .unset, .unset, .unset] [(.int p8), (.int (1 : Int32)), (.ref b11), (.ref b11)])) rfl rfl (hb hby at_137)
  have O_W17 : Old Z n0 h17 := O_W12.wr W17 g14
  have Kp_W17 : Keep h0 h17 [] := Kp_W12.wr W17 (Or.inr z15)
  have N19 := Fr.snoc X17 N16 g14
  have f18 : Arv Z h17 b11 k11 .byte (3 : Int32) [(.int (nar .byte p7)), (.int (nar .byte p8)), (.int (0 : Int32))] (.int (0 : Int32)) := Arv.set Ar17 q17 S17 M17 H17 G17 (fits_nar_byte _) W17 1 rfl (Nat.le_of_ble_eq_true rfl)
  obtain ⟨cl20, Ar20, q20, S20, M20, H20, G20⟩ := id f18
  have hin20 : ¬ ((2 : Int32) < 0 ∨ cl20.slots.size ≤ ((2 : Int32)).toNatClampNeg) := inb_of S20 ⟨by decide, by decide⟩
  obtain ⟨T20, h20, X20, e20, W20, st20⟩ := stB X17 hx hZ e17 Ar20 (j := (2 : Int32)) hin20 (g := (mkF m 142 #[iv p1, iv p2, iv p3, iv p4, iv p5, rv a6, iv (3 : Int32), iv p7, iv p8, iv p9, iv p10, .unset, .unset, .unset, .unset] [(.int p9), (.int (2 : Int32)), (.ref b11), (.ref b11)])) rfl rfl (hb hby at_142)
  have O_W20 : Old Z n0 h20 := O_W17.wr W20 g14
  have Kp_W20 : Keep h0 h20 [] := Kp_W17.wr W20 (Or.inr z15)
  have N22 := Fr.snoc X20 N19 g14
  have f21 : Arv Z h20 b11 k11 .byte (3 : Int32) [(.int (nar .byte p7)), (.int (nar .byte p8)), (.int (nar .byte p9))] (.int (0 : Int32)) := Arv.set Ar20 q20 S20 M20 H20 G20 (fits_nar_byte _) W20 2 rfl (Nat.le_of_ble_eq_true rfl)
  have f23 := (((C11.wr W12).wr W17).wr W20)
  refine ⟨T20, _, _, b11, k11, X20.more (by omega) (by omega), e20, N22, Kp_W20, z15, f21, f23, fun target kt => ?_⟩
  show St p e below T0 m 69 #[iv p1, iv p2, iv p3, iv p4, iv p5, rv a6, iv (3 : Int32), iv p7, iv p8, iv p9, iv p10, .unset, .unset, .unset, .unset] [] _
  refine XS.iload X0.here hx rfl (hb hby at_69) rfl ?_
  show St p e below T0 m 71 #[iv p1, iv p2, iv p3, iv p4, iv p5, rv a6, iv (3 : Int32), iv p7, iv p8, iv p9, iv p10, .unset, .unset, .unset, .unset] [(.int (3 : Int32))] _
  refine XS.ifYes X0.here hx rfl (pc0 := 71) (pc' := 82) rfl (hb hby at_71) rfl ((if0 _ _).trans (feq (by decide : ¬ ((3 : Int32) = (0 : Int32)))).2) (by decide) (by decide) ?_
  show St p e below T0 m 82 #[iv p1, iv p2, iv p3, iv p4, iv p5, rv a6, iv (3 : Int32), iv p7, iv p8, iv p9, iv p10, .unset, .unset, .unset, .unset] [] _
  refine XS.iload X0.here hx rfl (hb hby at_82) rfl ?_
  show St p e below T0 m 84 #[iv p1, iv p2, iv p3, iv p4, iv p5, rv a6, iv (3 : Int32), iv p7, iv p8, iv p9, iv p10, .unset, .unset, .unset, .unset] [(.int (3 : Int32))] _
  refine XS.iconst X0.here hx rfl (hb hby at_84) ?_
  show St p e below T0 m 85 #[iv p1, iv p2, iv p3, iv p4, iv p5, rv a6, iv (3 : Int32), iv p7, iv p8, iv p9, iv p10, .unset, .unset, .unset, .unset] [(.int (1 : Int32)), (.int (3 : Int32))] _
  refine XS.icmpYes X0.here hx rfl (pc0 := 85) (pc' := 101) rfl (hb hby at_85) rfl (feq (by decide : ¬ ((3 : Int32) = (1 : Int32)))).2 (by decide) (by decide) ?_
  show St p e below T0 m 101 #[iv p1, iv p2, iv p3, iv p4, iv p5, rv a6, iv (3 : Int32), iv p7, iv p8, iv p9, iv p10, .unset, .unset, .unset, .unset] [] _
  refine XS.iload X0.here hx rfl (hb hby at_101) rfl ?_
  show St p e below T0 m 103 #[iv p1, iv p2, iv p3, iv p4, iv p5, rv a6, iv (3 : Int32), iv p7, iv p8, iv p9, iv p10, .unset, .unset, .unset, .unset] [(.int (3 : Int32))] _
  refine XS.iconst X0.here hx rfl (hb hby at_103) ?_
  show St p e below T0 m 104 #[iv p1, iv p2, iv p3, iv p4, iv p5, rv a6, iv (3 : Int32), iv p7, iv p8, iv p9, iv p10, .unset, .unset, .unset, .unset] [(.int (2 : Int32)), (.int (3 : Int32))] _
  refine XS.icmpYes X0.here hx rfl (pc0 := 104) (pc' := 125) rfl (hb hby at_104) rfl (feq (by decide : ¬ ((3 : Int32) = (2 : Int32)))).2 (by decide) (by decide) ?_
  show St p e below T0 m 125 #[iv p1, iv p2, iv p3, iv p4, iv p5, rv a6, iv (3 : Int32), iv p7, iv p8, iv p9, iv p10, .unset, .unset, .unset, .unset] [] _
  refine XS.iconst X0.here hx rfl (hb hby at_125) ?_
  show St p e below T0 m 126 #[iv p1, iv p2, iv p3, iv p4, iv p5, rv a6, iv (3 : Int32), iv p7, iv p8, iv p9, iv p10, .unset, .unset, .unset, .unset] [(.int (3 : Int32))] _
  refine st11 _ ?_
  show St p e below T11 m 128 #[iv p1, iv p2, iv p3, iv p4, iv p5, rv a6, iv (3 : Int32), iv p7, iv p8, iv p9, iv p10, .unset, .unset, .unset, .unset] [(.ref b11)] _
  refine XS.dup X11.here hx rfl (hb hby at_128) rfl rfl ?_
  show St p e below T11 m 129 #[iv p1, iv p2, iv p3, iv p4, iv p5, rv a6, iv (3 : Int32), iv p7, iv p8, iv p9, iv p10, .unset, .unset, .unset, .unset] [(.ref b11), (.ref b11)] _
  refine XS.iconst X11.here hx rfl (hb hby at_129) ?_
  show St p e below T11 m 130 #[iv p1, iv p2, iv p3, iv p4, iv p5, rv a6, iv (3 : Int32), iv p7, iv p8, iv p9, iv p10, .unset, .unset, .unset, .unset] [(.int (0 : Int32)), (.ref b11), (.ref b11)] _
  refine XS.iload X11.here hx rfl (hb hby at_130) rfl ?_
  show St p e below T11 m 132 #[iv p1, iv p2, iv p3, iv p4, iv p5, rv a6, iv (3 : Int32), iv p7, iv p8, iv p9, iv p10, .unset, .unset, .unset, .unset] [(.int p7), (.int (0 : Int32)), (.ref b11), (.ref b11)] _
  refine st12 _ ?_
  show St p e below T12 m 133 #[iv p1, iv p2, iv p3, iv p4, iv p5, rv a6, iv (3 : Int32), iv p7, iv p8, iv p9, iv p10, .unset, .unset, .unset, .unset] [(.ref b11)] _
  refine XS.dup X12.here hx rfl (hb hby at_133) rfl rfl ?_
  show St p e below T12 m 134 #[iv p1, iv p2, iv p3, iv p4, iv p5, rv a6, iv (3 : Int32), iv p7, iv p8, iv p9, iv p10, .unset, .unset, .unset, .unset] [(.ref b11), (.ref b11)] _
  refine XS.iconst X12.here hx rfl (hb hby at_134) ?_
  show St p e below T12 m 135 #[iv p1, iv p2, iv p3, iv p4, iv p5, rv a6, iv (3 : Int32), iv p7, iv p8, iv p9, iv p10, .unset, .unset, .unset, .unset] [(.int (1 : Int32)), (.ref b11), (.ref b11)] _
  refine XS.iload X12.here hx rfl (hb hby at_135) rfl ?_
  show St p e below T12 m 137 #[iv p1, iv p2, iv p3, iv p4, iv p5, rv a6, iv (3 : Int32), iv p7, iv p8, iv p9, iv p10, .unset, .unset, .unset, .unset] [(.int p8), (.int (1 : Int32)), (.ref b11), (.ref b11)] _
  refine st17 _ ?_
  show St p e below T17 m 138 #[iv p1, iv p2, iv p3, iv p4, iv p5, rv a6, iv (3 : Int32), iv p7, iv p8, iv p9, iv p10, .unset, .unset, .unset, .unset] [(.ref b11)] _
  refine XS.dup X17.here hx rfl (hb hby at_138) rfl rfl ?_
  show St p e below T17 m 139 #[iv p1, iv p2, iv p3, iv p4, iv p5, rv a6, iv (3 : Int32), iv p7, iv p8, iv p9, iv p10, .unset, .unset, .unset, .unset] [(.ref b11), (.ref b11)] _
  refine XS.iconst X17.here hx rfl (hb hby at_139) ?_
  show St p e below T17 m 140 #[iv p1, iv p2, iv p3, iv p4, iv p5, rv a6, iv (3 : Int32), iv p7, iv p8, iv p9, iv p10, .unset, .unset, .unset, .unset] [(.int (2 : Int32)), (.ref b11), (.ref b11)] _
  refine XS.iload X17.here hx rfl (hb hby at_140) rfl ?_
  show St p e below T17 m 142 #[iv p1, iv p2, iv p3, iv p4, iv p5, rv a6, iv (3 : Int32), iv p7, iv p8, iv p9, iv p10, .unset, .unset, .unset, .unset] [(.int p9), (.int (2 : Int32)), (.ref b11), (.ref b11)] _
  refine st20 _ ?_
  show St p e below T20 m 143 #[iv p1, iv p2, iv p3, iv p4, iv p5, rv a6, iv (3 : Int32), iv p7, iv p8, iv p9, iv p10, .unset, .unset, .unset, .unset] [(.ref b11)] _
  refine XS.astore X20.here hx rfl (hb hby at_143) rfl rfl (l' := #[iv p1, iv p2, iv p3, iv p4, iv p5, rv a6, iv (3 : Int32), iv p7, iv p8, iv p9, iv p10, rv b11, .unset, .unset, .unset]) rfl ?_
  exact kt
def r1_4Q (Z : State) (a1 : Addr) (a2 : Addr) (k13 : ClassId) (p14 : Int32) (p15 : Int32) (p16 : Int32) (h0 : Heap) (n0 : Nat) (v : Option Value) (h : Heap) (L : List Loc) : Prop := ∃ (b3 : Addr) (b19 : Addr), v = some (.ref b3) ∧ Fr n0 L ∧ Keep h0 h [] ∧ h0.size ≤ b3 ∧ h0.size ≤ b19 ∧ b3 ≠ b19 ∧ Exa Z h b3 "com/example/nervous_key/nervouskey/Outcome" ∧ Fld Z h b3 "com/example/nervous_key/nervouskey/Outcome" "kind" "Lcom/example/nervous_key/nervouskey/Outcome$Kind;" (.ref a1) ∧ Fld Z h b3 "com/example/nervous_key/nervouskey/Outcome" "result" "[B" (.ref b19) ∧ Arv Z h b19 k13 .byte (3 : Int32) [(.int p14), (.int p15), (.int p16)] (.int (0 : Int32)) ∧ Exa Z h b19 "[B"
theorem r1_4e (m : MethodId) (a1 : Addr) (a2 : Addr) (k13 : ClassId) (p14 : Int32) (p15 : Int32) (p16 : Int32) : entryFrame m #[(.ref a1), (.ref a2)] 2 = mkF m 0 #[rv a1, rv a2] [] := by first | (simp [entryFrame, mkF, argsToLocals, Value.category]; done) | rfl
set_option maxRecDepth 65536 in
set_option maxHeartbeats 40000000 in
theorem r1_4 (l : Launch) (Z : State) (a0 : Array Value) (hw : HW a0 Z) (ws : List Jvm.Cond) (a1 : Addr) (a2 : Addr) (k13 : ClassId) (p14 : Int32) (p15 : Int32) (p16 : Int32) (h0 : Heap) (n0 : Nat) (O0 : Old Z n0 h0) (H7 : Exa Z Z.heap a1 "com/example/nervous_key/nervouskey/Outcome$Kind") (H11 : Exa Z h0 a2 "[B") (H17 : Arv Z h0 a2 k13 .byte (3 : Int32) [(.int p14), (.int p15), (.int p16)] (.int (0 : Int32))) :
    MFS l y1 prog_7_method_5_code 2 (some (.object "com/example/nervous_key/nervouskey/Outcome")) ws ({ frames := 2, cells := 6, slots := 53, locals := 27 } : Room) Z #[(.ref a1), (.ref a2)] h0 (r1_4Q Z a1 a2 k13 p14 p15 p16 h0 n0) := by
  refine MetFree.of_bodySF (plainFor_of_name pn_com_example_nervous_key_nervouskey_Outcome) hisR ?_
  intro p e s m args below meth c s₁ Bd hml0 hP hK
  obtain ⟨rfl, hZ, hh⟩ := hP
  have hx := Bd.exec
  have hby := Bd.bytes
  have hml : c.maxLocals = 2 := hml0
  have hown : s.vm.findClass "com/example/nervous_key/nervouskey/Outcome" = some m.cls := findClass_of_methodNamed Bd.named
  have hnm := (name_of_methodNamed Bd.named Bd.method).1
  have X0 : Stand p l e ({ frames := 2, cells := 6, slots := 53, locals := 27 } : Room) s m #[(.ref a1), (.ref a2)] below meth c s₁ [] 0 0 := Stand.of_body Bd
  have e0 : s₁.heap = h0 := by rw [← hh, Bd.state]; rfl
  have N0 := Fr.nil n0
  have pre0 : ∀ t, Steps p.tables e below (s₁.setTop (mkF m 0 #[rv a1, rv a2] [])) t → Steps p.tables e below (s₁.setTop (entryFrame m #[(.ref a1), (.ref a2)] 2)) t := fun t k => castTop (r1_4e m a1 a2 k13 p14 p15 p16) k
  obtain ⟨T3, h3, X3, e3, E3, A3, D3, -, st3⟩ := newO X0 hx hZ hown (ow hw 9 rfl) (ow hw 10 rfl) (ow hw 7 rfl) e0 (g := (mkF m 0 #[rv a1, rv a2] [])) rfl (hb hby d1_0) (by decide) (by decide)
  obtain ⟨b3, g3⟩ : ∃ z, z = h0.size := ⟨_, rfl⟩
  rw [← g3] at A3 D3 st3
  have O_E3 : Old Z n0 h3 := O0.ext E3
  have Kp_E3 : Keep h0 h3 [] := (Keep.refl h0 []).ext E3
  obtain ⟨a4, T4, h4, kk4, X4, e4, E4, hS4, hk4, hZ4, hown4, st4⟩ := ldcS (s := s) (vm0 := s.vm) X3 hx hZ (own := "com/example/nervous_key/nervouskey/Outcome") hown (ow hw 11 rfl) (fun d hd => hw d (strW d hd)) e3 (State.WarmedH.since (State.WarmedH.refl s) 0) (Nat.zero_le _) (g := (mkF m 5 #[rv a1, rv a2] [(.ref a1), (.ref b3), (.ref b3)])) rfl (hb hby d1_5) (n := 16) (by decide) (by decide) (by decide) (by decide)
  have O_E4 : Old Z n0 h4 := O_E3.ext E4
  have Kp_E4 : Keep h0 h4 [] := Kp_E3.ext E4
  obtain ⟨_, _, ⟨T5, L5, k5, n5⟩, -, X5, ⟨Lc5, hQ5, l5, y5, z5⟩, st5⟩ := Jvm.LawKit.callS X4 hx (y := y2) hown4 (mvT hZ4 (ow hw 18 rfl)) (mvT hZ4 (ow hw 19 rfl)) (mvT hZ4 (ow hw 20 rfl)) (mvT hZ4 (ow hw 21 rfl)) (by decide) (backOf (W := 2) (r2_1 l Z a0 hw [] a1 a4 h4 n0 O_E4) hZ4 (ow hw 21 rfl) (ow hw 20 rfl) (by decide) (by decide)) (g := (mkF m 7 #[rv a1, rv a2] [(.ref a4), (.ref a1), (.ref b3), (.ref b3)])) rfl (by rw [hml]; rfl) (argsL := [(.ref a1), (.ref a4)]) (rest := [(.ref b3), (.ref b3)]) (lenOf pd__Ljava_lang_Object_Ljava_lang_String__Ljava_lang_Object_ rfl) rfl (by show 2 * 0 + _ ≤ _; exact Nat.le_of_eq rfl) (hb hby d1_7) (fun _ _ => ⟨rfl, e4, (by decide : 3 + 0 ≤ _), (by decide : 22 + 0 ≤ _)⟩)
  dsimp only [Pt.U, Pt.locs, Pt.cells, Pt.slots] at X5 l5 y5 z5 st5 hQ5
  subst l5 y5 z5
  obtain ⟨rfl, N5q, e5⟩ := hQ5
  have N5 := Fr.app N0 N5q
  obtain ⟨T6, X6, e6, st6⟩ := castY X5 hx hZ4 hown4 (ow hw 22 rfl) e5 (Ins.self (H7.ext O_E4.2)) (g := (mkF m 10 #[rv a1, rv a2] [(.ref a1), (.ref b3), (.ref b3)])) rfl rfl (hb hby d1_10)
  obtain ⟨a8, T8, h8, kk8, X8, e8, E8, hS8, hk8, hZ8, hown8, st8⟩ := ldcS (s := s) (vm0 := T4.vm) X6 hx hZ4 (own := "com/example/nervous_key/nervouskey/Outcome") hown4 (ow hw 24 rfl) (fun d hd => hw d (strW d hd)) e6 hS4 hk4 (g := (mkF m 14 #[rv a1, rv a2] [(.ref a2), (.ref a1), (.ref b3), (.ref b3)])) rfl (hb hby d1_14) (n := 24) (by decide) (by decide) (by decide) (by decide)
  have O_E8 : Old Z n0 h8 := O_E4.ext E8
  have Kp_E8 : Keep h0 h8 [] := Kp_E4.ext E8
  obtain ⟨_, _, ⟨T9, L9, k9, n9⟩, -, X9, ⟨Lc9, hQ9, l9, y9, z9⟩, st9⟩ := Jvm.LawKit.callS X8 hx (y := y2) hown8 (mvT hZ8 (ow hw 18 rfl)) (mvT hZ8 (ow hw 19 rfl)) (mvT hZ8 (ow hw 20 rfl)) (mvT hZ8 (ow hw 21 rfl)) (by decide) (backOf (W := 3) (r2_1 l Z a0 hw [] a2 a8 h8 n0 O_E8) hZ8 (ow hw 21 rfl) (ow hw 20 rfl) (by decide) (by decide)) (g := (mkF m 16 #[rv a1, rv a2] [(.ref a8), (.ref a2), (.ref a1), (.ref b3), (.ref b3)])) rfl (by rw [hml]; rfl) (argsL := [(.ref a2), (.ref a8)]) (rest := [(.ref a1), (.ref b3), (.ref b3)]) (lenOf pd__Ljava_lang_Object_Ljava_lang_String__Ljava_lang_Object_ rfl) rfl (by show 2 * 0 + _ ≤ _; exact Nat.le_of_eq rfl) (hb hby d1_16) (fun _ _ => ⟨rfl, e8, (by decide : 5 + 0 ≤ _), (by decide : 50 + 0 ≤ _)⟩)
  dsimp only [Pt.U, Pt.locs, Pt.cells, Pt.slots] at X9 l9 y9 z9 st9 hQ9
  subst l9 y9 z9
  obtain ⟨rfl, N9q, e9⟩ := hQ9
  have N9 := Fr.app N5 N9q
  have f12 := (((H11.ext E3).ext E4).ext E8)
  obtain ⟨T10, X10, e10, st10⟩ := castY X9 hx hZ8 hown8 (ow hw 25 rfl) e9 (Ins.self f12) (g := (mkF m 19 #[rv a1, rv a2] [(.ref a2), (.ref a1), (.ref b3), (.ref b3)])) rfl rfl (hb hby d1_19)
  have f18 := (((H17.ext E3).ext E4).ext E8)
  obtain ⟨T19, h19, X19, e19, E19, A19, C19, st19⟩ := cloneH X10 hx hZ8 hown8 (ow hw 27 rfl) (ow hw 28 rfl) (ow hw 32 rfl) (ow hw 30 rfl) (ow hw 31 rfl) (ow hw 33 rfl) e10 (Arv.arh f18) f12 (g := (mkF m 22 #[rv a1, rv a2] [(.ref a2), (.ref a1), (.ref b3), (.ref b3)])) rfl (by rw [hml]; rfl) rfl (hb hby d1_22) (by decide) (W := 3) (cap := 3) (by show 2 * 0 + _ ≤ _; exact Nat.le_of_eq rfl) (by decide) (by decide) (by decide) (by decide)
  obtain ⟨b19, g19⟩ : ∃ z, z = h8.size := ⟨_, rfl⟩
  rw [← g19] at A19 C19 st19
  have O_E19 : Old Z n0 h19 := O_E8.ext E19
  have Kp_E19 : Keep h0 h19 [] := Kp_E8.ext E19
  have V19 : Arv Z h19 b19 k13 .byte (3 : Int32) [(.int p14), (.int p15), (.int p16)] (.int (0 : Int32)) := A19
  obtain ⟨T20, X20, e20, st20⟩ := castY X19 hx hZ8 hown8 (ow hw 25 rfl) e19 (Ins.self C19) (g := (mkF m 25 #[rv a1, rv a2] [(.ref b19), (.ref a1), (.ref b3), (.ref b3)])) rfl rfl (hb hby d1_25)
  have f21 : Fld Z h3 b3 "com/example/nervous_key/nervouskey/Outcome" "kind" "Lcom/example/nervous_key/nervouskey/Outcome$Kind;" .null := D3 (Or.inr (ow hw 41 rfl)) (ty := (.object "com/example/nervous_key/nervouskey/Outcome$Kind")) (by decide)
  have f22 := (((f21.ext E4).ext E8).ext E19)
  have f23 := (((A3.ext E4).ext E8).ext E19)
  have g24 : n0 ≤ b3 := Nat.le_trans (Nat.le_trans (Nat.le_of_eq O0.1.symm) O0.2.1) (Nat.le_of_eq g3.symm)
  have f25 : Fld Z h3 b3 "com/example/nervous_key/nervouskey/Outcome" "result" "[B" .null := D3 (Or.inr (ow hw 43 rfl)) (ty := (.array .byte)) (by decide)
  have f26 := (((f25.ext E4).ext E8).ext E19)
  obtain ⟨_, _, ⟨T27, L27, k27, n27⟩, -, X27, ⟨Lc27, hQ27, l27, y27, z27⟩, st27⟩ := X20.specialBack hx (y := y3) rfl hown8 (mvT hZ8 (ow hw 34 rfl)) (mvT hZ8 (ow hw 35 rfl)) (mvT hZ8 (ow hw 36 rfl)) (by decide) (backOf (W := 1) (r3_1 l Z a0 hw [] b3 a1 b19 h19 n0 O_E19 f22 f23 g24 f26) hZ8 (ow hw 36 rfl) (ow hw 7 rfl) (by decide) (by decide)) (g := (mkF m 28 #[rv a1, rv a2] [(.ref b19), (.ref a1), (.ref b3), (.ref b3)])) rfl (by rw [hml]; rfl) (Steps.refl _) (a := b3) (argsL := [(.ref a1), (.ref b19)]) (rest := [(.ref b3)]) (lenOf pd__Lcom_example_nervous_key_nervouskey_Outcome_Kind__B_V rfl) rfl (by show 2 * 0 + _ ≤ _; exact Nat.le_of_eq rfl) (hb hby d1_28) (fun _ _ => ⟨rfl, e20, (by decide : 6 + 0 ≤ _), (by decide : 53 + 0 ≤ _)⟩)
  dsimp only [Pt.U, Pt.locs, Pt.cells, Pt.slots] at X27 l27 y27 z27 st27 hQ27
  subst l27 y27 z27
  obtain ⟨rfl, N27q, K27, f27_1, f27_2, f27_3⟩ := hQ27
  have N27 := Fr.app N9 N27q
  have z28 : h0.size ≤ b3 := Nat.le_trans (Keep.refl h0 []).1 (Nat.le_of_eq g3.symm)
  have O_K27 : Old Z n0 T27.heap := O_E19.keep K27 (allS g24 all0)
  have Kp_K27 : Keep h0 T27.heap [] := Kp_E19.trans K27 (allS (Or.inr z28) all0)
  have z29 : h0.size ≤ b19 := Nat.le_trans Kp_E8.1 (Nat.le_of_eq g19.symm)
  have ne30 : b3 ≠ b19 := Nat.ne_of_lt (Nat.lt_of_lt_of_le ((A3.ext E4).ext E8).lt (Nat.le_of_eq g19.symm))
  have f31 := (V19.keep K27 (ninS (Ne.symm ne30) nin0))
  have f32 := (C19.keep K27)
  obtain ⟨fs, hr, hrun, hended, hE⟩ := Stand.leaveW (s := s) (vm₁ := T8.vm) X27 hS8 (Nat.le_trans (Nat.le_trans hk8 E19.1) K27.1) (v := some (.ref b3)) (fun h => by rw [Bd.returns] at h; cases h)
  refine ⟨_, _, pre0 _ ?_, hrun, hended, _, _, rfl, ?_, hE.1, hE.2.1, hE.2.2.1, hE.2.2.2.mono (by decide) (by decide)⟩
  · show St p e below s₁ m 0 #[rv a1, rv a2] [] _
    refine st3 _ ?_
    show St p e below T3 m 3 #[rv a1, rv a2] [(.ref b3)] _
    refine XS.dup X3.here hx rfl (hb hby d1_3) rfl rfl ?_
    show St p e below T3 m 4 #[rv a1, rv a2] [(.ref b3), (.ref b3)] _
    refine XS.aloadN X3.here hx rfl (hb hby d1_4) rfl rfl ?_
    show St p e below T3 m 5 #[rv a1, rv a2] [(.ref a1), (.ref b3), (.ref b3)] _
    refine st4 _ ?_
    show St p e below T4 m 7 #[rv a1, rv a2] [(.ref a4), (.ref a1), (.ref b3), (.ref b3)] _
    refine st5 _ ?_
    show St p e below T5 m 10 #[rv a1, rv a2] [(.ref a1), (.ref b3), (.ref b3)] _
    refine st6 _ ?_
    show St p e below T6 m 13 #[rv a1, rv a2] [(.ref a1), (.ref b3), (.ref b3)] _
    refine XS.aloadN X6.here hx rfl (hb hby d1_13) rfl rfl ?_
    show St p e below T6 m 14 #[rv a1, rv a2] [(.ref a2), (.ref a1), (.ref b3), (.ref b3)] _
    refine st8 _ ?_
    show St p e below T8 m 16 #[rv a1, rv a2] [(.ref a8), (.ref a2), (.ref a1), (.ref b3), (.ref b3)] _
    refine st9 _ ?_
    show St p e below T9 m 19 #[rv a1, rv a2] [(.ref a2), (.ref a1), (.ref b3), (.ref b3)] _
    refine st10 _ ?_
    show St p e below T10 m 22 #[rv a1, rv a2] [(.ref a2), (.ref a1), (.ref b3), (.ref b3)] _
    refine st19 _ ?_
    show St p e below T19 m 25 #[rv a1, rv a2] [(.ref b19), (.ref a1), (.ref b3), (.ref b3)] _
    refine st20 _ ?_
    show St p e below T20 m 28 #[rv a1, rv a2] [(.ref b19), (.ref a1), (.ref b3), (.ref b3)] _
    refine st27.trans ?_
    show St p e below T27 m 31 #[rv a1, rv a2] [(.ref b3)] _
    jvm_step X27.here [X27.here.top, hx, (hb hby d1_31), X27.method', Bd.returns, Value.isRef, FieldType.isReference]
    first | (intro acts; rw [hr _ acts rfl rfl rfl]) | rw [hr _ _ rfl rfl rfl]
    exact Steps.refl _
  · show r1_4Q Z a1 a2 k13 p14 p15 p16 h0 n0 _ T27.heap _
    exact ⟨b3, b19, rfl, N27, Kp_K27, z28, z29, ne30, f27_2, f27_1, f27_3, f31, f32⟩
def r5_4Q (Z : State) (a1 : Addr) (a2 : Addr) (k5 : ClassId) (p6 : Int32) (p7 : Int32) (p8 : Int32) (h0 : Heap) (n0 : Nat) (v : Option Value) (h : Heap) (L : List Loc) : Prop := ∃ (b11 : Addr), v = some (.ref b11) ∧ Fr n0 L ∧ Keep h0 h [] ∧ h0.size ≤ b11 ∧ Arv Z h b11 k5 .byte (3 : Int32) [(.int p6), (.int p7), (.int p8)] (.int (0 : Int32)) ∧ Exa Z h b11 "[B"
theorem r5_4e (m : MethodId) (a1 : Addr) (a2 : Addr) (k5 : ClassId) (p6 : Int32) (p7 : Int32) (p8 : Int32) : entryFrame m #[(.ref a1)] 1 = mkF m 0 #[rv a1] [] := by first | (simp [entryFrame, mkF, argsToLocals, Value.category]; done) | rfl
set_option maxRecDepth 65536 in
set_option maxHeartbeats 40000000 in
theorem r5_4 (l : Launch) (Z : State) (a0 : Array Value) (hw : HW a0 Z) (ws : List Jvm.Cond) (a1 : Addr) (a2 : Addr) (k5 : ClassId) (p6 : Int32) (p7 : Int32) (p8 : Int32) (h0 : Heap) (n0 : Nat) (O0 : Old Z n0 h0) (H3 : Fld Z h0 a1 "com/example/nervous_key/nervouskey/Outcome" "result" "[B" (.ref a2)) (H9 : Arv Z h0 a2 k5 .byte (3 : Int32) [(.int p6), (.int p7), (.int p8)] (.int (0 : Int32))) (H10 : Exa Z h0 a2 "[B") :
    MF l y5 prog_7_method_7_code 1 (some (.array .byte)) ws ({ frames := 1, cells := 1, slots := 3, locals := 14 } : Room) Z #[(.ref a1)] h0 (r5_4Q Z a1 a2 k5 p6 p7 p8 h0 n0) := by
  refine MetFree.of_bodySF (plainFor_of_name pn_com_example_nervous_key_nervouskey_Outcome) hisR ?_
  intro p e s m args below meth c s₁ Bd hml0 hP hK
  obtain ⟨rfl, hZ, hh⟩ := hP
  have hx := Bd.exec
  have hby := Bd.bytes
  have hml : c.maxLocals = 1 := hml0
  have hown : s.vm.findClass "com/example/nervous_key/nervouskey/Outcome" = some m.cls := findClass_of_methodNamed Bd.named
  have hnm := (name_of_methodNamed Bd.named Bd.method).1
  have X0 : Stand p l e ({ frames := 1, cells := 1, slots := 3, locals := 14 } : Room) s m #[(.ref a1)] below meth c s₁ [] 0 0 := Stand.of_body Bd
  have e0 : s₁.heap = h0 := by rw [← hh, Bd.state]; rfl
  have N0 := Fr.nil n0
  have pre0 : ∀ t, Steps p.tables e below (s₁.setTop (mkF m 0 #[rv a1] [])) t → Steps p.tables e below (s₁.setTop (entryFrame m #[(.ref a1)] 1)) t := fun t k => castTop (r5_4e m a1 a2 k5 p6 p7 p8) k
  obtain ⟨T4, X4, e4, st4⟩ := getF X0 hx hZ hown (host := "") (Or.inl (ow hw 42 rfl)) Via.refl e0 H3 (g := (mkF m 1 #[rv a1] [(.ref a1)])) rfl rfl (hb hby d5_1)
  obtain ⟨T11, h11, X11, e11, E11, A11, C11, st11⟩ := cloneH X4 hx hZ hown (ow hw 27 rfl) (ow hw 28 rfl) (ow hw 32 rfl) (ow hw 30 rfl) (ow hw 31 rfl) (ow hw 33 rfl) e4 (Arv.arh H9) H10 (g := (mkF m 4 #[rv a1] [(.ref a2)])) rfl (by rw [hml]; rfl) rfl (hb hby d5_4) (by decide) (W := 0) (cap := 3) (by show 2 * 0 + _ ≤ _; exact Nat.le_of_eq rfl) (by decide) (by decide) (by decide) (by decide)
  obtain ⟨b11, g11⟩ : ∃ z, z = h0.size := ⟨_, rfl⟩
  rw [← g11] at A11 C11 st11
  have O_E11 : Old Z n0 h11 := O0.ext E11
  have Kp_E11 : Keep h0 h11 [] := (Keep.refl h0 []).ext E11
  have V11 : Arv Z h11 b11 k5 .byte (3 : Int32) [(.int p6), (.int p7), (.int p8)] (.int (0 : Int32)) := A11
  obtain ⟨T12, X12, e12, st12⟩ := castY X11 hx hZ hown (ow hw 25 rfl) e11 (Ins.self C11) (g := (mkF m 7 #[rv a1] [(.ref b11)])) rfl rfl (hb hby d5_7)
  have z13 : h0.size ≤ b11 := Nat.le_trans (Keep.refl h0 []).1 (Nat.le_of_eq g11.symm)
  obtain ⟨fs, hr, hrun, hended, hW, hsame⟩ := X12.leave (v := some (.ref b11)) (fun h => by rw [Bd.returns] at h; cases h)
  refine ⟨_, _, pre0 _ ?_, hrun, hended, _, _, rfl, ?_, ⟨_, rfl⟩, hW, hsame.mono (by decide) (by decide)⟩
  · show St p e below s₁ m 0 #[rv a1] [] _
    refine XS.aloadN X0.here hx rfl (hb hby d5_0) rfl rfl ?_
    show St p e below s₁ m 1 #[rv a1] [(.ref a1)] _
    refine st4 _ ?_
    show St p e below T4 m 4 #[rv a1] [(.ref a2)] _
    refine st11 _ ?_
    show St p e below T11 m 7 #[rv a1] [(.ref b11)] _
    refine st12 _ ?_
    show St p e below T12 m 10 #[rv a1] [(.ref b11)] _
    jvm_step X12.here [X12.here.top, hx, (hb hby d5_10), X12.method', Bd.returns, Value.isRef, FieldType.isReference]
    first | (intro acts; rw [hr _ acts rfl rfl rfl]) | rw [hr _ _ rfl rfl rfl]
    exact Steps.refl _
  · show r5_4Q Z a1 a2 k5 p6 p7 p8 h0 n0 _ T12.heap _
    rw [e12]
    exact ⟨b11, rfl, N0, Kp_E11, z13, V11, C11⟩
theorem d6_47 : decode method_2_code 47 = .ok (.aload_n 0, 1) := by decide +kernel
theorem d6_48 : decode method_2_code 48 = .ok (.iconst 2, 1) := by decide +kernel
theorem d6_49 : decode method_2_code 49 = .ok (.baload, 1) := by decide +kernel
theorem d6_50 : decode method_2_code 50 = .ok (.iload 4, 2) := by decide +kernel
theorem d6_52 : decode method_2_code 52 = .ok (.if_icmp .eq 5, 3) := by decide +kernel
def r6_4Q (Z : State) (a1 : Addr) (p2 : Int32) (p3 : Int32) (p4 : Int32) (k5 : ClassId) (p6 : Int32) (p7 : Int32) (p8 : Int32) (h0 : Heap) (n0 : Nat) (v : Option Value) (h : Heap) (L : List Loc) : Prop := v = some (.int (1 : Int32)) ∧ Fr n0 L ∧ h = h0
theorem r6_4e (m : MethodId) (a1 : Addr) (p2 : Int32) (p3 : Int32) (p4 : Int32) (k5 : ClassId) (p6 : Int32) (p7 : Int32) (p8 : Int32) : entryFrame m #[(.ref a1), (.int (3 : Int32)), (.int p2), (.int p3), (.int p4)] 5 = mkF m 0 #[rv a1, iv (3 : Int32), iv p2, iv p3, iv p4] [] := by first | (simp [entryFrame, mkF, argsToLocals, Value.category]; done) | rfl
set_option maxRecDepth 65536 in
set_option maxHeartbeats 40000000 in
theorem r6_4 (l : Launch) (Z : State) (a0 : Array Value) (hw : HW a0 Z) (ws : List Jvm.Cond) (a1 : Addr) (p2 : Int32) (p3 : Int32) (p4 : Int32) (k5 : ClassId) (p6 : Int32) (p7 : Int32) (p8 : Int32) (h0 : Heap) (n0 : Nat) (O0 : Old Z n0 h0) (H9 : Arv Z h0 a1 k5 .byte (3 : Int32) [(.int p6), (.int p7), (.int p8)] (.int (0 : Int32))) (hc12 : p6 = p2) (hc14 : p7 = p3) (hc16 : p8 = p4) :
    MF l y6 method_2_code 5 (some .boolean) ws ({ frames := 0, cells := 0, slots := 0, locals := 0 } : Room) Z #[(.ref a1), (.int (3 : Int32)), (.int p2), (.int p3), (.int p4)] h0 (r6_4Q Z a1 p2 p3 p4 k5 p6 p7 p8 h0 n0) := by
  refine MetFree.of_bodySF (plainFor_of_name pn_com_example_nervous_key_nervouskey_OutcomeOfPinLaw) hisR ?_
  intro p e s m args below meth c s₁ Bd hml0 hP hK
  obtain ⟨rfl, hZ, hh⟩ := hP
  have hx := Bd.exec
  have hby := Bd.bytes
  have hml : c.maxLocals = 5 := hml0
  have hown : s.vm.findClass "com/example/nervous_key/nervouskey/OutcomeOfPinLaw" = some m.cls := findClass_of_methodNamed Bd.named
  have hnm := (name_of_methodNamed Bd.named Bd.method).1
  have X0 : Stand p l e ({ frames := 0, cells := 0, slots := 0, locals := 0 } : Room) s m #[(.ref a1), (.int (3 : Int32)), (.int p2), (.int p3), (.int p4)] below meth c s₁ [] 0 0 := Stand.of_body Bd
  have e0 : s₁.heap = h0 := by rw [← hh, Bd.state]; rfl
  have N0 := Fr.nil n0
  have pre0 : ∀ t, Steps p.tables e below (s₁.setTop (mkF m 0 #[rv a1, iv (3 : Int32), iv p2, iv p3, iv p4] [])) t → Steps p.tables e below (s₁.setTop (entryFrame m #[(.ref a1), (.int (3 : Int32)), (.int p2), (.int p3), (.int p4)] 5)) t := fun t k => castTop (r6_4e m a1 p2 p3 p4 k5 p6 p7 p8) k
  obtain ⟨cl10, Ar10, q10, S10, M10, H10, G10⟩ := id H9
  obtain ⟨cl11, Ar11, q11, S11, M11, H11, G11⟩ := id H9
  have hin11 : ¬ ((0 : Int32) < 0 ∨ cl11.slots.size ≤ ((0 : Int32)).toNatClampNeg) := inb_of S11 ⟨by decide, by decide⟩
  obtain ⟨cl13, Ar13, q13, S13, M13, H13, G13⟩ := id H9
  have hin13 : ¬ ((1 : Int32) < 0 ∨ cl13.slots.size ≤ ((1 : Int32)).toNatClampNeg) := inb_of S13 ⟨by decide, by decide⟩
  obtain ⟨cl15, Ar15, q15, S15, M15, H15, G15⟩ := id H9
  have hin15 : ¬ ((2 : Int32) < 0 ∨ cl15.slots.size ≤ ((2 : Int32)).toNatClampNeg) := inb_of S15 ⟨by decide, by decide⟩
  obtain ⟨fs, hr, hrun, hended, hW, hsame⟩ := X0.leave (v := some (.int (1 : Int32))) (fun h => by rw [Bd.returns] at h; cases h)
  refine ⟨_, _, pre0 _ ?_, hrun, hended, _, _, rfl, ?_, ⟨_, rfl⟩, hW, hsame.mono (by decide) (by decide)⟩
  · show St p e below s₁ m 0 #[rv a1, iv (3 : Int32), iv p2, iv p3, iv p4] [] _
    refine XS.aloadN X0.here hx rfl (hb hby d6_0) rfl rfl ?_
    show St p e below s₁ m 1 #[rv a1, iv (3 : Int32), iv p2, iv p3, iv p4] [(.ref a1)] _
    refine XS.ifnonnullYes X0.here hx rfl (pc0 := 1) (pc' := 6) rfl (hb hby d6_1) rfl (by decide) (by decide) ?_
    show St p e below s₁ m 6 #[rv a1, iv (3 : Int32), iv p2, iv p3, iv p4] [] _
    refine XS.aloadN X0.here hx rfl (hb hby d6_6) rfl rfl ?_
    show St p e below s₁ m 7 #[rv a1, iv (3 : Int32), iv p2, iv p3, iv p4] [(.ref a1)] _
    refine X0.arraylength hx (by rw [e0]; exact Ar10.1) (State.isArrayOf_alike hZ.alike Ar10.2.1) (g := (mkF m 7 #[rv a1, iv (3 : Int32), iv p2, iv p3, iv p4] [(.ref a1)])) rfl rfl (hb hby d6_7) _ ?_
    rw [len_of S10 M10]
    show St p e below s₁ m 8 #[rv a1, iv (3 : Int32), iv p2, iv p3, iv p4] [(.int (3 : Int32))] _
    refine XS.iloadN X0.here hx rfl (hb hby d6_8) rfl ?_
    show St p e below s₁ m 9 #[rv a1, iv (3 : Int32), iv p2, iv p3, iv p4] [(.int (3 : Int32)), (.int (3 : Int32))] _
    refine XS.icmpYes X0.here hx rfl (pc0 := 9) (pc' := 14) rfl (hb hby d6_9) rfl (teq (rfl : (3 : Int32) = (3 : Int32))).1 (by decide) (by decide) ?_
    show St p e below s₁ m 14 #[rv a1, iv (3 : Int32), iv p2, iv p3, iv p4] [] _
    refine XS.iloadN X0.here hx rfl (hb hby d6_14) rfl ?_
    show St p e below s₁ m 15 #[rv a1, iv (3 : Int32), iv p2, iv p3, iv p4] [(.int (3 : Int32))] _
    refine XS.iconst X0.here hx rfl (hb hby d6_15) ?_
    show St p e below s₁ m 16 #[rv a1, iv (3 : Int32), iv p2, iv p3, iv p4] [(.int (1 : Int32)), (.int (3 : Int32))] _
    refine XS.icmpNo X0.here hx rfl (hb hby d6_16) rfl (flt (by decide : ¬ ((3 : Int32) < (1 : Int32)))).1 ?_
    show St p e below s₁ m 19 #[rv a1, iv (3 : Int32), iv p2, iv p3, iv p4] [] _
    refine XS.aloadN X0.here hx rfl (hb hby d6_19) rfl rfl ?_
    show St p e below s₁ m 20 #[rv a1, iv (3 : Int32), iv p2, iv p3, iv p4] [(.ref a1)] _
    refine XS.iconst X0.here hx rfl (hb hby d6_20) ?_
    show St p e below s₁ m 21 #[rv a1, iv (3 : Int32), iv p2, iv p3, iv p4] [(.int (0 : Int32)), (.ref a1)] _
    refine X0.baloadBytes hx (j := (0 : Int32)) (v := (.int p6)) (by rw [e0]; exact Ar11.1) (State.isArrayOf_alike hZ.alike Ar11.2.1) Ar11.2.2 hin11 (Has.at H11 hin11 rfl) (g := (mkF m 21 #[rv a1, iv (3 : Int32), iv p2, iv p3, iv p4] [(.int (0 : Int32)), (.ref a1)])) rfl rfl (hb hby d6_21) _ ?_
    show St p e below s₁ m 22 #[rv a1, iv (3 : Int32), iv p2, iv p3, iv p4] [(.int p6)] _
    refine XS.iloadN X0.here hx rfl (hb hby d6_22) rfl ?_
    show St p e below s₁ m 23 #[rv a1, iv (3 : Int32), iv p2, iv p3, iv p4] [(.int p2), (.int p6)] _
    refine XS.icmpYes X0.here hx rfl (pc0 := 23) (pc' := 28) rfl (hb hby d6_23) rfl (teq hc12).1 (by decide) (by decide) ?_
    show St p e below s₁ m 28 #[rv a1, iv (3 : Int32), iv p2, iv p3, iv p4] [] _
    refine XS.iloadN X0.here hx rfl (hb hby d6_28) rfl ?_
    show St p e below s₁ m 29 #[rv a1, iv (3 : Int32), iv p2, iv p3, iv p4] [(.int (3 : Int32))] _
    refine XS.iconst X0.here hx rfl (hb hby d6_29) ?_
    show St p e below s₁ m 30 #[rv a1, iv (3 : Int32), iv p2, iv p3, iv p4] [(.int (2 : Int32)), (.int (3 : Int32))] _
    refine XS.icmpNo X0.here hx rfl (hb hby d6_30) rfl (flt (by decide : ¬ ((3 : Int32) < (2 : Int32)))).1 ?_
    show St p e below s₁ m 33 #[rv a1, iv (3 : Int32), iv p2, iv p3, iv p4] [] _
    refine XS.aloadN X0.here hx rfl (hb hby d6_33) rfl rfl ?_
    show St p e below s₁ m 34 #[rv a1, iv (3 : Int32), iv p2, iv p3, iv p4] [(.ref a1)] _
    refine XS.iconst X0.here hx rfl (hb hby d6_34) ?_
    show St p e below s₁ m 35 #[rv a1, iv (3 : Int32), iv p2, iv p3, iv p4] [(.int (1 : Int32)), (.ref a1)] _
    refine X0.baloadBytes hx (j := (1 : Int32)) (v := (.int p7)) (by rw [e0]; exact Ar13.1) (State.isArrayOf_alike hZ.alike Ar13.2.1) Ar13.2.2 hin13 (Has.at H13 hin13 rfl) (g := (mkF m 35 #[rv a1, iv (3 : Int32), iv p2, iv p3, iv p4] [(.int (1 : Int32)), (.ref a1)])) rfl rfl (hb hby d6_35) _ ?_
    show St p e below s₁ m 36 #[rv a1, iv (3 : Int32), iv p2, iv p3, iv p4] [(.int p7)] _
    refine XS.iloadN X0.here hx rfl (hb hby d6_36) rfl ?_
    show St p e below s₁ m 37 #[rv a1, iv (3 : Int32), iv p2, iv p3, iv p4] [(.int p3), (.int p7)] _
    refine XS.icmpYes X0.here hx rfl (pc0 := 37) (pc' := 42) rfl (hb hby d6_37) rfl (teq hc14).1 (by decide) (by decide) ?_
    show St p e below s₁ m 42 #[rv a1, iv (3 : Int32), iv p2, iv p3, iv p4] [] _
    refine XS.iloadN X0.here hx rfl (hb hby d6_42) rfl ?_
    show St p e below s₁ m 43 #[rv a1, iv (3 : Int32), iv p2, iv p3, iv p4] [(.int (3 : Int32))] _
    refine XS.iconst X0.here hx rfl (hb hby d6_43) ?_
    show St p e below s₁ m 44 #[rv a1, iv (3 : Int32), iv p2, iv p3, iv p4] [(.int (3 : Int32)), (.int (3 : Int32))] _
    refine XS.icmpNo X0.here hx rfl (hb hby d6_44) rfl (flt (by decide : ¬ ((3 : Int32) < (3 : Int32)))).1 ?_
    show St p e below s₁ m 47 #[rv a1, iv (3 : Int32), iv p2, iv p3, iv p4] [] _
    refine XS.aloadN X0.here hx rfl (hb hby d6_47) rfl rfl ?_
    show St p e below s₁ m 48 #[rv a1, iv (3 : Int32), iv p2, iv p3, iv p4] [(.ref a1)] _
    refine XS.iconst X0.here hx rfl (hb hby d6_48) ?_
    show St p e below s₁ m 49 #[rv a1, iv (3 : Int32), iv p2, iv p3, iv p4] [(.int (2 : Int32)), (.ref a1)] _
    refine X0.baloadBytes hx (j := (2 : Int32)) (v := (.int p8)) (by rw [e0]; exact Ar15.1) (State.isArrayOf_alike hZ.alike Ar15.2.1) Ar15.2.2 hin15 (Has.at H15 hin15 rfl) (g := (mkF m 49 #[rv a1, iv (3 : Int32), iv p2, iv p3, iv p4] [(.int (2 : Int32)), (.ref a1)])) rfl rfl (hb hby d6_49) _ ?_
    show St p e below s₁ m 50 #[rv a1, iv (3 : Int32), iv p2, iv p3, iv p4] [(.int p8)] _
    refine XS.iload X0.here hx rfl (hb hby d6_50) rfl ?_
    show St p e below s₁ m 52 #[rv a1, iv (3 : Int32), iv p2, iv p3, iv p4] [(.int p4), (.int p8)] _
    refine XS.icmpYes X0.here hx rfl (pc0 := 52) (pc' := 57) rfl (hb hby d6_52) rfl (teq hc16).1 (by decide) (by decide) ?_
    show St p e below s₁ m 57 #[rv a1, iv (3 : Int32), iv p2, iv p3, iv p4] [] _
    refine XS.iconst X0.here hx rfl (hb hby d6_57) ?_
    show St p e below s₁ m 58 #[rv a1, iv (3 : Int32), iv p2, iv p3, iv p4] [(.int (1 : Int32))] _
    exact retN X0 hx (t := .boolean) Bd.returns (by simp) (hb hby d6_58) hr
  · show r6_4Q Z a1 p2 p3 p4 k5 p6 p7 p8 h0 n0 _ s₁.heap _
    rw [e0]
    exact ⟨rfl, N0, rfl⟩
set_option maxRecDepth 65536 in
set_option maxHeartbeats 40000000 in
theorem g0_8 {p : Program} {l : Launch} {e : Env} {R : Room} {s : State} {m : MethodId} {args : Array Value} {below : List Frame} {meth : Method} {c : Code} {T0 : State} {locs : List Loc} {cells slots : Nat} {Z : State} {a0 : Array Value} {h0 : Heap} {n0 : Nat} (p1 : Int32) (p2 : Int32) (p3 : Int32) (p4 : Int32) (p5 : Int32) (a6 : Addr) (p7 : Int32) (p8 : Int32) (p9 : Int32) (p10 : Int32) (a11 : Addr) (k14 : ClassId) (p15 : Int32) (p16 : Int32) (p17 : Int32)
    (X0 : Stand p l e R s m args below meth c T0 locs cells slots) (hx : p.tables.exec = Jvm.exec) (hZ : Z.Warmed39 s.vm) (hw : HW a0 Z) (hby : c.code = code) (hml : c.maxLocals = 15) (hown : s.vm.findClass "com/example/nervous_key/nervouskey/OutcomeOfPinLaw" = some m.cls) (e0 : T0.heap = h0) (O0 : Old Z n0 h0) (N0 : Fr n0 locs) (rc : cells + 8 ≤ R.cells) (rs : slots + 59 ≤ R.slots) (rf : 3 ≤ R.frames) (rl : 40 ≤ R.locals) (H12 : Exa Z Z.heap a6 "com/example/nervous_key/nervouskey/Outcome$Kind") (H13 : Exa Z h0 a11 "[B") (H18 : Arv Z h0 a11 k14 .byte (3 : Int32) [(.int p15), (.int p16), (.int p17)] (.int (0 : Int32))) (H24 : n0 ≤ a11) (hc36 : p15 = p7) (hc37 : p16 = p8) (hc38 : p17 = p9) :
    ∃ (T' : State) (h' : Heap) (L' : List Loc) (vm' : Vm) (b19_0 : Addr) (b34_0 : Addr) (b52_0 : Addr) (b19_1 : Addr), Stand p l e R (s.setVm vm') m args below meth c T' L' (cells + 8) (slots + 59) ∧ T'.heap = h' ∧ s.Since vm' h'.size ∧ Fr n0 L' ∧ Keep h0 h' [a11] ∧ h0.size ≤ b19_0 ∧ h0.size ≤ b34_0 ∧ h0.size ≤ b52_0 ∧ h0.size ≤ b19_1 ∧ b19_0 ≠ b34_0 ∧ b19_0 ≠ b52_0 ∧ b19_0 ≠ b19_1 ∧ b34_0 ≠ b52_0 ∧ b34_0 ≠ b19_1 ∧ b52_0 ≠ b19_1 ∧ Exa Z h' a11 "[B" ∧ Arv Z h' a11 k14 .byte (3 : Int32) [(.int p15), (.int p16), (.int ((p17 ^^^ p10).toInt8.toInt32))] (.int (0 : Int32)) ∧ Exa Z h' b19_0 "com/example/nervous_key/nervouskey/Outcome" ∧ Fld Z h' b19_0 "com/example/nervous_key/nervouskey/Outcome" "kind" "Lcom/example/nervous_key/nervouskey/Outcome$Kind;" (.ref a6) ∧ Fld Z h' b19_0 "com/example/nervous_key/nervouskey/Outcome" "result" "[B" (.ref b19_1) ∧ Arv Z h' b34_0 k14 .byte (3 : Int32) [(.int ((p15 ^^^ p10).toInt8.toInt32)), (.int p16), (.int p17)] (.int (0 : Int32)) ∧ Exa Z h' b34_0 "[B" ∧ Arv Z h' b52_0 k14 .byte (3 : Int32) [(.int p15), (.int p16), (.int p17)] (.int (0 : Int32)) ∧ Exa Z h' b52_0 "[B" ∧ Arv Z h' b19_1 k14 .byte (3 : Int32) [(.int p15), (.int p16), (.int p17)] (.int (0 : Int32)) ∧ Exa Z h' b19_1 "[B" ∧
      ∀ target, St p e below T' m 281 #[iv p1, iv p2, iv p3, iv p4, iv p5, rv a6, iv (3 : Int32), iv p7, iv p8, iv p9, iv p10, rv a11, rv b19_0, rv b34_0, rv b52_0] [] target → St p e below T0 m 145 #[iv p1, iv p2, iv p3, iv p4, iv p5, rv a6, iv (3 : Int32), iv p7, iv p8, iv p9, iv p10, rv a11, .unset, .unset, .unset] [] target := by
  obtain ⟨_, _, ⟨T19, L19, k19, n19⟩, -, X19, hSq19, hg19, ⟨Lc19, hQ19, l19, y19, z19⟩, st19⟩ := Jvm.RoadKit.callSS X0 hx (y := y1) hown (mvT hZ (ow hw 5 rfl)) (mvT hZ (ow hw 6 rfl)) (mvT hZ (ow hw 7 rfl)) (mvT hZ (ow hw 8 rfl)) (by decide) (backOfS (W := 0) (r1_4 l Z a0 hw [] a6 a11 k14 p15 p16 p17 h0 n0 O0 H12 H13 H18) hZ (ow hw 8 rfl) (ow hw 7 rfl) (by show 2 + 1 ≤ R.frames; omega) (by show 0 + (2 + 11) + 27 ≤ R.locals; omega)) (g := (mkF m 149 #[iv p1, iv p2, iv p3, iv p4, iv p5, rv a6, iv (3 : Int32), iv p7, iv p8, iv p9, iv p10, rv a11, .unset, .unset, .unset] [(.ref a11), (.ref a6)])) rfl (by rw [hml]; rfl) (argsL := [(.ref a6), (.ref a11)]) (rest := []) (lenOf pd__Lcom_example_nervous_key_nervouskey_Outcome_Kind__B_Lcom_example_nervous_key_nervouskey_Outcome_ rfl) rfl (by show 2 * 0 + _ ≤ _; exact Nat.le_of_eq rfl) (hb hby at_149) (fun _ _ => ⟨rfl, e0, (by show cells + 0 + 6 ≤ R.cells; omega), (by show slots + 0 + 53 ≤ R.slots; omega)⟩)
  dsimp only [Pt.U, Pt.locs, Pt.cells, Pt.slots] at X19 l19 y19 z19 st19 hQ19
  subst l19
  rw [y19, z19] at X19
  obtain ⟨Y19, hS19, hZ19, hown19⟩ := rebS (s := s) (vm0 := s.vm) (State.WarmedH.since (State.WarmedH.refl s) 0) (by rw [e0]; exact (Nat.zero_le _)) X19 hSq19 hg19 hZ hown
  obtain ⟨b19_0, b19_1, rfl, N19q, K19, lo19_1, lo19_2, nq19_3, f19_4, f19_5, f19_6, f19_7, f19_8⟩ := hQ19
  have N19 := Fr.app N0 N19q
  have O_K19 : Old Z n0 T19.heap := O0.keep K19 all0
  have Kp_K19 : Keep h0 T19.heap [a11] := (Keep.refl h0 [a11]).trans K19 all0
  replace Y19 : Stand p l e R _ m args below meth c T19 _ (cells + 6) (slots + 53) := Y19
  have f20 := (H18.keep K19 nin0)
  obtain ⟨cl21, Ar21, q21, S21, M21, H21, G21⟩ := id f20
  have hin21 : ¬ ((2 : Int32) < 0 ∨ cl21.slots.size ≤ ((2 : Int32)).toNatClampNeg) := inb_of S21 ⟨by decide, by decide⟩
  obtain ⟨cl22, Ar22, q22, S22, M22, H22, G22⟩ := id f20
  have hin22 : ¬ ((2 : Int32) < 0 ∨ cl22.slots.size ≤ ((2 : Int32)).toNatClampNeg) := inb_of S22 ⟨by decide, by decide⟩
  obtain ⟨T22, h22, X22, e22, W22, st22⟩ := stB Y19 hx hZ19 rfl Ar22 (j := (2 : Int32)) hin22 (g := (mkF m 176 #[iv p1, iv p2, iv p3, iv p4, iv p5, rv a6, iv (3 : Int32), iv p7, iv p8, iv p9, iv p10, rv a11, rv b19_0, .unset, .unset] [(.int ((p17 ^^^ p10).toInt8.toInt32)), (.int (2 : Int32)), (.ref a11)])) rfl rfl (hb hby at_176)
  have O_W22 : Old Z n0 h22 := O_K19.wr W22 H24
  have Kp_W22 : Keep h0 h22 [a11] := Kp_K19.wr W22 (Or.inl (List.mem_of_getElem? (i := 0) rfl))
  have N25 := Fr.snoc X22 N19 H24
  have f23 : Arv Z h22 a11 k14 .byte (3 : Int32) [(.int p15), (.int p16), (.int ((p17 ^^^ p10).toInt8.toInt32))] (.int (0 : Int32)) := by simpa only [own_narb, own_i8, List.set] using Arv.set Ar22 q22 S22 M22 H22 G22 (fits_nar_byte _) W22 2 rfl (Nat.le_of_ble_eq_true rfl)
  have f26 := (f19_4.wr W22)
  have ne27 : a11 ≠ b19_0 := Nat.ne_of_lt (Nat.lt_of_lt_of_le H13.lt lo19_1)
  have f28 := (f19_5.other W22 (Or.inl (Ne.symm ne27)))
  obtain ⟨cq29, kq29, q29a, q29b, q29c⟩ := isOf hZ19 e22 f26
  obtain ⟨_, _, ⟨T29, L29, k29, n29⟩, -, X29, ⟨Lc29, hQ29, l29, y29, z29⟩, st29⟩ := X22.virtualBack hx (y := y4) (z := y4) hown19 (mvT hZ19 (ow hw 44 rfl)) (mvT hZ19 (ow hw 45 rfl)) (notFace_of_selects (args := #[]) (mvT hZ19 (ow hw 47 rfl))) (mvT hZ19 (ow hw 47 rfl)) (mvT hZ19 (ow hw 46 rfl)) (by decide) (backOf (W := 0) (r4_1 l Z a0 hw [] b19_0 a6 h22 n0 O_W22 f28) hZ19 (ow hw 48 rfl) (ow hw 7 rfl) (by show 0 + 1 ≤ R.frames; omega) (by show 0 + (1 + 11) + 0 ≤ R.locals; omega)) q29a q29c (g := (mkF m 179 #[iv p1, iv p2, iv p3, iv p4, iv p5, rv a6, iv (3 : Int32), iv p7, iv p8, iv p9, iv p10, rv a11, rv b19_0, .unset, .unset] [(.ref b19_0)])) rfl (by rw [hml]; rfl) (Steps.refl _) (argsL := []) (rest := []) (lenOf pd___Lcom_example_nervous_key_nervouskey_Outcome_Kind_ rfl) rfl (by show 2 * 0 + _ ≤ _; exact Nat.le_of_eq rfl) (hb hby at_179) (fun _ _ => ⟨rfl, e22, (by show cells + 6 + 0 ≤ R.cells; omega), (by show slots + 53 + 0 ≤ R.slots; omega)⟩)
  dsimp only [Pt.U, Pt.locs, Pt.cells, Pt.slots] at X29 l29 y29 z29 st29 hQ29
  subst l29
  rw [y29, z29] at X29
  obtain ⟨rfl, N29q, e29⟩ := hQ29
  have N29 := Fr.app N25 N29q
  replace X29 : Stand p l e R _ m args below meth c T29 _ (cells + 6) (slots + 53) := X29
  have f30 := (f19_6.other W22 (Or.inl (Ne.symm ne27)))
  have ne31 : a11 ≠ b19_1 := Nat.ne_of_lt (Nat.lt_of_lt_of_le H13.lt lo19_2)
  have f32 := (f19_7.other W22 (Ne.symm ne31))
  have f33 := (f19_8.wr W22)
  obtain ⟨cq34, kq34, q34a, q34b, q34c⟩ := isOf hZ19 e29 f26
  obtain ⟨_, _, ⟨T34, L34, k34, n34⟩, -, X34, ⟨Lc34, hQ34, l34, y34, z34⟩, st34⟩ := X29.virtualBack hx (y := y5) (z := y5) hown19 (mvT hZ19 (ow hw 49 rfl)) (mvT hZ19 (ow hw 50 rfl)) (notFace_of_selects (args := #[]) (mvT hZ19 (ow hw 52 rfl))) (mvT hZ19 (ow hw 52 rfl)) (mvT hZ19 (ow hw 51 rfl)) (by decide) (backOf (W := 0) (r5_4 l Z a0 hw [] b19_0 b19_1 k14 p15 p16 p17 h22 n0 O_W22 f30 f32 f33) hZ19 (ow hw 53 rfl) (ow hw 7 rfl) (by show 1 + 1 ≤ R.frames; omega) (by show 0 + (1 + 11) + 14 ≤ R.locals; omega)) q34a q34c (g := (mkF m 191 #[iv p1, iv p2, iv p3, iv p4, iv p5, rv a6, iv (3 : Int32), iv p7, iv p8, iv p9, iv p10, rv a11, rv b19_0, .unset, .unset] [(.ref b19_0)])) rfl (by rw [hml]; rfl) (Steps.refl _) (argsL := []) (rest := []) (lenOf pd____B rfl) rfl (by show 2 * 0 + _ ≤ _; exact Nat.le_of_eq rfl) (hb hby at_191) (fun _ _ => ⟨rfl, e29, (by show cells + 6 + 1 ≤ R.cells; omega), (by show slots + 53 + 3 ≤ R.slots; omega)⟩)
  dsimp only [Pt.U, Pt.locs, Pt.cells, Pt.slots] at X34 l34 y34 z34 st34 hQ34
  subst l34
  rw [y34, z34] at X34
  obtain ⟨b34_0, rfl, N34q, K34, lo34_1, f34_2, f34_3⟩ := hQ34
  have N34 := Fr.app N29 N34q
  have O_K34 : Old Z n0 T34.heap := O_W22.keep K34 all0
  have Kp_K34 : Keep h0 T34.heap [a11] := Kp_W22.trans K34 all0
  replace X34 : Stand p l e R _ m args below meth c T34 _ (cells + 7) (slots + 56) := X34
  have ne35 : a11 ≠ b34_0 := Nat.ne_of_lt (Nat.lt_of_lt_of_le ((H13.keep K19).wr W22).lt lo34_1)
  obtain ⟨_, _, ⟨T39, L39, k39, n39⟩, -, X39, ⟨Lc39, hQ39, l39, y39, z39⟩, st39⟩ := Jvm.LawKit.callS X34 hx (y := y6) hown19 (mvT hZ19 (ow hw 54 rfl)) (mvT hZ19 (ow hw 55 rfl)) (mvT hZ19 (ow hw 56 rfl)) (mvT hZ19 (ow hw 57 rfl)) (by decide) (backOf (W := 0) (r6_4 l Z a0 hw [] b34_0 p7 p8 p9 k14 p15 p16 p17 T34.heap n0 O_K34 f34_2 hc36 hc37 hc38) hZ19 (ow hw 57 rfl) (ow hw 56 rfl) (by show 0 + 1 ≤ R.frames; omega) (by show 0 + (5 + 11) + 0 ≤ R.locals; omega)) (g := (mkF m 215 #[iv p1, iv p2, iv p3, iv p4, iv p5, rv a6, iv (3 : Int32), iv p7, iv p8, iv p9, iv p10, rv a11, rv b19_0, rv b34_0, .unset] [(.int p9), (.int p8), (.int p7), (.int (3 : Int32)), (.ref b34_0)])) rfl (by rw [hml]; rfl) (argsL := [(.ref b34_0), (.int (3 : Int32)), (.int p7), (.int p8), (.int p9)]) (rest := []) (lenOf pd___BIBBB_Z rfl) rfl (by show 2 * 0 + _ ≤ _; exact Nat.le_of_eq rfl) (hb hby at_215) (fun _ _ => ⟨rfl, rfl, (by show cells + 7 + 0 ≤ R.cells; omega), (by show slots + 56 + 0 ≤ R.slots; omega)⟩)
  dsimp only [Pt.U, Pt.locs, Pt.cells, Pt.slots] at X39 l39 y39 z39 st39 hQ39
  subst l39
  rw [y39, z39] at X39
  obtain ⟨rfl, N39q, e39⟩ := hQ39
  have N39 := Fr.app N34 N39q
  replace X39 : Stand p l e R _ m args below meth c T39 _ (cells + 7) (slots + 56) := X39
  obtain ⟨cl40, Ar40, q40, S40, M40, H40, G40⟩ := id f34_2
  have hin40 : ¬ ((0 : Int32) < 0 ∨ cl40.slots.size ≤ ((0 : Int32)).toNatClampNeg) := inb_of S40 ⟨by decide, by decide⟩
  obtain ⟨cl41, Ar41, q41, S41, M41, H41, G41⟩ := id f34_2
  have hin41 : ¬ ((0 : Int32) < 0 ∨ cl41.slots.size ≤ ((0 : Int32)).toNatClampNeg) := inb_of S41 ⟨by decide, by decide⟩
  obtain ⟨T41, h41, X41, e41, W41, st41⟩ := stB X39 hx hZ19 e39 Ar41 (j := (0 : Int32)) hin41 (g := (mkF m 239 #[iv p1, iv p2, iv p3, iv p4, iv p5, rv a6, iv (3 : Int32), iv p7, iv p8, iv p9, iv p10, rv a11, rv b19_0, rv b34_0, .unset] [(.int ((p15 ^^^ p10).toInt8.toInt32)), (.int (0 : Int32)), (.ref b34_0)])) rfl rfl (hb hby at_239)
  have g43 : n0 ≤ b34_0 := Nat.le_trans (Nat.le_trans (Nat.le_of_eq O_W22.1.symm) O_W22.2.1) lo34_1
  have z44 : h0.size ≤ b34_0 := Nat.le_trans Kp_W22.1 lo34_1
  have O_W41 : Old Z n0 h41 := O_K34.wr W41 g43
  have Kp_W41 : Keep h0 h41 [a11] := Kp_K34.wr W41 (Or.inr z44)
  have N45 := Fr.snoc X41 N39 g43
  have f42 : Arv Z h41 b34_0 k14 .byte (3 : Int32) [(.int ((p15 ^^^ p10).toInt8.toInt32)), (.int p16), (.int p17)] (.int (0 : Int32)) := by simpa only [own_narb, own_i8, List.set] using Arv.set Ar41 q41 S41 M41 H41 G41 (fits_nar_byte _) W41 0 rfl (Nat.le_of_ble_eq_true rfl)
  have f46 := ((f26.keep K34).wr W41)
  have ne47 : b19_0 ≠ b34_0 := Nat.ne_of_lt (Nat.lt_of_lt_of_le (f19_4.wr W22).lt lo34_1)
  have f48 := ((f30.keep K34 nin0).other W41 (Or.inl ne47))
  have ne49 : b19_1 ≠ b34_0 := Nat.ne_of_lt (Nat.lt_of_lt_of_le f33.lt lo34_1)
  have f50 := ((f32.keep K34 nin0).other W41 ne49)
  have f51 := ((f33.keep K34).wr W41)
  obtain ⟨cq52, kq52, q52a, q52b, q52c⟩ := isOf hZ19 e41 f46
  obtain ⟨_, _, ⟨T52, L52, k52, n52⟩, -, X52, ⟨Lc52, hQ52, l52, y52, z52⟩, st52⟩ := X41.virtualBack hx (y := y5) (z := y5) hown19 (mvT hZ19 (ow hw 49 rfl)) (mvT hZ19 (ow hw 50 rfl)) (notFace_of_selects (args := #[]) (mvT hZ19 (ow hw 52 rfl))) (mvT hZ19 (ow hw 52 rfl)) (mvT hZ19 (ow hw 51 rfl)) (by decide) (backOf (W := 0) (r5_4 l Z a0 hw [] b19_0 b19_1 k14 p15 p16 p17 h41 n0 O_W41 f48 f50 f51) hZ19 (ow hw 53 rfl) (ow hw 7 rfl) (by show 1 + 1 ≤ R.frames; omega) (by show 0 + (1 + 11) + 14 ≤ R.locals; omega)) q52a q52c (g := (mkF m 242 #[iv p1, iv p2, iv p3, iv p4, iv p5, rv a6, iv (3 : Int32), iv p7, iv p8, iv p9, iv p10, rv a11, rv b19_0, rv b34_0, .unset] [(.ref b19_0)])) rfl (by rw [hml]; rfl) (Steps.refl _) (argsL := []) (rest := []) (lenOf pd____B rfl) rfl (by show 2 * 0 + _ ≤ _; exact Nat.le_of_eq rfl) (hb hby at_242) (fun _ _ => ⟨rfl, e41, (by show cells + 7 + 1 ≤ R.cells; omega), (by show slots + 56 + 3 ≤ R.slots; omega)⟩)
  dsimp only [Pt.U, Pt.locs, Pt.cells, Pt.slots] at X52 l52 y52 z52 st52 hQ52
  subst l52
  rw [y52, z52] at X52
  obtain ⟨b52_0, rfl, N52q, K52, lo52_1, f52_2, f52_3⟩ := hQ52
  have N52 := Fr.app N45 N52q
  have O_K52 : Old Z n0 T52.heap := O_W41.keep K52 all0
  have Kp_K52 : Keep h0 T52.heap [a11] := Kp_W41.trans K52 all0
  replace X52 : Stand p l e R _ m args below meth c T52 _ (cells + 8) (slots + 59) := X52
  have ne53 : b34_0 ≠ b52_0 := Nat.ne_of_lt (Nat.lt_of_lt_of_le (f34_3.wr W41).lt lo52_1)
  have ne54 : a11 ≠ b52_0 := Nat.ne_of_lt (Nat.lt_of_lt_of_le ((((H13.keep K19).wr W22).keep K34).wr W41).lt lo52_1)
  obtain ⟨_, _, ⟨T55, L55, k55, n55⟩, -, X55, ⟨Lc55, hQ55, l55, y55, z55⟩, st55⟩ := Jvm.LawKit.callS X52 hx (y := y6) hown19 (mvT hZ19 (ow hw 54 rfl)) (mvT hZ19 (ow hw 55 rfl)) (mvT hZ19 (ow hw 56 rfl)) (mvT hZ19 (ow hw 57 rfl)) (by decide) (backOf (W := 0) (r6_4 l Z a0 hw [] b52_0 p7 p8 p9 k14 p15 p16 p17 T52.heap n0 O_K52 f52_2 hc36 hc37 hc38) hZ19 (ow hw 57 rfl) (ow hw 56 rfl) (by show 0 + 1 ≤ R.frames; omega) (by show 0 + (5 + 11) + 0 ≤ R.locals; omega)) (g := (mkF m 273 #[iv p1, iv p2, iv p3, iv p4, iv p5, rv a6, iv (3 : Int32), iv p7, iv p8, iv p9, iv p10, rv a11, rv b19_0, rv b34_0, rv b52_0] [(.int p9), (.int p8), (.int p7), (.int (3 : Int32)), (.ref b52_0)])) rfl (by rw [hml]; rfl) (argsL := [(.ref b52_0), (.int (3 : Int32)), (.int p7), (.int p8), (.int p9)]) (rest := []) (lenOf pd___BIBBB_Z rfl) rfl (by show 2 * 0 + _ ≤ _; exact Nat.le_of_eq rfl) (hb hby at_273) (fun _ _ => ⟨rfl, rfl, (by show cells + 8 + 0 ≤ R.cells; omega), (by show slots + 59 + 0 ≤ R.slots; omega)⟩)
  dsimp only [Pt.U, Pt.locs, Pt.cells, Pt.slots] at X55 l55 y55 z55 st55 hQ55
  subst l55
  rw [y55, z55] at X55
  obtain ⟨rfl, N55q, e55⟩ := hQ55
  have N55 := Fr.app N52 N55q
  replace X55 : Stand p l e R _ m args below meth c T55 _ (cells + 8) (slots + 59) := X55
  have z56 : h0.size ≤ b19_0 := Nat.le_trans (Keep.refl h0 [a11]).1 lo19_1
  have z57 : h0.size ≤ b52_0 := Nat.le_trans Kp_W41.1 lo52_1
  have z58 : h0.size ≤ b19_1 := Nat.le_trans (Keep.refl h0 [a11]).1 lo19_2
  have ne59 : b19_0 ≠ b52_0 := Nat.ne_of_lt (Nat.lt_of_lt_of_le f46.lt lo52_1)
  have ne60 : b19_1 ≠ b52_0 := Nat.ne_of_lt (Nat.lt_of_lt_of_le f51.lt lo52_1)
  have f61 := (((((H13.keep K19).wr W22).keep K34).wr W41).keep K52)
  have f62 := (((f23.keep K34 nin0).other W41 ne35).keep K52 nin0)
  have f63 := (f46.keep K52)
  have f64 := (((f28.keep K34 nin0).other W41 (Or.inl ne47)).keep K52 nin0)
  have f65 := (f48.keep K52 nin0)
  have f66 := (f42.keep K52 nin0)
  have f67 := ((f34_3.wr W41).keep K52)
  have f68 := (f50.keep K52 nin0)
  have f69 := (f51.keep K52)
  refine ⟨T55, _, _, T19.vm, b19_0, b34_0, b52_0, b19_1, X55.more (by omega) (by omega), e55, own_since hS19 (Nat.le_trans (Nat.le_trans (Nat.le_trans (Nat.le_trans (Nat.le_refl _) (Keep.of_wr W22).1) K34.1) (Keep.of_wr W41).1) K52.1), N55, Kp_K52, z56, z44, z57, z58, ne47, ne59, nq19_3, ne53, (Ne.symm ne49), (Ne.symm ne60), f61, f62, f63, f64, f65, f66, f67, f52_2, f52_3, f68, f69, fun target kt => ?_⟩
  show St p e below T0 m 145 #[iv p1, iv p2, iv p3, iv p4, iv p5, rv a6, iv (3 : Int32), iv p7, iv p8, iv p9, iv p10, rv a11, .unset, .unset, .unset] [] _
  refine XS.aload X0.here hx rfl (hb hby at_145) rfl rfl ?_
  show St p e below T0 m 147 #[iv p1, iv p2, iv p3, iv p4, iv p5, rv a6, iv (3 : Int32), iv p7, iv p8, iv p9, iv p10, rv a11, .unset, .unset, .unset] [(.ref a6)] _
  refine XS.aload X0.here hx rfl (hb hby at_147) rfl rfl ?_
  show St p e below T0 m 149 #[iv p1, iv p2, iv p3, iv p4, iv p5, rv a6, iv (3 : Int32), iv p7, iv p8, iv p9, iv p10, rv a11, .unset, .unset, .unset] [(.ref a11), (.ref a6)] _
  refine st19.trans ?_
  show St p e below T19 m 152 #[iv p1, iv p2, iv p3, iv p4, iv p5, rv a6, iv (3 : Int32), iv p7, iv p8, iv p9, iv p10, rv a11, .unset, .unset, .unset] [(.ref b19_0)] _
  refine XS.astore Y19.here hx rfl (hb hby at_152) rfl rfl (l' := #[iv p1, iv p2, iv p3, iv p4, iv p5, rv a6, iv (3 : Int32), iv p7, iv p8, iv p9, iv p10, rv a11, rv b19_0, .unset, .unset]) rfl ?_
  show St p e below T19 m 154 #[iv p1, iv p2, iv p3, iv p4, iv p5, rv a6, iv (3 : Int32), iv p7, iv p8, iv p9, iv p10, rv a11, rv b19_0, .unset, .unset] [] _
  refine XS.iload Y19.here hx rfl (hb hby at_154) rfl ?_
  show St p e below T19 m 156 #[iv p1, iv p2, iv p3, iv p4, iv p5, rv a6, iv (3 : Int32), iv p7, iv p8, iv p9, iv p10, rv a11, rv b19_0, .unset, .unset] [(.int (3 : Int32))] _
  refine XS.ifNo Y19.here hx rfl (hb hby at_156) rfl ((if0 _ _).trans (tlt (by decide : (0 : Int32) < (3 : Int32))).2.2.2) ?_
  show St p e below T19 m 159 #[iv p1, iv p2, iv p3, iv p4, iv p5, rv a6, iv (3 : Int32), iv p7, iv p8, iv p9, iv p10, rv a11, rv b19_0, .unset, .unset] [] _
  refine XS.aload Y19.here hx rfl (hb hby at_159) rfl rfl ?_
  show St p e below T19 m 161 #[iv p1, iv p2, iv p3, iv p4, iv p5, rv a6, iv (3 : Int32), iv p7, iv p8, iv p9, iv p10, rv a11, rv b19_0, .unset, .unset] [(.ref a11)] _
  refine XS.iload Y19.here hx rfl (hb hby at_161) rfl ?_
  show St p e below T19 m 163 #[iv p1, iv p2, iv p3, iv p4, iv p5, rv a6, iv (3 : Int32), iv p7, iv p8, iv p9, iv p10, rv a11, rv b19_0, .unset, .unset] [(.int (3 : Int32)), (.ref a11)] _
  refine XS.iconst Y19.here hx rfl (hb hby at_163) ?_
  show St p e below T19 m 164 #[iv p1, iv p2, iv p3, iv p4, iv p5, rv a6, iv (3 : Int32), iv p7, iv p8, iv p9, iv p10, rv a11, rv b19_0, .unset, .unset] [(.int (1 : Int32)), (.int (3 : Int32)), (.ref a11)] _
  refine XS.isub Y19.here hx rfl (hb hby at_164) rfl ?_
  show St p e below T19 m 165 #[iv p1, iv p2, iv p3, iv p4, iv p5, rv a6, iv (3 : Int32), iv p7, iv p8, iv p9, iv p10, rv a11, rv b19_0, .unset, .unset] [(.int (2 : Int32)), (.ref a11)] _
  refine XS.aload Y19.here hx rfl (hb hby at_165) rfl rfl ?_
  show St p e below T19 m 167 #[iv p1, iv p2, iv p3, iv p4, iv p5, rv a6, iv (3 : Int32), iv p7, iv p8, iv p9, iv p10, rv a11, rv b19_0, .unset, .unset] [(.ref a11), (.int (2 : Int32)), (.ref a11)] _
  refine XS.iload Y19.here hx rfl (hb hby at_167) rfl ?_
  show St p e below T19 m 169 #[iv p1, iv p2, iv p3, iv p4, iv p5, rv a6, iv (3 : Int32), iv p7, iv p8, iv p9, iv p10, rv a11, rv b19_0, .unset, .unset] [(.int (3 : Int32)), (.ref a11), (.int (2 : Int32)), (.ref a11)] _
  refine XS.iconst Y19.here hx rfl (hb hby at_169) ?_
  show St p e below T19 m 170 #[iv p1, iv p2, iv p3, iv p4, iv p5, rv a6, iv (3 : Int32), iv p7, iv p8, iv p9, iv p10, rv a11, rv b19_0, .unset, .unset] [(.int (1 : Int32)), (.int (3 : Int32)), (.ref a11), (.int (2 : Int32)), (.ref a11)] _
  refine XS.isub Y19.here hx rfl (hb hby at_170) rfl ?_
  show St p e below T19 m 171 #[iv p1, iv p2, iv p3, iv p4, iv p5, rv a6, iv (3 : Int32), iv p7, iv p8, iv p9, iv p10, rv a11, rv b19_0, .unset, .unset] [(.int (2 : Int32)), (.ref a11), (.int (2 : Int32)), (.ref a11)] _
  refine Y19.baloadBytes hx (j := (2 : Int32)) (v := (.int p17)) Ar21.1 (State.isArrayOf_alike hZ19.alike Ar21.2.1) Ar21.2.2 hin21 (Has.at H21 hin21 rfl) (g := (mkF m 171 #[iv p1, iv p2, iv p3, iv p4, iv p5, rv a6, iv (3 : Int32), iv p7, iv p8, iv p9, iv p10, rv a11, rv b19_0, .unset, .unset] [(.int (2 : Int32)), (.ref a11), (.int (2 : Int32)), (.ref a11)])) rfl rfl (hb hby at_171) _ ?_
  show St p e below T19 m 172 #[iv p1, iv p2, iv p3, iv p4, iv p5, rv a6, iv (3 : Int32), iv p7, iv p8, iv p9, iv p10, rv a11, rv b19_0, .unset, .unset] [(.int p17), (.int (2 : Int32)), (.ref a11)] _
  refine XS.iload Y19.here hx rfl (hb hby at_172) rfl ?_
  show St p e below T19 m 174 #[iv p1, iv p2, iv p3, iv p4, iv p5, rv a6, iv (3 : Int32), iv p7, iv p8, iv p9, iv p10, rv a11, rv b19_0, .unset, .unset] [(.int p10), (.int p17), (.int (2 : Int32)), (.ref a11)] _
  refine XS.ixor Y19.here hx rfl (hb hby at_174) rfl ?_
  show St p e below T19 m 175 #[iv p1, iv p2, iv p3, iv p4, iv p5, rv a6, iv (3 : Int32), iv p7, iv p8, iv p9, iv p10, rv a11, rv b19_0, .unset, .unset] [(.int (p17 ^^^ p10)), (.int (2 : Int32)), (.ref a11)] _
  refine XS.i2b Y19.here hx rfl (hb hby at_175) rfl ?_
  show St p e below T19 m 176 #[iv p1, iv p2, iv p3, iv p4, iv p5, rv a6, iv (3 : Int32), iv p7, iv p8, iv p9, iv p10, rv a11, rv b19_0, .unset, .unset] [(.int ((p17 ^^^ p10).toInt8.toInt32)), (.int (2 : Int32)), (.ref a11)] _
  refine st22 _ ?_
  show St p e below T22 m 177 #[iv p1, iv p2, iv p3, iv p4, iv p5, rv a6, iv (3 : Int32), iv p7, iv p8, iv p9, iv p10, rv a11, rv b19_0, .unset, .unset] [] _
  refine XS.aload X22.here hx rfl (hb hby at_177) rfl rfl ?_
  show St p e below T22 m 179 #[iv p1, iv p2, iv p3, iv p4, iv p5, rv a6, iv (3 : Int32), iv p7, iv p8, iv p9, iv p10, rv a11, rv b19_0, .unset, .unset] [(.ref b19_0)] _
  refine st29.trans ?_
  show St p e below T29 m 182 #[iv p1, iv p2, iv p3, iv p4, iv p5, rv a6, iv (3 : Int32), iv p7, iv p8, iv p9, iv p10, rv a11, rv b19_0, .unset, .unset] [(.ref a6)] _
  refine XS.aload X29.here hx rfl (hb hby at_182) rfl rfl ?_
  show St p e below T29 m 184 #[iv p1, iv p2, iv p3, iv p4, iv p5, rv a6, iv (3 : Int32), iv p7, iv p8, iv p9, iv p10, rv a11, rv b19_0, .unset, .unset] [(.ref a6), (.ref a6)] _
  refine Jvm.RoadKit.acmp (g := (mkF m 184 #[iv p1, iv p2, iv p3, iv p4, iv p5, rv a6, iv (3 : Int32), iv p7, iv p8, iv p9, iv p10, rv a11, rv b19_0, .unset, .unset] [(.ref a6), (.ref a6)])) X29 hx rfl rfl rfl (pc0 := 184) (pc' := 189) (same := true) rfl (hb hby at_184) rfl (decide_eq_true rfl) (by decide) (by decide) ?_
  show St p e below T29 m 189 #[iv p1, iv p2, iv p3, iv p4, iv p5, rv a6, iv (3 : Int32), iv p7, iv p8, iv p9, iv p10, rv a11, rv b19_0, .unset, .unset] [] _
  refine XS.aload X29.here hx rfl (hb hby at_189) rfl rfl ?_
  show St p e below T29 m 191 #[iv p1, iv p2, iv p3, iv p4, iv p5, rv a6, iv (3 : Int32), iv p7, iv p8, iv p9, iv p10, rv a11, rv b19_0, .unset, .unset] [(.ref b19_0)] _
  refine st34.trans ?_
  show St p e below T34 m 194 #[iv p1, iv p2, iv p3, iv p4, iv p5, rv a6, iv (3 : Int32), iv p7, iv p8, iv p9, iv p10, rv a11, rv b19_0, .unset, .unset] [(.ref b34_0)] _
  refine XS.astore X34.here hx rfl (hb hby at_194) rfl rfl (l' := #[iv p1, iv p2, iv p3, iv p4, iv p5, rv a6, iv (3 : Int32), iv p7, iv p8, iv p9, iv p10, rv a11, rv b19_0, rv b34_0, .unset]) rfl ?_
  show St p e below T34 m 196 #[iv p1, iv p2, iv p3, iv p4, iv p5, rv a6, iv (3 : Int32), iv p7, iv p8, iv p9, iv p10, rv a11, rv b19_0, rv b34_0, .unset] [] _
  refine XS.aload X34.here hx rfl (hb hby at_196) rfl rfl ?_
  show St p e below T34 m 198 #[iv p1, iv p2, iv p3, iv p4, iv p5, rv a6, iv (3 : Int32), iv p7, iv p8, iv p9, iv p10, rv a11, rv b19_0, rv b34_0, .unset] [(.ref b34_0)] _
  refine XS.aload X34.here hx rfl (hb hby at_198) rfl rfl ?_
  show St p e below T34 m 200 #[iv p1, iv p2, iv p3, iv p4, iv p5, rv a6, iv (3 : Int32), iv p7, iv p8, iv p9, iv p10, rv a11, rv b19_0, rv b34_0, .unset] [(.ref a11), (.ref b34_0)] _
  refine Jvm.RoadKit.acmp (g := (mkF m 200 #[iv p1, iv p2, iv p3, iv p4, iv p5, rv a6, iv (3 : Int32), iv p7, iv p8, iv p9, iv p10, rv a11, rv b19_0, rv b34_0, .unset] [(.ref a11), (.ref b34_0)])) X34 hx rfl rfl rfl (pc0 := 200) (pc' := 205) (same := false) rfl (hb hby at_200) rfl (decide_eq_false fun q => (Ne.symm ne35) (Value.ref.inj q)) (by decide) (by decide) ?_
  show St p e below T34 m 205 #[iv p1, iv p2, iv p3, iv p4, iv p5, rv a6, iv (3 : Int32), iv p7, iv p8, iv p9, iv p10, rv a11, rv b19_0, rv b34_0, .unset] [] _
  refine XS.aload X34.here hx rfl (hb hby at_205) rfl rfl ?_
  show St p e below T34 m 207 #[iv p1, iv p2, iv p3, iv p4, iv p5, rv a6, iv (3 : Int32), iv p7, iv p8, iv p9, iv p10, rv a11, rv b19_0, rv b34_0, .unset] [(.ref b34_0)] _
  refine XS.iload X34.here hx rfl (hb hby at_207) rfl ?_
  show St p e below T34 m 209 #[iv p1, iv p2, iv p3, iv p4, iv p5, rv a6, iv (3 : Int32), iv p7, iv p8, iv p9, iv p10, rv a11, rv b19_0, rv b34_0, .unset] [(.int (3 : Int32)), (.ref b34_0)] _
  refine XS.iload X34.here hx rfl (hb hby at_209) rfl ?_
  show St p e below T34 m 211 #[iv p1, iv p2, iv p3, iv p4, iv p5, rv a6, iv (3 : Int32), iv p7, iv p8, iv p9, iv p10, rv a11, rv b19_0, rv b34_0, .unset] [(.int p7), (.int (3 : Int32)), (.ref b34_0)] _
  refine XS.iload X34.here hx rfl (hb hby at_211) rfl ?_
  show St p e below T34 m 213 #[iv p1, iv p2, iv p3, iv p4, iv p5, rv a6, iv (3 : Int32), iv p7, iv p8, iv p9, iv p10, rv a11, rv b19_0, rv b34_0, .unset] [(.int p8), (.int p7), (.int (3 : Int32)), (.ref b34_0)] _
  refine XS.iload X34.here hx rfl (hb hby at_213) rfl ?_
  show St p e below T34 m 215 #[iv p1, iv p2, iv p3, iv p4, iv p5, rv a6, iv (3 : Int32), iv p7, iv p8, iv p9, iv p10, rv a11, rv b19_0, rv b34_0, .unset] [(.int p9), (.int p8), (.int p7), (.int (3 : Int32)), (.ref b34_0)] _
  refine st39 _ ?_
  show St p e below T39 m 218 #[iv p1, iv p2, iv p3, iv p4, iv p5, rv a6, iv (3 : Int32), iv p7, iv p8, iv p9, iv p10, rv a11, rv b19_0, rv b34_0, .unset] [(.int (1 : Int32))] _
  refine XS.ifYes X39.here hx rfl (pc0 := 218) (pc' := 223) rfl (hb hby at_218) rfl ((if0 _ _).trans (feq (by decide : ¬ ((1 : Int32) = (0 : Int32)))).2) (by decide) (by decide) ?_
  show St p e below T39 m 223 #[iv p1, iv p2, iv p3, iv p4, iv p5, rv a6, iv (3 : Int32), iv p7, iv p8, iv p9, iv p10, rv a11, rv b19_0, rv b34_0, .unset] [] _
  refine XS.iload X39.here hx rfl (hb hby at_223) rfl ?_
  show St p e below T39 m 225 #[iv p1, iv p2, iv p3, iv p4, iv p5, rv a6, iv (3 : Int32), iv p7, iv p8, iv p9, iv p10, rv a11, rv b19_0, rv b34_0, .unset] [(.int (3 : Int32))] _
  refine XS.ifNo X39.here hx rfl (hb hby at_225) rfl ((if0 _ _).trans (tlt (by decide : (0 : Int32) < (3 : Int32))).2.2.2) ?_
  show St p e below T39 m 228 #[iv p1, iv p2, iv p3, iv p4, iv p5, rv a6, iv (3 : Int32), iv p7, iv p8, iv p9, iv p10, rv a11, rv b19_0, rv b34_0, .unset] [] _
  refine XS.aload X39.here hx rfl (hb hby at_228) rfl rfl ?_
  show St p e below T39 m 230 #[iv p1, iv p2, iv p3, iv p4, iv p5, rv a6, iv (3 : Int32), iv p7, iv p8, iv p9, iv p10, rv a11, rv b19_0, rv b34_0, .unset] [(.ref b34_0)] _
  refine XS.iconst X39.here hx rfl (hb hby at_230) ?_
  show St p e below T39 m 231 #[iv p1, iv p2, iv p3, iv p4, iv p5, rv a6, iv (3 : Int32), iv p7, iv p8, iv p9, iv p10, rv a11, rv b19_0, rv b34_0, .unset] [(.int (0 : Int32)), (.ref b34_0)] _
  refine XS.aload X39.here hx rfl (hb hby at_231) rfl rfl ?_
  show St p e below T39 m 233 #[iv p1, iv p2, iv p3, iv p4, iv p5, rv a6, iv (3 : Int32), iv p7, iv p8, iv p9, iv p10, rv a11, rv b19_0, rv b34_0, .unset] [(.ref b34_0), (.int (0 : Int32)), (.ref b34_0)] _
  refine XS.iconst X39.here hx rfl (hb hby at_233) ?_
  show St p e below T39 m 234 #[iv p1, iv p2, iv p3, iv p4, iv p5, rv a6, iv (3 : Int32), iv p7, iv p8, iv p9, iv p10, rv a11, rv b19_0, rv b34_0, .unset] [(.int (0 : Int32)), (.ref b34_0), (.int (0 : Int32)), (.ref b34_0)] _
  refine X39.baloadBytes hx (j := (0 : Int32)) (v := (.int p15)) (by rw [e39]; exact Ar40.1) (State.isArrayOf_alike hZ19.alike Ar40.2.1) Ar40.2.2 hin40 (Has.at H40 hin40 rfl) (g := (mkF m 234 #[iv p1, iv p2, iv p3, iv p4, iv p5, rv a6, iv (3 : Int32), iv p7, iv p8, iv p9, iv p10, rv a11, rv b19_0, rv b34_0, .unset] [(.int (0 : Int32)), (.ref b34_0), (.int (0 : Int32)), (.ref b34_0)])) rfl rfl (hb hby at_234) _ ?_
  show St p e below T39 m 235 #[iv p1, iv p2, iv p3, iv p4, iv p5, rv a6, iv (3 : Int32), iv p7, iv p8, iv p9, iv p10, rv a11, rv b19_0, rv b34_0, .unset] [(.int p15), (.int (0 : Int32)), (.ref b34_0)] _
  refine XS.iload X39.here hx rfl (hb hby at_235) rfl ?_
  show St p e below T39 m 237 #[iv p1, iv p2, iv p3, iv p4, iv p5, rv a6, iv (3 : Int32), iv p7, iv p8, iv p9, iv p10, rv a11, rv b19_0, rv b34_0, .unset] [(.int p10), (.int p15), (.int (0 : Int32)), (.ref b34_0)] _
  refine XS.ixor X39.here hx rfl (hb hby at_237) rfl ?_
  show St p e below T39 m 238 #[iv p1, iv p2, iv p3, iv p4, iv p5, rv a6, iv (3 : Int32), iv p7, iv p8, iv p9, iv p10, rv a11, rv b19_0, rv b34_0, .unset] [(.int (p15 ^^^ p10)), (.int (0 : Int32)), (.ref b34_0)] _
  refine XS.i2b X39.here hx rfl (hb hby at_238) rfl ?_
  show St p e below T39 m 239 #[iv p1, iv p2, iv p3, iv p4, iv p5, rv a6, iv (3 : Int32), iv p7, iv p8, iv p9, iv p10, rv a11, rv b19_0, rv b34_0, .unset] [(.int ((p15 ^^^ p10).toInt8.toInt32)), (.int (0 : Int32)), (.ref b34_0)] _
  refine st41 _ ?_
  show St p e below T41 m 240 #[iv p1, iv p2, iv p3, iv p4, iv p5, rv a6, iv (3 : Int32), iv p7, iv p8, iv p9, iv p10, rv a11, rv b19_0, rv b34_0, .unset] [] _
  refine XS.aload X41.here hx rfl (hb hby at_240) rfl rfl ?_
  show St p e below T41 m 242 #[iv p1, iv p2, iv p3, iv p4, iv p5, rv a6, iv (3 : Int32), iv p7, iv p8, iv p9, iv p10, rv a11, rv b19_0, rv b34_0, .unset] [(.ref b19_0)] _
  refine st52.trans ?_
  show St p e below T52 m 245 #[iv p1, iv p2, iv p3, iv p4, iv p5, rv a6, iv (3 : Int32), iv p7, iv p8, iv p9, iv p10, rv a11, rv b19_0, rv b34_0, .unset] [(.ref b52_0)] _
  refine XS.astore X52.here hx rfl (hb hby at_245) rfl rfl (l' := #[iv p1, iv p2, iv p3, iv p4, iv p5, rv a6, iv (3 : Int32), iv p7, iv p8, iv p9, iv p10, rv a11, rv b19_0, rv b34_0, rv b52_0]) rfl ?_
  show St p e below T52 m 247 #[iv p1, iv p2, iv p3, iv p4, iv p5, rv a6, iv (3 : Int32), iv p7, iv p8, iv p9, iv p10, rv a11, rv b19_0, rv b34_0, rv b52_0] [] _
  refine XS.aload X52.here hx rfl (hb hby at_247) rfl rfl ?_
  show St p e below T52 m 249 #[iv p1, iv p2, iv p3, iv p4, iv p5, rv a6, iv (3 : Int32), iv p7, iv p8, iv p9, iv p10, rv a11, rv b19_0, rv b34_0, rv b52_0] [(.ref b52_0)] _
  refine XS.aload X52.here hx rfl (hb hby at_249) rfl rfl ?_
  show St p e below T52 m 251 #[iv p1, iv p2, iv p3, iv p4, iv p5, rv a6, iv (3 : Int32), iv p7, iv p8, iv p9, iv p10, rv a11, rv b19_0, rv b34_0, rv b52_0] [(.ref b34_0), (.ref b52_0)] _
  refine Jvm.RoadKit.acmp (g := (mkF m 251 #[iv p1, iv p2, iv p3, iv p4, iv p5, rv a6, iv (3 : Int32), iv p7, iv p8, iv p9, iv p10, rv a11, rv b19_0, rv b34_0, rv b52_0] [(.ref b34_0), (.ref b52_0)])) X52 hx rfl rfl rfl (pc0 := 251) (pc' := 254) (same := false) rfl (hb hby at_251) rfl (decide_eq_false fun q => (Ne.symm ne53) (Value.ref.inj q)) (by decide) (by decide) ?_
  show St p e below T52 m 254 #[iv p1, iv p2, iv p3, iv p4, iv p5, rv a6, iv (3 : Int32), iv p7, iv p8, iv p9, iv p10, rv a11, rv b19_0, rv b34_0, rv b52_0] [] _
  refine XS.aload X52.here hx rfl (hb hby at_254) rfl rfl ?_
  show St p e below T52 m 256 #[iv p1, iv p2, iv p3, iv p4, iv p5, rv a6, iv (3 : Int32), iv p7, iv p8, iv p9, iv p10, rv a11, rv b19_0, rv b34_0, rv b52_0] [(.ref b52_0)] _
  refine XS.aload X52.here hx rfl (hb hby at_256) rfl rfl ?_
  show St p e below T52 m 258 #[iv p1, iv p2, iv p3, iv p4, iv p5, rv a6, iv (3 : Int32), iv p7, iv p8, iv p9, iv p10, rv a11, rv b19_0, rv b34_0, rv b52_0] [(.ref a11), (.ref b52_0)] _
  refine Jvm.RoadKit.acmp (g := (mkF m 258 #[iv p1, iv p2, iv p3, iv p4, iv p5, rv a6, iv (3 : Int32), iv p7, iv p8, iv p9, iv p10, rv a11, rv b19_0, rv b34_0, rv b52_0] [(.ref a11), (.ref b52_0)])) X52 hx rfl rfl rfl (pc0 := 258) (pc' := 263) (same := false) rfl (hb hby at_258) rfl (decide_eq_false fun q => (Ne.symm ne54) (Value.ref.inj q)) (by decide) (by decide) ?_
  show St p e below T52 m 263 #[iv p1, iv p2, iv p3, iv p4, iv p5, rv a6, iv (3 : Int32), iv p7, iv p8, iv p9, iv p10, rv a11, rv b19_0, rv b34_0, rv b52_0] [] _
  refine XS.aload X52.here hx rfl (hb hby at_263) rfl rfl ?_
  show St p e below T52 m 265 #[iv p1, iv p2, iv p3, iv p4, iv p5, rv a6, iv (3 : Int32), iv p7, iv p8, iv p9, iv p10, rv a11, rv b19_0, rv b34_0, rv b52_0] [(.ref b52_0)] _
  refine XS.iload X52.here hx rfl (hb hby at_265) rfl ?_
  show St p e below T52 m 267 #[iv p1, iv p2, iv p3, iv p4, iv p5, rv a6, iv (3 : Int32), iv p7, iv p8, iv p9, iv p10, rv a11, rv b19_0, rv b34_0, rv b52_0] [(.int (3 : Int32)), (.ref b52_0)] _
  refine XS.iload X52.here hx rfl (hb hby at_267) rfl ?_
  show St p e below T52 m 269 #[iv p1, iv p2, iv p3, iv p4, iv p5, rv a6, iv (3 : Int32), iv p7, iv p8, iv p9, iv p10, rv a11, rv b19_0, rv b34_0, rv b52_0] [(.int p7), (.int (3 : Int32)), (.ref b52_0)] _
  refine XS.iload X52.here hx rfl (hb hby at_269) rfl ?_
  show St p e below T52 m 271 #[iv p1, iv p2, iv p3, iv p4, iv p5, rv a6, iv (3 : Int32), iv p7, iv p8, iv p9, iv p10, rv a11, rv b19_0, rv b34_0, rv b52_0] [(.int p8), (.int p7), (.int (3 : Int32)), (.ref b52_0)] _
  refine XS.iload X52.here hx rfl (hb hby at_271) rfl ?_
  show St p e below T52 m 273 #[iv p1, iv p2, iv p3, iv p4, iv p5, rv a6, iv (3 : Int32), iv p7, iv p8, iv p9, iv p10, rv a11, rv b19_0, rv b34_0, rv b52_0] [(.int p9), (.int p8), (.int p7), (.int (3 : Int32)), (.ref b52_0)] _
  refine st55 _ ?_
  show St p e below T55 m 276 #[iv p1, iv p2, iv p3, iv p4, iv p5, rv a6, iv (3 : Int32), iv p7, iv p8, iv p9, iv p10, rv a11, rv b19_0, rv b34_0, rv b52_0] [(.int (1 : Int32))] _
  refine XS.ifYes X55.here hx rfl (pc0 := 276) (pc' := 281) rfl (hb hby at_276) rfl ((if0 _ _).trans (feq (by decide : ¬ ((1 : Int32) = (0 : Int32)))).2) (by decide) (by decide) ?_
  exact kt
def law_4Q (Z : State) (wKind_SUCCESS : Addr) (wKind_RETRYABLE_FAILURE : Addr) (wKind_FINAL_FAILURE : Addr) (i0 : Int32) (i1 : Int32) (i2 : Int32) (i3 : Int32) (h0 : Heap) (n0 : Nat) (v : Option Value) (h : Heap) (L : List Loc) : Prop := v = some (.int (1 : Int32)) ∧ Fr n0 L
theorem law_4e (m : MethodId) (wKind_SUCCESS : Addr) (wKind_RETRYABLE_FAILURE : Addr) (wKind_FINAL_FAILURE : Addr) (i0 : Int32) (i1 : Int32) (i2 : Int32) (i3 : Int32) : entryFrame m #[(.int i0), (.int i1), (.int i2), (.int i3)] maxLocals = mkF m 0 #[iv i0, iv i1, iv i2, iv i3, .unset, .unset, .unset, .unset, .unset, .unset, .unset, .unset, .unset, .unset, .unset] [] := by first | (simp [entryFrame, mkF, argsToLocals, Value.category, maxLocals]; done) | rfl
set_option maxRecDepth 65536 in
set_option maxHeartbeats 40000000 in
theorem law_4 (l : Launch) (Z : State) (a0 : Array Value) (hw : HW a0 Z) (ws : List Jvm.Cond) (wKind_SUCCESS : Addr) (wKind_RETRYABLE_FAILURE : Addr) (wKind_FINAL_FAILURE : Addr) (B : Base Z wKind_SUCCESS wKind_RETRYABLE_FAILURE wKind_FINAL_FAILURE) (i0 : Int32) (i1 : Int32) (i2 : Int32) (i3 : Int32) (h0 : Heap) (n0 : Nat) (O0 : Old Z n0 h0) (pin0 : ((i0 &&& (2147483647 : Int32)) % (3 : Int32)) = (0 : Int32)) (pin1 : (i1 &&& (3 : Int32)) = (3 : Int32)) (hc4 : (nar .byte (i2.toInt8.toInt32)) = (i2.toInt8.toInt32)) (hc5 : (nar .byte ((i2 >>> ((8 : Int32) &&& 31)).toInt8.toInt32)) = ((i2 >>> ((8 : Int32) &&& 31)).toInt8.toInt32)) (hc6 : (nar .byte ((i2 >>> ((16 : Int32) &&& 31)).toInt8.toInt32)) = ((i2 >>> ((16 : Int32) &&& 31)).toInt8.toInt32)) :
    MetFree l x (head1 (Jvm.Cond.code x code maxLocals ret :: ws) room_1) (fun a U => a = #[(.int i0), (.int i1), (.int i2), (.int i3)] ∧ Z.Warmed39 U.vm ∧ U.heap = h0) (fun _ _ _ _ _ => True) (fun _ U o U' => ∃ v L, o = .returned v ∧ law_4Q Z wKind_SUCCESS wKind_RETRYABLE_FAILURE wKind_FINAL_FAILURE i0 i1 i2 i3 h0 n0 v U'.heap L ∧ ReturnedEndW U o U' L room_1.cells room_1.slots) := by
  refine MetFree.of_bodySF (plainFor_of_name pn_com_example_nervous_key_nervouskey_OutcomeOfPinLaw) hisR ?_
  intro p e s m args below meth c s₁ Bd hml0 hP hK
  obtain ⟨rfl, hZ, hh⟩ := hP
  have hx := Bd.exec
  have hby := Bd.bytes
  have hml : c.maxLocals = 15 := hml0
  have hown : s.vm.findClass "com/example/nervous_key/nervouskey/OutcomeOfPinLaw" = some m.cls := findClass_of_methodNamed Bd.named
  have hnm := (name_of_methodNamed Bd.named Bd.method).1
  have X0 : Stand p l e room_1 s m #[(.int i0), (.int i1), (.int i2), (.int i3)] below meth c s₁ [] 0 0 := Stand.of_body Bd
  have e0 : s₁.heap = h0 := by rw [← hh, Bd.state]; rfl
  have N0 := Fr.nil n0
  have pre0 : ∀ t, Steps p.tables e below (s₁.setTop (mkF m 0 #[iv i0, iv i1, iv i2, iv i3, .unset, .unset, .unset, .unset, .unset, .unset, .unset, .unset, .unset, .unset, .unset] [])) t → Steps p.tables e below (s₁.setTop (entryFrame m #[(.int i0), (.int i1), (.int i2), (.int i3)] maxLocals)) t := fun t k => castTop (law_4e m wKind_SUCCESS wKind_RETRYABLE_FAILURE wKind_FINAL_FAILURE i0 i1 i2 i3) k
  obtain ⟨T1, X1, e1, st1⟩ := getS2 X0 hx hZ hown (host := "") (Or.inl (ow hw 1 rfl)) Via.refl e0 (B.1.ext O0.2) (g := (mkF m 13 #[iv i0, iv i1, iv i2, iv i3, iv (0 : Int32), .unset, .unset, .unset, .unset, .unset, .unset, .unset, .unset, .unset, .unset] [])) rfl (hb hby at_13)
  obtain ⟨T2, h2, L2, b2_0, k2_0, X2, e2, N2, K2, lo2_1, f2_2, f2_3, st2⟩ := g0_7 i0 i1 i2 i3 (0 : Int32) wKind_SUCCESS (i2.toInt8.toInt32) ((i2 >>> ((8 : Int32) &&& 31)).toInt8.toInt32) ((i2 >>> ((16 : Int32) &&& 31)).toInt8.toInt32) ((i3 ||| (1 : Int32)).toInt8.toInt32) X1 hx hZ hw hby hml hown e1 O0 N0 (by decide) (by decide) (by decide) (by decide)
  have O_K2 : Old Z n0 h2 := O0.keep K2 all0
  have Kp_K2 : Keep h0 h2 [] := (Keep.refl h0 []).trans K2 all0
  have g3 : n0 ≤ b2_0 := Nat.le_trans (Nat.le_trans (Nat.le_of_eq O0.1.symm) O0.2.1) lo2_1
  obtain ⟨T7, h7, L7, vm7, b7_0, b7_1, b7_2, b7_3, X7, e7, hSq7, N7, K7, lo7_1, lo7_2, lo7_3, lo7_4, nq7_5, nq7_6, nq7_7, nq7_8, nq7_9, nq7_10, f7_11, f7_12, f7_13, f7_14, f7_15, f7_16, f7_17, f7_18, f7_19, f7_20, f7_21, st7⟩ := g0_8 i0 i1 i2 i3 (0 : Int32) wKind_SUCCESS (i2.toInt8.toInt32) ((i2 >>> ((8 : Int32) &&& 31)).toInt8.toInt32) ((i2 >>> ((16 : Int32) &&& 31)).toInt8.toInt32) ((i3 ||| (1 : Int32)).toInt8.toInt32) b2_0 k2_0 (nar .byte (i2.toInt8.toInt32)) (nar .byte ((i2 >>> ((8 : Int32) &&& 31)).toInt8.toInt32)) (nar .byte ((i2 >>> ((16 : Int32) &&& 31)).toInt8.toInt32)) X2 hx hZ hw hby hml hown e2 O_K2 N2 (by decide) (by decide) (by decide) (by decide) B.2.1 f2_3 f2_2 g3 hc4 hc5 hc6
  obtain ⟨Y7, hS7, hZ7, hown7⟩ := rebS (s := s) (vm0 := s.vm) (State.WarmedH.since (State.WarmedH.refl s) 0) (Nat.zero_le _) X7 hSq7 K7.1 hZ hown
  have z8 : h0.size ≤ b2_0 := Nat.le_trans (Keep.refl h0 []).1 lo2_1
  have O_K7 : Old Z n0 h7 := O_K2.keep K7 (allS g3 all0)
  have Kp_K7 : Keep h0 h7 [] := Kp_K2.trans K7 (allS (Or.inr z8) all0)
  obtain ⟨cq9, kq9, q9a, q9b, q9c⟩ := isOf hZ7 e7 f7_13
  obtain ⟨_, _, ⟨T9, L9, k9, n9⟩, -, X9, ⟨Lc9, hQ9, l9, y9, z9⟩, st9⟩ := Y7.virtualBack hx (y := y4) (z := y4) hown7 (mvT hZ7 (ow hw 44 rfl)) (mvT hZ7 (ow hw 45 rfl)) (notFace_of_selects (args := #[]) (mvT hZ7 (ow hw 47 rfl))) (mvT hZ7 (ow hw 47 rfl)) (mvT hZ7 (ow hw 46 rfl)) (by decide) (backOf (W := 0) (r4_1 l Z a0 hw [] b7_0 wKind_SUCCESS h7 n0 O_K7 f7_14) hZ7 (ow hw 48 rfl) (ow hw 7 rfl) (by decide) (by decide)) q9a q9c (g := (mkF m 283 #[iv i0, iv i1, iv i2, iv i3, iv (0 : Int32), rv wKind_SUCCESS, iv (3 : Int32), iv (i2.toInt8.toInt32), iv ((i2 >>> ((8 : Int32) &&& 31)).toInt8.toInt32), iv ((i2 >>> ((16 : Int32) &&& 31)).toInt8.toInt32), iv ((i3 ||| (1 : Int32)).toInt8.toInt32), rv b2_0, rv b7_0, rv b7_1, rv b7_2] [(.ref b7_0)])) rfl (by rw [hml]; rfl) (Steps.refl _) (argsL := []) (rest := []) (lenOf pd___Lcom_example_nervous_key_nervouskey_Outcome_Kind_ rfl) rfl (by show 2 * 0 + _ ≤ _; exact Nat.le_of_eq rfl) (hb hby at_283) (fun _ _ => ⟨rfl, e7, (by decide : 9 + 0 ≤ _), (by decide : 62 + 0 ≤ _)⟩)
  dsimp only [Pt.U, Pt.locs, Pt.cells, Pt.slots] at X9 l9 y9 z9 st9 hQ9
  subst l9 y9 z9
  obtain ⟨rfl, N9q, e9⟩ := hQ9
  have N9 := Fr.app N7 N9q
  obtain ⟨fs, hr, hrun, hended, hE⟩ := Stand.leaveW (s := s) (vm₁ := vm7) X9 hS7 (by rw [e9]; exact (Nat.le_refl _)) (v := some (.int (1 : Int32))) (fun h => by rw [Bd.returns] at h; cases h)
  refine ⟨_, _, pre0 _ ?_, hrun, hended, _, _, rfl, ?_, hE.1, hE.2.1, hE.2.2.1, hE.2.2.2.mono (by decide) (by decide)⟩
  · show St p e below s₁ m 0 #[iv i0, iv i1, iv i2, iv i3, .unset, .unset, .unset, .unset, .unset, .unset, .unset, .unset, .unset, .unset, .unset] [] _
    refine XS.iloadN X0.here hx rfl (hb hby at_0) rfl ?_
    show St p e below s₁ m 1 #[iv i0, iv i1, iv i2, iv i3, .unset, .unset, .unset, .unset, .unset, .unset, .unset, .unset, .unset, .unset, .unset] [(.int i0)] _
    refine X0.ldcInt hx hown (mvT hZ (ow hw 0 rfl)) (g := (mkF m 1 #[iv i0, iv i1, iv i2, iv i3, .unset, .unset, .unset, .unset, .unset, .unset, .unset, .unset, .unset, .unset, .unset] [(.int i0)])) rfl (hb hby at_1) _ ?_
    show St p e below s₁ m 3 #[iv i0, iv i1, iv i2, iv i3, .unset, .unset, .unset, .unset, .unset, .unset, .unset, .unset, .unset, .unset, .unset] [(.int (2147483647 : Int32)), (.int i0)] _
    refine XS.iand X0.here hx rfl (hb hby at_3) rfl ?_
    show St p e below s₁ m 4 #[iv i0, iv i1, iv i2, iv i3, .unset, .unset, .unset, .unset, .unset, .unset, .unset, .unset, .unset, .unset, .unset] [(.int (i0 &&& (2147483647 : Int32)))] _
    refine XS.iconst X0.here hx rfl (hb hby at_4) ?_
    show St p e below s₁ m 5 #[iv i0, iv i1, iv i2, iv i3, .unset, .unset, .unset, .unset, .unset, .unset, .unset, .unset, .unset, .unset, .unset] [(.int (3 : Int32)), (.int (i0 &&& (2147483647 : Int32)))] _
    refine Jvm.RoadKit.iremM (g := (mkF m 5 #[iv i0, iv i1, iv i2, iv i3, .unset, .unset, .unset, .unset, .unset, .unset, .unset, .unset, .unset, .unset, .unset] [(.int (3 : Int32)), (.int (i0 &&& (2147483647 : Int32)))])) X0 hx rfl (hb hby at_5) rfl (by decide : ¬ ((3 : Int32) = (0 : Int32))) ?_
    show St p e below s₁ m 6 #[iv i0, iv i1, iv i2, iv i3, .unset, .unset, .unset, .unset, .unset, .unset, .unset, .unset, .unset, .unset, .unset] [(.int ((i0 &&& (2147483647 : Int32)) % (3 : Int32)))] _
    rw [pin0]
    show St p e below s₁ m 6 #[iv i0, iv i1, iv i2, iv i3, .unset, .unset, .unset, .unset, .unset, .unset, .unset, .unset, .unset, .unset, .unset] [(.int (0 : Int32))] _
    refine XS.istore X0.here hx rfl (hb hby at_6) rfl (l' := #[iv i0, iv i1, iv i2, iv i3, iv (0 : Int32), .unset, .unset, .unset, .unset, .unset, .unset, .unset, .unset, .unset, .unset]) rfl ?_
    show St p e below s₁ m 8 #[iv i0, iv i1, iv i2, iv i3, iv (0 : Int32), .unset, .unset, .unset, .unset, .unset, .unset, .unset, .unset, .unset, .unset] [] _
    refine XS.iload X0.here hx rfl (hb hby at_8) rfl ?_
    show St p e below s₁ m 10 #[iv i0, iv i1, iv i2, iv i3, iv (0 : Int32), .unset, .unset, .unset, .unset, .unset, .unset, .unset, .unset, .unset, .unset] [(.int (0 : Int32))] _
    refine XS.ifNo X0.here hx rfl (hb hby at_10) rfl ((if0 _ _).trans (teq (rfl : (0 : Int32) = (0 : Int32))).2) ?_
    show St p e below s₁ m 13 #[iv i0, iv i1, iv i2, iv i3, iv (0 : Int32), .unset, .unset, .unset, .unset, .unset, .unset, .unset, .unset, .unset, .unset] [] _
    refine st1 _ ?_
    show St p e below T1 m 16 #[iv i0, iv i1, iv i2, iv i3, iv (0 : Int32), .unset, .unset, .unset, .unset, .unset, .unset, .unset, .unset, .unset, .unset] [(.ref wKind_SUCCESS)] _
    refine XS.astore X1.here hx rfl (hb hby at_16) rfl rfl (l' := #[iv i0, iv i1, iv i2, iv i3, iv (0 : Int32), rv wKind_SUCCESS, .unset, .unset, .unset, .unset, .unset, .unset, .unset, .unset, .unset]) rfl ?_
    show St p e below T1 m 18 #[iv i0, iv i1, iv i2, iv i3, iv (0 : Int32), rv wKind_SUCCESS, .unset, .unset, .unset, .unset, .unset, .unset, .unset, .unset, .unset] [] _
    refine XS.goto X1.here hx rfl (pc0 := 18) (pc' := 40) rfl (hb hby at_18) (by decide) (by decide) ?_
    show St p e below T1 m 40 #[iv i0, iv i1, iv i2, iv i3, iv (0 : Int32), rv wKind_SUCCESS, .unset, .unset, .unset, .unset, .unset, .unset, .unset, .unset, .unset] [] _
    refine XS.iloadN X1.here hx rfl (hb hby at_40) rfl ?_
    show St p e below T1 m 41 #[iv i0, iv i1, iv i2, iv i3, iv (0 : Int32), rv wKind_SUCCESS, .unset, .unset, .unset, .unset, .unset, .unset, .unset, .unset, .unset] [(.int i1)] _
    refine XS.iconst X1.here hx rfl (hb hby at_41) ?_
    show St p e below T1 m 42 #[iv i0, iv i1, iv i2, iv i3, iv (0 : Int32), rv wKind_SUCCESS, .unset, .unset, .unset, .unset, .unset, .unset, .unset, .unset, .unset] [(.int (3 : Int32)), (.int i1)] _
    refine XS.iand X1.here hx rfl (hb hby at_42) rfl ?_
    show St p e below T1 m 43 #[iv i0, iv i1, iv i2, iv i3, iv (0 : Int32), rv wKind_SUCCESS, .unset, .unset, .unset, .unset, .unset, .unset, .unset, .unset, .unset] [(.int (i1 &&& (3 : Int32)))] _
    rw [pin1]
    show St p e below T1 m 43 #[iv i0, iv i1, iv i2, iv i3, iv (0 : Int32), rv wKind_SUCCESS, .unset, .unset, .unset, .unset, .unset, .unset, .unset, .unset, .unset] [(.int (3 : Int32))] _
    refine XS.istore X1.here hx rfl (hb hby at_43) rfl (l' := #[iv i0, iv i1, iv i2, iv i3, iv (0 : Int32), rv wKind_SUCCESS, iv (3 : Int32), .unset, .unset, .unset, .unset, .unset, .unset, .unset, .unset]) rfl ?_
    show St p e below T1 m 45 #[iv i0, iv i1, iv i2, iv i3, iv (0 : Int32), rv wKind_SUCCESS, iv (3 : Int32), .unset, .unset, .unset, .unset, .unset, .unset, .unset, .unset] [] _
    refine XS.iloadN X1.here hx rfl (hb hby at_45) rfl ?_
    show St p e below T1 m 46 #[iv i0, iv i1, iv i2, iv i3, iv (0 : Int32), rv wKind_SUCCESS, iv (3 : Int32), .unset, .unset, .unset, .unset, .unset, .unset, .unset, .unset] [(.int i2)] _
    refine XS.i2b X1.here hx rfl (hb hby at_46) rfl ?_
    show St p e below T1 m 47 #[iv i0, iv i1, iv i2, iv i3, iv (0 : Int32), rv wKind_SUCCESS, iv (3 : Int32), .unset, .unset, .unset, .unset, .unset, .unset, .unset, .unset] [(.int (i2.toInt8.toInt32))] _
    refine XS.istore X1.here hx rfl (hb hby at_47) rfl (l' := #[iv i0, iv i1, iv i2, iv i3, iv (0 : Int32), rv wKind_SUCCESS, iv (3 : Int32), iv (i2.toInt8.toInt32), .unset, .unset, .unset, .unset, .unset, .unset, .unset]) rfl ?_
    show St p e below T1 m 49 #[iv i0, iv i1, iv i2, iv i3, iv (0 : Int32), rv wKind_SUCCESS, iv (3 : Int32), iv (i2.toInt8.toInt32), .unset, .unset, .unset, .unset, .unset, .unset, .unset] [] _
    refine XS.iloadN X1.here hx rfl (hb hby at_49) rfl ?_
    show St p e below T1 m 50 #[iv i0, iv i1, iv i2, iv i3, iv (0 : Int32), rv wKind_SUCCESS, iv (3 : Int32), iv (i2.toInt8.toInt32), .unset, .unset, .unset, .unset, .unset, .unset, .unset] [(.int i2)] _
    refine XS.bipush X1.here hx rfl (hb hby at_50) ?_
    show St p e below T1 m 52 #[iv i0, iv i1, iv i2, iv i3, iv (0 : Int32), rv wKind_SUCCESS, iv (3 : Int32), iv (i2.toInt8.toInt32), .unset, .unset, .unset, .unset, .unset, .unset, .unset] [(.int (8 : Int32)), (.int i2)] _
    refine XS.ishr X1.here hx rfl (hb hby at_52) rfl ?_
    show St p e below T1 m 53 #[iv i0, iv i1, iv i2, iv i3, iv (0 : Int32), rv wKind_SUCCESS, iv (3 : Int32), iv (i2.toInt8.toInt32), .unset, .unset, .unset, .unset, .unset, .unset, .unset] [(.int (i2 >>> ((8 : Int32) &&& 31)))] _
    refine XS.i2b X1.here hx rfl (hb hby at_53) rfl ?_
    show St p e below T1 m 54 #[iv i0, iv i1, iv i2, iv i3, iv (0 : Int32), rv wKind_SUCCESS, iv (3 : Int32), iv (i2.toInt8.toInt32), .unset, .unset, .unset, .unset, .unset, .unset, .unset] [(.int ((i2 >>> ((8 : Int32) &&& 31)).toInt8.toInt32))] _
    refine XS.istore X1.here hx rfl (hb hby at_54) rfl (l' := #[iv i0, iv i1, iv i2, iv i3, iv (0 : Int32), rv wKind_SUCCESS, iv (3 : Int32), iv (i2.toInt8.toInt32), iv ((i2 >>> ((8 : Int32) &&& 31)).toInt8.toInt32), .unset, .unset, .unset, .unset, .unset, .unset]) rfl ?_
    show St p e below T1 m 56 #[iv i0, iv i1, iv i2, iv i3, iv (0 : Int32), rv wKind_SUCCESS, iv (3 : Int32), iv (i2.toInt8.toInt32), iv ((i2 >>> ((8 : Int32) &&& 31)).toInt8.toInt32), .unset, .unset, .unset, .unset, .unset, .unset] [] _
    refine XS.iloadN X1.here hx rfl (hb hby at_56) rfl ?_
    show St p e below T1 m 57 #[iv i0, iv i1, iv i2, iv i3, iv (0 : Int32), rv wKind_SUCCESS, iv (3 : Int32), iv (i2.toInt8.toInt32), iv ((i2 >>> ((8 : Int32) &&& 31)).toInt8.toInt32), .unset, .unset, .unset, .unset, .unset, .unset] [(.int i2)] _
    refine XS.bipush X1.here hx rfl (hb hby at_57) ?_
    show St p e below T1 m 59 #[iv i0, iv i1, iv i2, iv i3, iv (0 : Int32), rv wKind_SUCCESS, iv (3 : Int32), iv (i2.toInt8.toInt32), iv ((i2 >>> ((8 : Int32) &&& 31)).toInt8.toInt32), .unset, .unset, .unset, .unset, .unset, .unset] [(.int (16 : Int32)), (.int i2)] _
    refine XS.ishr X1.here hx rfl (hb hby at_59) rfl ?_
    show St p e below T1 m 60 #[iv i0, iv i1, iv i2, iv i3, iv (0 : Int32), rv wKind_SUCCESS, iv (3 : Int32), iv (i2.toInt8.toInt32), iv ((i2 >>> ((8 : Int32) &&& 31)).toInt8.toInt32), .unset, .unset, .unset, .unset, .unset, .unset] [(.int (i2 >>> ((16 : Int32) &&& 31)))] _
    refine XS.i2b X1.here hx rfl (hb hby at_60) rfl ?_
    show St p e below T1 m 61 #[iv i0, iv i1, iv i2, iv i3, iv (0 : Int32), rv wKind_SUCCESS, iv (3 : Int32), iv (i2.toInt8.toInt32), iv ((i2 >>> ((8 : Int32) &&& 31)).toInt8.toInt32), .unset, .unset, .unset, .unset, .unset, .unset] [(.int ((i2 >>> ((16 : Int32) &&& 31)).toInt8.toInt32))] _
    refine XS.istore X1.here hx rfl (hb hby at_61) rfl (l' := #[iv i0, iv i1, iv i2, iv i3, iv (0 : Int32), rv wKind_SUCCESS, iv (3 : Int32), iv (i2.toInt8.toInt32), iv ((i2 >>> ((8 : Int32) &&& 31)).toInt8.toInt32), iv ((i2 >>> ((16 : Int32) &&& 31)).toInt8.toInt32), .unset, .unset, .unset, .unset, .unset]) rfl ?_
    show St p e below T1 m 63 #[iv i0, iv i1, iv i2, iv i3, iv (0 : Int32), rv wKind_SUCCESS, iv (3 : Int32), iv (i2.toInt8.toInt32), iv ((i2 >>> ((8 : Int32) &&& 31)).toInt8.toInt32), iv ((i2 >>> ((16 : Int32) &&& 31)).toInt8.toInt32), .unset, .unset, .unset, .unset, .unset] [] _
    refine XS.iloadN X1.here hx rfl (hb hby at_63) rfl ?_
    show St p e below T1 m 64 #[iv i0, iv i1, iv i2, iv i3, iv (0 : Int32), rv wKind_SUCCESS, iv (3 : Int32), iv (i2.toInt8.toInt32), iv ((i2 >>> ((8 : Int32) &&& 31)).toInt8.toInt32), iv ((i2 >>> ((16 : Int32) &&& 31)).toInt8.toInt32), .unset, .unset, .unset, .unset, .unset] [(.int i3)] _
    refine XS.iconst X1.here hx rfl (hb hby at_64) ?_
    show St p e below T1 m 65 #[iv i0, iv i1, iv i2, iv i3, iv (0 : Int32), rv wKind_SUCCESS, iv (3 : Int32), iv (i2.toInt8.toInt32), iv ((i2 >>> ((8 : Int32) &&& 31)).toInt8.toInt32), iv ((i2 >>> ((16 : Int32) &&& 31)).toInt8.toInt32), .unset, .unset, .unset, .unset, .unset] [(.int (1 : Int32)), (.int i3)] _
    refine XS.ior X1.here hx rfl (hb hby at_65) rfl ?_
    show St p e below T1 m 66 #[iv i0, iv i1, iv i2, iv i3, iv (0 : Int32), rv wKind_SUCCESS, iv (3 : Int32), iv (i2.toInt8.toInt32), iv ((i2 >>> ((8 : Int32) &&& 31)).toInt8.toInt32), iv ((i2 >>> ((16 : Int32) &&& 31)).toInt8.toInt32), .unset, .unset, .unset, .unset, .unset] [(.int (i3 ||| (1 : Int32)))] _
    refine XS.i2b X1.here hx rfl (hb hby at_66) rfl ?_
    show St p e below T1 m 67 #[iv i0, iv i1, iv i2, iv i3, iv (0 : Int32), rv wKind_SUCCESS, iv (3 : Int32), iv (i2.toInt8.toInt32), iv ((i2 >>> ((8 : Int32) &&& 31)).toInt8.toInt32), iv ((i2 >>> ((16 : Int32) &&& 31)).toInt8.toInt32), .unset, .unset, .unset, .unset, .unset] [(.int ((i3 ||| (1 : Int32)).toInt8.toInt32))] _
    refine XS.istore X1.here hx rfl (hb hby at_67) rfl (l' := #[iv i0, iv i1, iv i2, iv i3, iv (0 : Int32), rv wKind_SUCCESS, iv (3 : Int32), iv (i2.toInt8.toInt32), iv ((i2 >>> ((8 : Int32) &&& 31)).toInt8.toInt32), iv ((i2 >>> ((16 : Int32) &&& 31)).toInt8.toInt32), iv ((i3 ||| (1 : Int32)).toInt8.toInt32), .unset, .unset, .unset, .unset]) rfl ?_
    refine st2 _ ?_
    refine st7 _ ?_
    show St p e below T7 m 281 #[iv i0, iv i1, iv i2, iv i3, iv (0 : Int32), rv wKind_SUCCESS, iv (3 : Int32), iv (i2.toInt8.toInt32), iv ((i2 >>> ((8 : Int32) &&& 31)).toInt8.toInt32), iv ((i2 >>> ((16 : Int32) &&& 31)).toInt8.toInt32), iv ((i3 ||| (1 : Int32)).toInt8.toInt32), rv b2_0, rv b7_0, rv b7_1, rv b7_2] [] _
    refine XS.aload Y7.here hx rfl (hb hby at_281) rfl rfl ?_
    show St p e below T7 m 283 #[iv i0, iv i1, iv i2, iv i3, iv (0 : Int32), rv wKind_SUCCESS, iv (3 : Int32), iv (i2.toInt8.toInt32), iv ((i2 >>> ((8 : Int32) &&& 31)).toInt8.toInt32), iv ((i2 >>> ((16 : Int32) &&& 31)).toInt8.toInt32), iv ((i3 ||| (1 : Int32)).toInt8.toInt32), rv b2_0, rv b7_0, rv b7_1, rv b7_2] [(.ref b7_0)] _
    refine st9.trans ?_
    show St p e below T9 m 286 #[iv i0, iv i1, iv i2, iv i3, iv (0 : Int32), rv wKind_SUCCESS, iv (3 : Int32), iv (i2.toInt8.toInt32), iv ((i2 >>> ((8 : Int32) &&& 31)).toInt8.toInt32), iv ((i2 >>> ((16 : Int32) &&& 31)).toInt8.toInt32), iv ((i3 ||| (1 : Int32)).toInt8.toInt32), rv b2_0, rv b7_0, rv b7_1, rv b7_2] [(.ref wKind_SUCCESS)] _
    refine XS.aload X9.here hx rfl (hb hby at_286) rfl rfl ?_
    show St p e below T9 m 288 #[iv i0, iv i1, iv i2, iv i3, iv (0 : Int32), rv wKind_SUCCESS, iv (3 : Int32), iv (i2.toInt8.toInt32), iv ((i2 >>> ((8 : Int32) &&& 31)).toInt8.toInt32), iv ((i2 >>> ((16 : Int32) &&& 31)).toInt8.toInt32), iv ((i3 ||| (1 : Int32)).toInt8.toInt32), rv b2_0, rv b7_0, rv b7_1, rv b7_2] [(.ref wKind_SUCCESS), (.ref wKind_SUCCESS)] _
    refine Jvm.RoadKit.acmp (g := (mkF m 288 #[iv i0, iv i1, iv i2, iv i3, iv (0 : Int32), rv wKind_SUCCESS, iv (3 : Int32), iv (i2.toInt8.toInt32), iv ((i2 >>> ((8 : Int32) &&& 31)).toInt8.toInt32), iv ((i2 >>> ((16 : Int32) &&& 31)).toInt8.toInt32), iv ((i3 ||| (1 : Int32)).toInt8.toInt32), rv b2_0, rv b7_0, rv b7_1, rv b7_2] [(.ref wKind_SUCCESS), (.ref wKind_SUCCESS)])) X9 hx rfl rfl rfl (pc0 := 288) (pc' := 291) (same := true) rfl (hb hby at_288) rfl (decide_eq_true rfl) (by decide) (by decide) ?_
    show St p e below T9 m 291 #[iv i0, iv i1, iv i2, iv i3, iv (0 : Int32), rv wKind_SUCCESS, iv (3 : Int32), iv (i2.toInt8.toInt32), iv ((i2 >>> ((8 : Int32) &&& 31)).toInt8.toInt32), iv ((i2 >>> ((16 : Int32) &&& 31)).toInt8.toInt32), iv ((i3 ||| (1 : Int32)).toInt8.toInt32), rv b2_0, rv b7_0, rv b7_1, rv b7_2] [] _
    refine XS.iconst X9.here hx rfl (hb hby at_291) ?_
    show St p e below T9 m 292 #[iv i0, iv i1, iv i2, iv i3, iv (0 : Int32), rv wKind_SUCCESS, iv (3 : Int32), iv (i2.toInt8.toInt32), iv ((i2 >>> ((8 : Int32) &&& 31)).toInt8.toInt32), iv ((i2 >>> ((16 : Int32) &&& 31)).toInt8.toInt32), iv ((i3 ||| (1 : Int32)).toInt8.toInt32), rv b2_0, rv b7_0, rv b7_1, rv b7_2] [(.int (1 : Int32))] _
    refine XS.goto X9.here hx rfl (pc0 := 292) (pc' := 296) rfl (hb hby at_292) (by decide) (by decide) ?_
    show St p e below T9 m 296 #[iv i0, iv i1, iv i2, iv i3, iv (0 : Int32), rv wKind_SUCCESS, iv (3 : Int32), iv (i2.toInt8.toInt32), iv ((i2 >>> ((8 : Int32) &&& 31)).toInt8.toInt32), iv ((i2 >>> ((16 : Int32) &&& 31)).toInt8.toInt32), iv ((i3 ||| (1 : Int32)).toInt8.toInt32), rv b2_0, rv b7_0, rv b7_1, rv b7_2] [(.int (1 : Int32))] _
    exact retN X9 hx (t := .boolean) Bd.returns (by simp) (hb hby at_296) hr
  · show law_4Q Z wKind_SUCCESS wKind_RETRYABLE_FAILURE wKind_FINAL_FAILURE i0 i1 i2 i3 h0 n0 _ T9.heap _
    rw [e9]
    exact ⟨rfl, N9⟩
def law_5Q (Z : State) (wKind_SUCCESS : Addr) (wKind_RETRYABLE_FAILURE : Addr) (wKind_FINAL_FAILURE : Addr) (i0 : Int32) (i1 : Int32) (i2 : Int32) (i3 : Int32) (h0 : Heap) (n0 : Nat) (v : Option Value) (h : Heap) (L : List Loc) : Prop := v = some (.int (1 : Int32)) ∧ Fr n0 L
theorem law_5e (m : MethodId) (wKind_SUCCESS : Addr) (wKind_RETRYABLE_FAILURE : Addr) (wKind_FINAL_FAILURE : Addr) (i0 : Int32) (i1 : Int32) (i2 : Int32) (i3 : Int32) : entryFrame m #[(.int i0), (.int i1), (.int i2), (.int i3)] maxLocals = mkF m 0 #[iv i0, iv i1, iv i2, iv i3, .unset, .unset, .unset, .unset, .unset, .unset, .unset, .unset, .unset, .unset, .unset] [] := by first | (simp [entryFrame, mkF, argsToLocals, Value.category, maxLocals]; done) | rfl
set_option maxRecDepth 65536 in
set_option maxHeartbeats 40000000 in
theorem law_5 (l : Launch) (Z : State) (a0 : Array Value) (hw : HW a0 Z) (ws : List Jvm.Cond) (wKind_SUCCESS : Addr) (wKind_RETRYABLE_FAILURE : Addr) (wKind_FINAL_FAILURE : Addr) (B : Base Z wKind_SUCCESS wKind_RETRYABLE_FAILURE wKind_FINAL_FAILURE) (i0 : Int32) (i1 : Int32) (i2 : Int32) (i3 : Int32) (h0 : Heap) (n0 : Nat) (O0 : Old Z n0 h0) (pin0 : ((i0 &&& (2147483647 : Int32)) % (3 : Int32)) = (1 : Int32)) (pin1 : (i1 &&& (3 : Int32)) = (0 : Int32)) :
    MetFree l x (head1 (Jvm.Cond.code x code maxLocals ret :: ws) room_1) (fun a U => a = #[(.int i0), (.int i1), (.int i2), (.int i3)] ∧ Z.Warmed39 U.vm ∧ U.heap = h0) (fun _ _ _ _ _ => True) (fun _ U o U' => ∃ v L, o = .returned v ∧ law_5Q Z wKind_SUCCESS wKind_RETRYABLE_FAILURE wKind_FINAL_FAILURE i0 i1 i2 i3 h0 n0 v U'.heap L ∧ ReturnedEndW U o U' L room_1.cells room_1.slots) := by
  refine MetFree.of_bodySF (plainFor_of_name pn_com_example_nervous_key_nervouskey_OutcomeOfPinLaw) hisR ?_
  intro p e s m args below meth c s₁ Bd hml0 hP hK
  obtain ⟨rfl, hZ, hh⟩ := hP
  have hx := Bd.exec
  have hby := Bd.bytes
  have hml : c.maxLocals = 15 := hml0
  have hown : s.vm.findClass "com/example/nervous_key/nervouskey/OutcomeOfPinLaw" = some m.cls := findClass_of_methodNamed Bd.named
  have hnm := (name_of_methodNamed Bd.named Bd.method).1
  have X0 : Stand p l e room_1 s m #[(.int i0), (.int i1), (.int i2), (.int i3)] below meth c s₁ [] 0 0 := Stand.of_body Bd
  have e0 : s₁.heap = h0 := by rw [← hh, Bd.state]; rfl
  have N0 := Fr.nil n0
  have pre0 : ∀ t, Steps p.tables e below (s₁.setTop (mkF m 0 #[iv i0, iv i1, iv i2, iv i3, .unset, .unset, .unset, .unset, .unset, .unset, .unset, .unset, .unset, .unset, .unset] [])) t → Steps p.tables e below (s₁.setTop (entryFrame m #[(.int i0), (.int i1), (.int i2), (.int i3)] maxLocals)) t := fun t k => castTop (law_5e m wKind_SUCCESS wKind_RETRYABLE_FAILURE wKind_FINAL_FAILURE i0 i1 i2 i3) k
  obtain ⟨T1, X1, e1, st1⟩ := getS2 X0 hx hZ hown (host := "") (Or.inl (ow hw 58 rfl)) Via.refl e0 (B.2.2.1.ext O0.2) (g := (mkF m 27 #[iv i0, iv i1, iv i2, iv i3, iv (1 : Int32), .unset, .unset, .unset, .unset, .unset, .unset, .unset, .unset, .unset, .unset] [])) rfl (hb hby at_27)
  obtain ⟨T2, h2, L2, b2_0, k2_0, X2, e2, N2, K2, lo2_1, f2_2, f2_3, st2⟩ := g0_1 i0 i1 i2 i3 (1 : Int32) wKind_RETRYABLE_FAILURE (i2.toInt8.toInt32) ((i2 >>> ((8 : Int32) &&& 31)).toInt8.toInt32) ((i2 >>> ((16 : Int32) &&& 31)).toInt8.toInt32) ((i3 ||| (1 : Int32)).toInt8.toInt32) X1 hx hZ hw hby hml hown e1 O0 N0 (by decide) (by decide) (by decide) (by decide)
  have O_K2 : Old Z n0 h2 := O0.keep K2 all0
  have Kp_K2 : Keep h0 h2 [] := (Keep.refl h0 []).trans K2 all0
  obtain ⟨T3, h3, L3, vm3, b3_0, b3_1, b3_2, b3_3, X3, e3, hSq3, N3, K3, lo3_1, lo3_2, lo3_3, lo3_4, nq3_5, nq3_6, nq3_7, nq3_8, nq3_9, nq3_10, f3_11, f3_12, f3_13, f3_14, f3_15, f3_16, f3_17, f3_18, f3_19, st3⟩ := g0_2 i0 i1 i2 i3 (1 : Int32) wKind_RETRYABLE_FAILURE (i2.toInt8.toInt32) ((i2 >>> ((8 : Int32) &&& 31)).toInt8.toInt32) ((i2 >>> ((16 : Int32) &&& 31)).toInt8.toInt32) ((i3 ||| (1 : Int32)).toInt8.toInt32) b2_0 k2_0 X2 hx hZ hw hby hml hown e2 O_K2 N2 (by decide) (by decide) (by decide) (by decide) B.2.2.2.1 f2_3 f2_2
  obtain ⟨Y3, hS3, hZ3, hown3⟩ := rebS (s := s) (vm0 := s.vm) (State.WarmedH.since (State.WarmedH.refl s) 0) (Nat.zero_le _) X3 hSq3 K3.1 hZ hown
  have O_K3 : Old Z n0 h3 := O_K2.keep K3 all0
  have Kp_K3 : Keep h0 h3 [] := Kp_K2.trans K3 all0
  obtain ⟨cq4, kq4, q4a, q4b, q4c⟩ := isOf hZ3 e3 f3_11
  obtain ⟨_, _, ⟨T4, L4, k4, n4⟩, -, X4, ⟨Lc4, hQ4, l4, y4, z4⟩, st4⟩ := Y3.virtualBack hx (y := y4) (z := y4) hown3 (mvT hZ3 (ow hw 44 rfl)) (mvT hZ3 (ow hw 45 rfl)) (notFace_of_selects (args := #[]) (mvT hZ3 (ow hw 47 rfl))) (mvT hZ3 (ow hw 47 rfl)) (mvT hZ3 (ow hw 46 rfl)) (by decide) (backOf (W := 0) (r4_1 l Z a0 hw [] b3_0 wKind_RETRYABLE_FAILURE h3 n0 O_K3 f3_12) hZ3 (ow hw 48 rfl) (ow hw 7 rfl) (by decide) (by decide)) q4a q4c (g := (mkF m 283 #[iv i0, iv i1, iv i2, iv i3, iv (1 : Int32), rv wKind_RETRYABLE_FAILURE, iv (0 : Int32), iv (i2.toInt8.toInt32), iv ((i2 >>> ((8 : Int32) &&& 31)).toInt8.toInt32), iv ((i2 >>> ((16 : Int32) &&& 31)).toInt8.toInt32), iv ((i3 ||| (1 : Int32)).toInt8.toInt32), rv b2_0, rv b3_0, rv b3_1, rv b3_2] [(.ref b3_0)])) rfl (by rw [hml]; rfl) (Steps.refl _) (argsL := []) (rest := []) (lenOf pd___Lcom_example_nervous_key_nervouskey_Outcome_Kind_ rfl) rfl (by show 2 * 0 + _ ≤ _; exact Nat.le_of_eq rfl) (hb hby at_283) (fun _ _ => ⟨rfl, e3, (by decide : 9 + 0 ≤ _), (by decide : 50 + 0 ≤ _)⟩)
  dsimp only [Pt.U, Pt.locs, Pt.cells, Pt.slots] at X4 l4 y4 z4 st4 hQ4
  subst l4 y4 z4
  obtain ⟨rfl, N4q, e4⟩ := hQ4
  have N4 := Fr.app N3 N4q
  obtain ⟨fs, hr, hrun, hended, hE⟩ := Stand.leaveW (s := s) (vm₁ := vm3) X4 hS3 (by rw [e4]; exact (Nat.le_refl _)) (v := some (.int (1 : Int32))) (fun h => by rw [Bd.returns] at h; cases h)
  refine ⟨_, _, pre0 _ ?_, hrun, hended, _, _, rfl, ?_, hE.1, hE.2.1, hE.2.2.1, hE.2.2.2.mono (by decide) (by decide)⟩
  · show St p e below s₁ m 0 #[iv i0, iv i1, iv i2, iv i3, .unset, .unset, .unset, .unset, .unset, .unset, .unset, .unset, .unset, .unset, .unset] [] _
    refine XS.iloadN X0.here hx rfl (hb hby at_0) rfl ?_
    show St p e below s₁ m 1 #[iv i0, iv i1, iv i2, iv i3, .unset, .unset, .unset, .unset, .unset, .unset, .unset, .unset, .unset, .unset, .unset] [(.int i0)] _
    refine X0.ldcInt hx hown (mvT hZ (ow hw 0 rfl)) (g := (mkF m 1 #[iv i0, iv i1, iv i2, iv i3, .unset, .unset, .unset, .unset, .unset, .unset, .unset, .unset, .unset, .unset, .unset] [(.int i0)])) rfl (hb hby at_1) _ ?_
    show St p e below s₁ m 3 #[iv i0, iv i1, iv i2, iv i3, .unset, .unset, .unset, .unset, .unset, .unset, .unset, .unset, .unset, .unset, .unset] [(.int (2147483647 : Int32)), (.int i0)] _
    refine XS.iand X0.here hx rfl (hb hby at_3) rfl ?_
    show St p e below s₁ m 4 #[iv i0, iv i1, iv i2, iv i3, .unset, .unset, .unset, .unset, .unset, .unset, .unset, .unset, .unset, .unset, .unset] [(.int (i0 &&& (2147483647 : Int32)))] _
    refine XS.iconst X0.here hx rfl (hb hby at_4) ?_
    show St p e below s₁ m 5 #[iv i0, iv i1, iv i2, iv i3, .unset, .unset, .unset, .unset, .unset, .unset, .unset, .unset, .unset, .unset, .unset] [(.int (3 : Int32)), (.int (i0 &&& (2147483647 : Int32)))] _
    refine Jvm.RoadKit.iremM (g := (mkF m 5 #[iv i0, iv i1, iv i2, iv i3, .unset, .unset, .unset, .unset, .unset, .unset, .unset, .unset, .unset, .unset, .unset] [(.int (3 : Int32)), (.int (i0 &&& (2147483647 : Int32)))])) X0 hx rfl (hb hby at_5) rfl (by decide : ¬ ((3 : Int32) = (0 : Int32))) ?_
    show St p e below s₁ m 6 #[iv i0, iv i1, iv i2, iv i3, .unset, .unset, .unset, .unset, .unset, .unset, .unset, .unset, .unset, .unset, .unset] [(.int ((i0 &&& (2147483647 : Int32)) % (3 : Int32)))] _
    rw [pin0]
    show St p e below s₁ m 6 #[iv i0, iv i1, iv i2, iv i3, .unset, .unset, .unset, .unset, .unset, .unset, .unset, .unset, .unset, .unset, .unset] [(.int (1 : Int32))] _
    refine XS.istore X0.here hx rfl (hb hby at_6) rfl (l' := #[iv i0, iv i1, iv i2, iv i3, iv (1 : Int32), .unset, .unset, .unset, .unset, .unset, .unset, .unset, .unset, .unset, .unset]) rfl ?_
    show St p e below s₁ m 8 #[iv i0, iv i1, iv i2, iv i3, iv (1 : Int32), .unset, .unset, .unset, .unset, .unset, .unset, .unset, .unset, .unset, .unset] [] _
    refine XS.iload X0.here hx rfl (hb hby at_8) rfl ?_
    show St p e below s₁ m 10 #[iv i0, iv i1, iv i2, iv i3, iv (1 : Int32), .unset, .unset, .unset, .unset, .unset, .unset, .unset, .unset, .unset, .unset] [(.int (1 : Int32))] _
    refine XS.ifYes X0.here hx rfl (pc0 := 10) (pc' := 21) rfl (hb hby at_10) rfl ((if0 _ _).trans (feq (by decide : ¬ ((1 : Int32) = (0 : Int32)))).2) (by decide) (by decide) ?_
    show St p e below s₁ m 21 #[iv i0, iv i1, iv i2, iv i3, iv (1 : Int32), .unset, .unset, .unset, .unset, .unset, .unset, .unset, .unset, .unset, .unset] [] _
    refine XS.iload X0.here hx rfl (hb hby at_21) rfl ?_
    show St p e below s₁ m 23 #[iv i0, iv i1, iv i2, iv i3, iv (1 : Int32), .unset, .unset, .unset, .unset, .unset, .unset, .unset, .unset, .unset, .unset] [(.int (1 : Int32))] _
    refine XS.iconst X0.here hx rfl (hb hby at_23) ?_
    show St p e below s₁ m 24 #[iv i0, iv i1, iv i2, iv i3, iv (1 : Int32), .unset, .unset, .unset, .unset, .unset, .unset, .unset, .unset, .unset, .unset] [(.int (1 : Int32)), (.int (1 : Int32))] _
    refine XS.icmpNo X0.here hx rfl (hb hby at_24) rfl (teq (rfl : (1 : Int32) = (1 : Int32))).2 ?_
    show St p e below s₁ m 27 #[iv i0, iv i1, iv i2, iv i3, iv (1 : Int32), .unset, .unset, .unset, .unset, .unset, .unset, .unset, .unset, .unset, .unset] [] _
    refine st1 _ ?_
    show St p e below T1 m 30 #[iv i0, iv i1, iv i2, iv i3, iv (1 : Int32), .unset, .unset, .unset, .unset, .unset, .unset, .unset, .unset, .unset, .unset] [(.ref wKind_RETRYABLE_FAILURE)] _
    refine XS.astore X1.here hx rfl (hb hby at_30) rfl rfl (l' := #[iv i0, iv i1, iv i2, iv i3, iv (1 : Int32), rv wKind_RETRYABLE_FAILURE, .unset, .unset, .unset, .unset, .unset, .unset, .unset, .unset, .unset]) rfl ?_
    show St p e below T1 m 32 #[iv i0, iv i1, iv i2, iv i3, iv (1 : Int32), rv wKind_RETRYABLE_FAILURE, .unset, .unset, .unset, .unset, .unset, .unset, .unset, .unset, .unset] [] _
    refine XS.goto X1.here hx rfl (pc0 := 32) (pc' := 40) rfl (hb hby at_32) (by decide) (by decide) ?_
    show St p e below T1 m 40 #[iv i0, iv i1, iv i2, iv i3, iv (1 : Int32), rv wKind_RETRYABLE_FAILURE, .unset, .unset, .unset, .unset, .unset, .unset, .unset, .unset, .unset] [] _
    refine XS.iloadN X1.here hx rfl (hb hby at_40) rfl ?_
    show St p e below T1 m 41 #[iv i0, iv i1, iv i2, iv i3, iv (1 : Int32), rv wKind_RETRYABLE_FAILURE, .unset, .unset, .unset, .unset, .unset, .unset, .unset, .unset, .unset] [(.int i1)] _
    refine XS.iconst X1.here hx rfl (hb hby at_41) ?_
    show St p e below T1 m 42 #[iv i0, iv i1, iv i2, iv i3, iv (1 : Int32), rv wKind_RETRYABLE_FAILURE, .unset, .unset, .unset, .unset, .unset, .unset, .unset, .unset, .unset] [(.int (3 : Int32)), (.int i1)] _
    refine XS.iand X1.here hx rfl (hb hby at_42) rfl ?_
    show St p e below T1 m 43 #[iv i0, iv i1, iv i2, iv i3, iv (1 : Int32), rv wKind_RETRYABLE_FAILURE, .unset, .unset, .unset, .unset, .unset, .unset, .unset, .unset, .unset] [(.int (i1 &&& (3 : Int32)))] _
    rw [pin1]
    show St p e below T1 m 43 #[iv i0, iv i1, iv i2, iv i3, iv (1 : Int32), rv wKind_RETRYABLE_FAILURE, .unset, .unset, .unset, .unset, .unset, .unset, .unset, .unset, .unset] [(.int (0 : Int32))] _
    refine XS.istore X1.here hx rfl (hb hby at_43) rfl (l' := #[iv i0, iv i1, iv i2, iv i3, iv (1 : Int32), rv wKind_RETRYABLE_FAILURE, iv (0 : Int32), .unset, .unset, .unset, .unset, .unset, .unset, .unset, .unset]) rfl ?_
    show St p e below T1 m 45 #[iv i0, iv i1, iv i2, iv i3, iv (1 : Int32), rv wKind_RETRYABLE_FAILURE, iv (0 : Int32), .unset, .unset, .unset, .unset, .unset, .unset, .unset, .unset] [] _
    refine XS.iloadN X1.here hx rfl (hb hby at_45) rfl ?_
    show St p e below T1 m 46 #[iv i0, iv i1, iv i2, iv i3, iv (1 : Int32), rv wKind_RETRYABLE_FAILURE, iv (0 : Int32), .unset, .unset, .unset, .unset, .unset, .unset, .unset, .unset] [(.int i2)] _
    refine XS.i2b X1.here hx rfl (hb hby at_46) rfl ?_
    show St p e below T1 m 47 #[iv i0, iv i1, iv i2, iv i3, iv (1 : Int32), rv wKind_RETRYABLE_FAILURE, iv (0 : Int32), .unset, .unset, .unset, .unset, .unset, .unset, .unset, .unset] [(.int (i2.toInt8.toInt32))] _
    refine XS.istore X1.here hx rfl (hb hby at_47) rfl (l' := #[iv i0, iv i1, iv i2, iv i3, iv (1 : Int32), rv wKind_RETRYABLE_FAILURE, iv (0 : Int32), iv (i2.toInt8.toInt32), .unset, .unset, .unset, .unset, .unset, .unset, .unset]) rfl ?_
    show St p e below T1 m 49 #[iv i0, iv i1, iv i2, iv i3, iv (1 : Int32), rv wKind_RETRYABLE_FAILURE, iv (0 : Int32), iv (i2.toInt8.toInt32), .unset, .unset, .unset, .unset, .unset, .unset, .unset] [] _
    refine XS.iloadN X1.here hx rfl (hb hby at_49) rfl ?_
    show St p e below T1 m 50 #[iv i0, iv i1, iv i2, iv i3, iv (1 : Int32), rv wKind_RETRYABLE_FAILURE, iv (0 : Int32), iv (i2.toInt8.toInt32), .unset, .unset, .unset, .unset, .unset, .unset, .unset] [(.int i2)] _
    refine XS.bipush X1.here hx rfl (hb hby at_50) ?_
    show St p e below T1 m 52 #[iv i0, iv i1, iv i2, iv i3, iv (1 : Int32), rv wKind_RETRYABLE_FAILURE, iv (0 : Int32), iv (i2.toInt8.toInt32), .unset, .unset, .unset, .unset, .unset, .unset, .unset] [(.int (8 : Int32)), (.int i2)] _
    refine XS.ishr X1.here hx rfl (hb hby at_52) rfl ?_
    show St p e below T1 m 53 #[iv i0, iv i1, iv i2, iv i3, iv (1 : Int32), rv wKind_RETRYABLE_FAILURE, iv (0 : Int32), iv (i2.toInt8.toInt32), .unset, .unset, .unset, .unset, .unset, .unset, .unset] [(.int (i2 >>> ((8 : Int32) &&& 31)))] _
    refine XS.i2b X1.here hx rfl (hb hby at_53) rfl ?_
    show St p e below T1 m 54 #[iv i0, iv i1, iv i2, iv i3, iv (1 : Int32), rv wKind_RETRYABLE_FAILURE, iv (0 : Int32), iv (i2.toInt8.toInt32), .unset, .unset, .unset, .unset, .unset, .unset, .unset] [(.int ((i2 >>> ((8 : Int32) &&& 31)).toInt8.toInt32))] _
    refine XS.istore X1.here hx rfl (hb hby at_54) rfl (l' := #[iv i0, iv i1, iv i2, iv i3, iv (1 : Int32), rv wKind_RETRYABLE_FAILURE, iv (0 : Int32), iv (i2.toInt8.toInt32), iv ((i2 >>> ((8 : Int32) &&& 31)).toInt8.toInt32), .unset, .unset, .unset, .unset, .unset, .unset]) rfl ?_
    show St p e below T1 m 56 #[iv i0, iv i1, iv i2, iv i3, iv (1 : Int32), rv wKind_RETRYABLE_FAILURE, iv (0 : Int32), iv (i2.toInt8.toInt32), iv ((i2 >>> ((8 : Int32) &&& 31)).toInt8.toInt32), .unset, .unset, .unset, .unset, .unset, .unset] [] _
    refine XS.iloadN X1.here hx rfl (hb hby at_56) rfl ?_
    show St p e below T1 m 57 #[iv i0, iv i1, iv i2, iv i3, iv (1 : Int32), rv wKind_RETRYABLE_FAILURE, iv (0 : Int32), iv (i2.toInt8.toInt32), iv ((i2 >>> ((8 : Int32) &&& 31)).toInt8.toInt32), .unset, .unset, .unset, .unset, .unset, .unset] [(.int i2)] _
    refine XS.bipush X1.here hx rfl (hb hby at_57) ?_
    show St p e below T1 m 59 #[iv i0, iv i1, iv i2, iv i3, iv (1 : Int32), rv wKind_RETRYABLE_FAILURE, iv (0 : Int32), iv (i2.toInt8.toInt32), iv ((i2 >>> ((8 : Int32) &&& 31)).toInt8.toInt32), .unset, .unset, .unset, .unset, .unset, .unset] [(.int (16 : Int32)), (.int i2)] _
    refine XS.ishr X1.here hx rfl (hb hby at_59) rfl ?_
    show St p e below T1 m 60 #[iv i0, iv i1, iv i2, iv i3, iv (1 : Int32), rv wKind_RETRYABLE_FAILURE, iv (0 : Int32), iv (i2.toInt8.toInt32), iv ((i2 >>> ((8 : Int32) &&& 31)).toInt8.toInt32), .unset, .unset, .unset, .unset, .unset, .unset] [(.int (i2 >>> ((16 : Int32) &&& 31)))] _
    refine XS.i2b X1.here hx rfl (hb hby at_60) rfl ?_
    show St p e below T1 m 61 #[iv i0, iv i1, iv i2, iv i3, iv (1 : Int32), rv wKind_RETRYABLE_FAILURE, iv (0 : Int32), iv (i2.toInt8.toInt32), iv ((i2 >>> ((8 : Int32) &&& 31)).toInt8.toInt32), .unset, .unset, .unset, .unset, .unset, .unset] [(.int ((i2 >>> ((16 : Int32) &&& 31)).toInt8.toInt32))] _
    refine XS.istore X1.here hx rfl (hb hby at_61) rfl (l' := #[iv i0, iv i1, iv i2, iv i3, iv (1 : Int32), rv wKind_RETRYABLE_FAILURE, iv (0 : Int32), iv (i2.toInt8.toInt32), iv ((i2 >>> ((8 : Int32) &&& 31)).toInt8.toInt32), iv ((i2 >>> ((16 : Int32) &&& 31)).toInt8.toInt32), .unset, .unset, .unset, .unset, .unset]) rfl ?_
    show St p e below T1 m 63 #[iv i0, iv i1, iv i2, iv i3, iv (1 : Int32), rv wKind_RETRYABLE_FAILURE, iv (0 : Int32), iv (i2.toInt8.toInt32), iv ((i2 >>> ((8 : Int32) &&& 31)).toInt8.toInt32), iv ((i2 >>> ((16 : Int32) &&& 31)).toInt8.toInt32), .unset, .unset, .unset, .unset, .unset] [] _
    refine XS.iloadN X1.here hx rfl (hb hby at_63) rfl ?_
    show St p e below T1 m 64 #[iv i0, iv i1, iv i2, iv i3, iv (1 : Int32), rv wKind_RETRYABLE_FAILURE, iv (0 : Int32), iv (i2.toInt8.toInt32), iv ((i2 >>> ((8 : Int32) &&& 31)).toInt8.toInt32), iv ((i2 >>> ((16 : Int32) &&& 31)).toInt8.toInt32), .unset, .unset, .unset, .unset, .unset] [(.int i3)] _
    refine XS.iconst X1.here hx rfl (hb hby at_64) ?_
    show St p e below T1 m 65 #[iv i0, iv i1, iv i2, iv i3, iv (1 : Int32), rv wKind_RETRYABLE_FAILURE, iv (0 : Int32), iv (i2.toInt8.toInt32), iv ((i2 >>> ((8 : Int32) &&& 31)).toInt8.toInt32), iv ((i2 >>> ((16 : Int32) &&& 31)).toInt8.toInt32), .unset, .unset, .unset, .unset, .unset] [(.int (1 : Int32)), (.int i3)] _
    refine XS.ior X1.here hx rfl (hb hby at_65) rfl ?_
    show St p e below T1 m 66 #[iv i0, iv i1, iv i2, iv i3, iv (1 : Int32), rv wKind_RETRYABLE_FAILURE, iv (0 : Int32), iv (i2.toInt8.toInt32), iv ((i2 >>> ((8 : Int32) &&& 31)).toInt8.toInt32), iv ((i2 >>> ((16 : Int32) &&& 31)).toInt8.toInt32), .unset, .unset, .unset, .unset, .unset] [(.int (i3 ||| (1 : Int32)))] _
    refine XS.i2b X1.here hx rfl (hb hby at_66) rfl ?_
    show St p e below T1 m 67 #[iv i0, iv i1, iv i2, iv i3, iv (1 : Int32), rv wKind_RETRYABLE_FAILURE, iv (0 : Int32), iv (i2.toInt8.toInt32), iv ((i2 >>> ((8 : Int32) &&& 31)).toInt8.toInt32), iv ((i2 >>> ((16 : Int32) &&& 31)).toInt8.toInt32), .unset, .unset, .unset, .unset, .unset] [(.int ((i3 ||| (1 : Int32)).toInt8.toInt32))] _
    refine XS.istore X1.here hx rfl (hb hby at_67) rfl (l' := #[iv i0, iv i1, iv i2, iv i3, iv (1 : Int32), rv wKind_RETRYABLE_FAILURE, iv (0 : Int32), iv (i2.toInt8.toInt32), iv ((i2 >>> ((8 : Int32) &&& 31)).toInt8.toInt32), iv ((i2 >>> ((16 : Int32) &&& 31)).toInt8.toInt32), iv ((i3 ||| (1 : Int32)).toInt8.toInt32), .unset, .unset, .unset, .unset]) rfl ?_
    refine st2 _ ?_
    refine st3 _ ?_
    show St p e below T3 m 281 #[iv i0, iv i1, iv i2, iv i3, iv (1 : Int32), rv wKind_RETRYABLE_FAILURE, iv (0 : Int32), iv (i2.toInt8.toInt32), iv ((i2 >>> ((8 : Int32) &&& 31)).toInt8.toInt32), iv ((i2 >>> ((16 : Int32) &&& 31)).toInt8.toInt32), iv ((i3 ||| (1 : Int32)).toInt8.toInt32), rv b2_0, rv b3_0, rv b3_1, rv b3_2] [] _
    refine XS.aload Y3.here hx rfl (hb hby at_281) rfl rfl ?_
    show St p e below T3 m 283 #[iv i0, iv i1, iv i2, iv i3, iv (1 : Int32), rv wKind_RETRYABLE_FAILURE, iv (0 : Int32), iv (i2.toInt8.toInt32), iv ((i2 >>> ((8 : Int32) &&& 31)).toInt8.toInt32), iv ((i2 >>> ((16 : Int32) &&& 31)).toInt8.toInt32), iv ((i3 ||| (1 : Int32)).toInt8.toInt32), rv b2_0, rv b3_0, rv b3_1, rv b3_2] [(.ref b3_0)] _
    refine st4.trans ?_
    show St p e below T4 m 286 #[iv i0, iv i1, iv i2, iv i3, iv (1 : Int32), rv wKind_RETRYABLE_FAILURE, iv (0 : Int32), iv (i2.toInt8.toInt32), iv ((i2 >>> ((8 : Int32) &&& 31)).toInt8.toInt32), iv ((i2 >>> ((16 : Int32) &&& 31)).toInt8.toInt32), iv ((i3 ||| (1 : Int32)).toInt8.toInt32), rv b2_0, rv b3_0, rv b3_1, rv b3_2] [(.ref wKind_RETRYABLE_FAILURE)] _
    refine XS.aload X4.here hx rfl (hb hby at_286) rfl rfl ?_
    show St p e below T4 m 288 #[iv i0, iv i1, iv i2, iv i3, iv (1 : Int32), rv wKind_RETRYABLE_FAILURE, iv (0 : Int32), iv (i2.toInt8.toInt32), iv ((i2 >>> ((8 : Int32) &&& 31)).toInt8.toInt32), iv ((i2 >>> ((16 : Int32) &&& 31)).toInt8.toInt32), iv ((i3 ||| (1 : Int32)).toInt8.toInt32), rv b2_0, rv b3_0, rv b3_1, rv b3_2] [(.ref wKind_RETRYABLE_FAILURE), (.ref wKind_RETRYABLE_FAILURE)] _
    refine Jvm.RoadKit.acmp (g := (mkF m 288 #[iv i0, iv i1, iv i2, iv i3, iv (1 : Int32), rv wKind_RETRYABLE_FAILURE, iv (0 : Int32), iv (i2.toInt8.toInt32), iv ((i2 >>> ((8 : Int32) &&& 31)).toInt8.toInt32), iv ((i2 >>> ((16 : Int32) &&& 31)).toInt8.toInt32), iv ((i3 ||| (1 : Int32)).toInt8.toInt32), rv b2_0, rv b3_0, rv b3_1, rv b3_2] [(.ref wKind_RETRYABLE_FAILURE), (.ref wKind_RETRYABLE_FAILURE)])) X4 hx rfl rfl rfl (pc0 := 288) (pc' := 291) (same := true) rfl (hb hby at_288) rfl (decide_eq_true rfl) (by decide) (by decide) ?_
    show St p e below T4 m 291 #[iv i0, iv i1, iv i2, iv i3, iv (1 : Int32), rv wKind_RETRYABLE_FAILURE, iv (0 : Int32), iv (i2.toInt8.toInt32), iv ((i2 >>> ((8 : Int32) &&& 31)).toInt8.toInt32), iv ((i2 >>> ((16 : Int32) &&& 31)).toInt8.toInt32), iv ((i3 ||| (1 : Int32)).toInt8.toInt32), rv b2_0, rv b3_0, rv b3_1, rv b3_2] [] _
    refine XS.iconst X4.here hx rfl (hb hby at_291) ?_
    show St p e below T4 m 292 #[iv i0, iv i1, iv i2, iv i3, iv (1 : Int32), rv wKind_RETRYABLE_FAILURE, iv (0 : Int32), iv (i2.toInt8.toInt32), iv ((i2 >>> ((8 : Int32) &&& 31)).toInt8.toInt32), iv ((i2 >>> ((16 : Int32) &&& 31)).toInt8.toInt32), iv ((i3 ||| (1 : Int32)).toInt8.toInt32), rv b2_0, rv b3_0, rv b3_1, rv b3_2] [(.int (1 : Int32))] _
    refine XS.goto X4.here hx rfl (pc0 := 292) (pc' := 296) rfl (hb hby at_292) (by decide) (by decide) ?_
    show St p e below T4 m 296 #[iv i0, iv i1, iv i2, iv i3, iv (1 : Int32), rv wKind_RETRYABLE_FAILURE, iv (0 : Int32), iv (i2.toInt8.toInt32), iv ((i2 >>> ((8 : Int32) &&& 31)).toInt8.toInt32), iv ((i2 >>> ((16 : Int32) &&& 31)).toInt8.toInt32), iv ((i3 ||| (1 : Int32)).toInt8.toInt32), rv b2_0, rv b3_0, rv b3_1, rv b3_2] [(.int (1 : Int32))] _
    exact retN X4 hx (t := .boolean) Bd.returns (by simp) (hb hby at_296) hr
  · show law_5Q Z wKind_SUCCESS wKind_RETRYABLE_FAILURE wKind_FINAL_FAILURE i0 i1 i2 i3 h0 n0 _ T4.heap _
    rw [e4]
    exact ⟨rfl, N4⟩
def law_6Q (Z : State) (wKind_SUCCESS : Addr) (wKind_RETRYABLE_FAILURE : Addr) (wKind_FINAL_FAILURE : Addr) (i0 : Int32) (i1 : Int32) (i2 : Int32) (i3 : Int32) (h0 : Heap) (n0 : Nat) (v : Option Value) (h : Heap) (L : List Loc) : Prop := v = some (.int (1 : Int32)) ∧ Fr n0 L
theorem law_6e (m : MethodId) (wKind_SUCCESS : Addr) (wKind_RETRYABLE_FAILURE : Addr) (wKind_FINAL_FAILURE : Addr) (i0 : Int32) (i1 : Int32) (i2 : Int32) (i3 : Int32) : entryFrame m #[(.int i0), (.int i1), (.int i2), (.int i3)] maxLocals = mkF m 0 #[iv i0, iv i1, iv i2, iv i3, .unset, .unset, .unset, .unset, .unset, .unset, .unset, .unset, .unset, .unset, .unset] [] := by first | (simp [entryFrame, mkF, argsToLocals, Value.category, maxLocals]; done) | rfl
set_option maxRecDepth 65536 in
set_option maxHeartbeats 40000000 in
theorem law_6 (l : Launch) (Z : State) (a0 : Array Value) (hw : HW a0 Z) (ws : List Jvm.Cond) (wKind_SUCCESS : Addr) (wKind_RETRYABLE_FAILURE : Addr) (wKind_FINAL_FAILURE : Addr) (B : Base Z wKind_SUCCESS wKind_RETRYABLE_FAILURE wKind_FINAL_FAILURE) (i0 : Int32) (i1 : Int32) (i2 : Int32) (i3 : Int32) (h0 : Heap) (n0 : Nat) (O0 : Old Z n0 h0) (pin0 : ((i0 &&& (2147483647 : Int32)) % (3 : Int32)) = (1 : Int32)) (pin1 : (i1 &&& (3 : Int32)) = (1 : Int32)) (hc4 : (nar .byte (i2.toInt8.toInt32)) = (i2.toInt8.toInt32)) :
    MetFree l x (head1 (Jvm.Cond.code x code maxLocals ret :: ws) room_1) (fun a U => a = #[(.int i0), (.int i1), (.int i2), (.int i3)] ∧ Z.Warmed39 U.vm ∧ U.heap = h0) (fun _ _ _ _ _ => True) (fun _ U o U' => ∃ v L, o = .returned v ∧ law_6Q Z wKind_SUCCESS wKind_RETRYABLE_FAILURE wKind_FINAL_FAILURE i0 i1 i2 i3 h0 n0 v U'.heap L ∧ ReturnedEndW U o U' L room_1.cells room_1.slots) := by
  refine MetFree.of_bodySF (plainFor_of_name pn_com_example_nervous_key_nervouskey_OutcomeOfPinLaw) hisR ?_
  intro p e s m args below meth c s₁ Bd hml0 hP hK
  obtain ⟨rfl, hZ, hh⟩ := hP
  have hx := Bd.exec
  have hby := Bd.bytes
  have hml : c.maxLocals = 15 := hml0
  have hown : s.vm.findClass "com/example/nervous_key/nervouskey/OutcomeOfPinLaw" = some m.cls := findClass_of_methodNamed Bd.named
  have hnm := (name_of_methodNamed Bd.named Bd.method).1
  have X0 : Stand p l e room_1 s m #[(.int i0), (.int i1), (.int i2), (.int i3)] below meth c s₁ [] 0 0 := Stand.of_body Bd
  have e0 : s₁.heap = h0 := by rw [← hh, Bd.state]; rfl
  have N0 := Fr.nil n0
  have pre0 : ∀ t, Steps p.tables e below (s₁.setTop (mkF m 0 #[iv i0, iv i1, iv i2, iv i3, .unset, .unset, .unset, .unset, .unset, .unset, .unset, .unset, .unset, .unset, .unset] [])) t → Steps p.tables e below (s₁.setTop (entryFrame m #[(.int i0), (.int i1), (.int i2), (.int i3)] maxLocals)) t := fun t k => castTop (law_6e m wKind_SUCCESS wKind_RETRYABLE_FAILURE wKind_FINAL_FAILURE i0 i1 i2 i3) k
  obtain ⟨T1, X1, e1, st1⟩ := getS2 X0 hx hZ hown (host := "") (Or.inl (ow hw 58 rfl)) Via.refl e0 (B.2.2.1.ext O0.2) (g := (mkF m 27 #[iv i0, iv i1, iv i2, iv i3, iv (1 : Int32), .unset, .unset, .unset, .unset, .unset, .unset, .unset, .unset, .unset, .unset] [])) rfl (hb hby at_27)
  obtain ⟨T2, h2, L2, b2_0, k2_0, X2, e2, N2, K2, lo2_1, f2_2, f2_3, st2⟩ := g0_3 i0 i1 i2 i3 (1 : Int32) wKind_RETRYABLE_FAILURE (i2.toInt8.toInt32) ((i2 >>> ((8 : Int32) &&& 31)).toInt8.toInt32) ((i2 >>> ((16 : Int32) &&& 31)).toInt8.toInt32) ((i3 ||| (1 : Int32)).toInt8.toInt32) X1 hx hZ hw hby hml hown e1 O0 N0 (by decide) (by decide) (by decide) (by decide)
  have O_K2 : Old Z n0 h2 := O0.keep K2 all0
  have Kp_K2 : Keep h0 h2 [] := (Keep.refl h0 []).trans K2 all0
  have g3 : n0 ≤ b2_0 := Nat.le_trans (Nat.le_trans (Nat.le_of_eq O0.1.symm) O0.2.1) lo2_1
  obtain ⟨T5, h5, L5, vm5, b5_0, b5_1, b5_2, b5_3, X5, e5, hSq5, N5, K5, lo5_1, lo5_2, lo5_3, lo5_4, nq5_5, nq5_6, nq5_7, nq5_8, nq5_9, nq5_10, f5_11, f5_12, f5_13, f5_14, f5_15, f5_16, f5_17, f5_18, f5_19, f5_20, f5_21, st5⟩ := g0_4 i0 i1 i2 i3 (1 : Int32) wKind_RETRYABLE_FAILURE (i2.toInt8.toInt32) ((i2 >>> ((8 : Int32) &&& 31)).toInt8.toInt32) ((i2 >>> ((16 : Int32) &&& 31)).toInt8.toInt32) ((i3 ||| (1 : Int32)).toInt8.toInt32) b2_0 k2_0 (nar .byte (i2.toInt8.toInt32)) X2 hx hZ hw hby hml hown e2 O_K2 N2 (by decide) (by decide) (by decide) (by decide) B.2.2.2.1 f2_3 f2_2 g3 hc4
  obtain ⟨Y5, hS5, hZ5, hown5⟩ := rebS (s := s) (vm0 := s.vm) (State.WarmedH.since (State.WarmedH.refl s) 0) (Nat.zero_le _) X5 hSq5 K5.1 hZ hown
  have z6 : h0.size ≤ b2_0 := Nat.le_trans (Keep.refl h0 []).1 lo2_1
  have O_K5 : Old Z n0 h5 := O_K2.keep K5 (allS g3 all0)
  have Kp_K5 : Keep h0 h5 [] := Kp_K2.trans K5 (allS (Or.inr z6) all0)
  obtain ⟨cq7, kq7, q7a, q7b, q7c⟩ := isOf hZ5 e5 f5_13
  obtain ⟨_, _, ⟨T7, L7, k7, n7⟩, -, X7, ⟨Lc7, hQ7, l7, y7, z7⟩, st7⟩ := Y5.virtualBack hx (y := y4) (z := y4) hown5 (mvT hZ5 (ow hw 44 rfl)) (mvT hZ5 (ow hw 45 rfl)) (notFace_of_selects (args := #[]) (mvT hZ5 (ow hw 47 rfl))) (mvT hZ5 (ow hw 47 rfl)) (mvT hZ5 (ow hw 46 rfl)) (by decide) (backOf (W := 0) (r4_1 l Z a0 hw [] b5_0 wKind_RETRYABLE_FAILURE h5 n0 O_K5 f5_14) hZ5 (ow hw 48 rfl) (ow hw 7 rfl) (by decide) (by decide)) q7a q7c (g := (mkF m 283 #[iv i0, iv i1, iv i2, iv i3, iv (1 : Int32), rv wKind_RETRYABLE_FAILURE, iv (1 : Int32), iv (i2.toInt8.toInt32), iv ((i2 >>> ((8 : Int32) &&& 31)).toInt8.toInt32), iv ((i2 >>> ((16 : Int32) &&& 31)).toInt8.toInt32), iv ((i3 ||| (1 : Int32)).toInt8.toInt32), rv b2_0, rv b5_0, rv b5_1, rv b5_2] [(.ref b5_0)])) rfl (by rw [hml]; rfl) (Steps.refl _) (argsL := []) (rest := []) (lenOf pd___Lcom_example_nervous_key_nervouskey_Outcome_Kind_ rfl) rfl (by show 2 * 0 + _ ≤ _; exact Nat.le_of_eq rfl) (hb hby at_283) (fun _ _ => ⟨rfl, e5, (by decide : 9 + 0 ≤ _), (by decide : 54 + 0 ≤ _)⟩)
  dsimp only [Pt.U, Pt.locs, Pt.cells, Pt.slots] at X7 l7 y7 z7 st7 hQ7
  subst l7 y7 z7
  obtain ⟨rfl, N7q, e7⟩ := hQ7
  have N7 := Fr.app N5 N7q
  obtain ⟨fs, hr, hrun, hended, hE⟩ := Stand.leaveW (s := s) (vm₁ := vm5) X7 hS5 (by rw [e7]; exact (Nat.le_refl _)) (v := some (.int (1 : Int32))) (fun h => by rw [Bd.returns] at h; cases h)
  refine ⟨_, _, pre0 _ ?_, hrun, hended, _, _, rfl, ?_, hE.1, hE.2.1, hE.2.2.1, hE.2.2.2.mono (by decide) (by decide)⟩
  · show St p e below s₁ m 0 #[iv i0, iv i1, iv i2, iv i3, .unset, .unset, .unset, .unset, .unset, .unset, .unset, .unset, .unset, .unset, .unset] [] _
    refine XS.iloadN X0.here hx rfl (hb hby at_0) rfl ?_
    show St p e below s₁ m 1 #[iv i0, iv i1, iv i2, iv i3, .unset, .unset, .unset, .unset, .unset, .unset, .unset, .unset, .unset, .unset, .unset] [(.int i0)] _
    refine X0.ldcInt hx hown (mvT hZ (ow hw 0 rfl)) (g := (mkF m 1 #[iv i0, iv i1, iv i2, iv i3, .unset, .unset, .unset, .unset, .unset, .unset, .unset, .unset, .unset, .unset, .unset] [(.int i0)])) rfl (hb hby at_1) _ ?_
    show St p e below s₁ m 3 #[iv i0, iv i1, iv i2, iv i3, .unset, .unset, .unset, .unset, .unset, .unset, .unset, .unset, .unset, .unset, .unset] [(.int (2147483647 : Int32)), (.int i0)] _
    refine XS.iand X0.here hx rfl (hb hby at_3) rfl ?_
    show St p e below s₁ m 4 #[iv i0, iv i1, iv i2, iv i3, .unset, .unset, .unset, .unset, .unset, .unset, .unset, .unset, .unset, .unset, .unset] [(.int (i0 &&& (2147483647 : Int32)))] _
    refine XS.iconst X0.here hx rfl (hb hby at_4) ?_
    show St p e below s₁ m 5 #[iv i0, iv i1, iv i2, iv i3, .unset, .unset, .unset, .unset, .unset, .unset, .unset, .unset, .unset, .unset, .unset] [(.int (3 : Int32)), (.int (i0 &&& (2147483647 : Int32)))] _
    refine Jvm.RoadKit.iremM (g := (mkF m 5 #[iv i0, iv i1, iv i2, iv i3, .unset, .unset, .unset, .unset, .unset, .unset, .unset, .unset, .unset, .unset, .unset] [(.int (3 : Int32)), (.int (i0 &&& (2147483647 : Int32)))])) X0 hx rfl (hb hby at_5) rfl (by decide : ¬ ((3 : Int32) = (0 : Int32))) ?_
    show St p e below s₁ m 6 #[iv i0, iv i1, iv i2, iv i3, .unset, .unset, .unset, .unset, .unset, .unset, .unset, .unset, .unset, .unset, .unset] [(.int ((i0 &&& (2147483647 : Int32)) % (3 : Int32)))] _
    rw [pin0]
    show St p e below s₁ m 6 #[iv i0, iv i1, iv i2, iv i3, .unset, .unset, .unset, .unset, .unset, .unset, .unset, .unset, .unset, .unset, .unset] [(.int (1 : Int32))] _
    refine XS.istore X0.here hx rfl (hb hby at_6) rfl (l' := #[iv i0, iv i1, iv i2, iv i3, iv (1 : Int32), .unset, .unset, .unset, .unset, .unset, .unset, .unset, .unset, .unset, .unset]) rfl ?_
    show St p e below s₁ m 8 #[iv i0, iv i1, iv i2, iv i3, iv (1 : Int32), .unset, .unset, .unset, .unset, .unset, .unset, .unset, .unset, .unset, .unset] [] _
    refine XS.iload X0.here hx rfl (hb hby at_8) rfl ?_
    show St p e below s₁ m 10 #[iv i0, iv i1, iv i2, iv i3, iv (1 : Int32), .unset, .unset, .unset, .unset, .unset, .unset, .unset, .unset, .unset, .unset] [(.int (1 : Int32))] _
    refine XS.ifYes X0.here hx rfl (pc0 := 10) (pc' := 21) rfl (hb hby at_10) rfl ((if0 _ _).trans (feq (by decide : ¬ ((1 : Int32) = (0 : Int32)))).2) (by decide) (by decide) ?_
    show St p e below s₁ m 21 #[iv i0, iv i1, iv i2, iv i3, iv (1 : Int32), .unset, .unset, .unset, .unset, .unset, .unset, .unset, .unset, .unset, .unset] [] _
    refine XS.iload X0.here hx rfl (hb hby at_21) rfl ?_
    show St p e below s₁ m 23 #[iv i0, iv i1, iv i2, iv i3, iv (1 : Int32), .unset, .unset, .unset, .unset, .unset, .unset, .unset, .unset, .unset, .unset] [(.int (1 : Int32))] _
    refine XS.iconst X0.here hx rfl (hb hby at_23) ?_
    show St p e below s₁ m 24 #[iv i0, iv i1, iv i2, iv i3, iv (1 : Int32), .unset, .unset, .unset, .unset, .unset, .unset, .unset, .unset, .unset, .unset] [(.int (1 : Int32)), (.int (1 : Int32))] _
    refine XS.icmpNo X0.here hx rfl (hb hby at_24) rfl (teq (rfl : (1 : Int32) = (1 : Int32))).2 ?_
    show St p e below s₁ m 27 #[iv i0, iv i1, iv i2, iv i3, iv (1 : Int32), .unset, .unset, .unset, .unset, .unset, .unset, .unset, .unset, .unset, .unset] [] _
    refine st1 _ ?_
    show St p e below T1 m 30 #[iv i0, iv i1, iv i2, iv i3, iv (1 : Int32), .unset, .unset, .unset, .unset, .unset, .unset, .unset, .unset, .unset, .unset] [(.ref wKind_RETRYABLE_FAILURE)] _
    refine XS.astore X1.here hx rfl (hb hby at_30) rfl rfl (l' := #[iv i0, iv i1, iv i2, iv i3, iv (1 : Int32), rv wKind_RETRYABLE_FAILURE, .unset, .unset, .unset, .unset, .unset, .unset, .unset, .unset, .unset]) rfl ?_
    show St p e below T1 m 32 #[iv i0, iv i1, iv i2, iv i3, iv (1 : Int32), rv wKind_RETRYABLE_FAILURE, .unset, .unset, .unset, .unset, .unset, .unset, .unset, .unset, .unset] [] _
    refine XS.goto X1.here hx rfl (pc0 := 32) (pc' := 40) rfl (hb hby at_32) (by decide) (by decide) ?_
    show St p e below T1 m 40 #[iv i0, iv i1, iv i2, iv i3, iv (1 : Int32), rv wKind_RETRYABLE_FAILURE, .unset, .unset, .unset, .unset, .unset, .unset, .unset, .unset, .unset] [] _
    refine XS.iloadN X1.here hx rfl (hb hby at_40) rfl ?_
    show St p e below T1 m 41 #[iv i0, iv i1, iv i2, iv i3, iv (1 : Int32), rv wKind_RETRYABLE_FAILURE, .unset, .unset, .unset, .unset, .unset, .unset, .unset, .unset, .unset] [(.int i1)] _
    refine XS.iconst X1.here hx rfl (hb hby at_41) ?_
    show St p e below T1 m 42 #[iv i0, iv i1, iv i2, iv i3, iv (1 : Int32), rv wKind_RETRYABLE_FAILURE, .unset, .unset, .unset, .unset, .unset, .unset, .unset, .unset, .unset] [(.int (3 : Int32)), (.int i1)] _
    refine XS.iand X1.here hx rfl (hb hby at_42) rfl ?_
    show St p e below T1 m 43 #[iv i0, iv i1, iv i2, iv i3, iv (1 : Int32), rv wKind_RETRYABLE_FAILURE, .unset, .unset, .unset, .unset, .unset, .unset, .unset, .unset, .unset] [(.int (i1 &&& (3 : Int32)))] _
    rw [pin1]
    show St p e below T1 m 43 #[iv i0, iv i1, iv i2, iv i3, iv (1 : Int32), rv wKind_RETRYABLE_FAILURE, .unset, .unset, .unset, .unset, .unset, .unset, .unset, .unset, .unset] [(.int (1 : Int32))] _
    refine XS.istore X1.here hx rfl (hb hby at_43) rfl (l' := #[iv i0, iv i1, iv i2, iv i3, iv (1 : Int32), rv wKind_RETRYABLE_FAILURE, iv (1 : Int32), .unset, .unset, .unset, .unset, .unset, .unset, .unset, .unset]) rfl ?_
    show St p e below T1 m 45 #[iv i0, iv i1, iv i2, iv i3, iv (1 : Int32), rv wKind_RETRYABLE_FAILURE, iv (1 : Int32), .unset, .unset, .unset, .unset, .unset, .unset, .unset, .unset] [] _
    refine XS.iloadN X1.here hx rfl (hb hby at_45) rfl ?_
    show St p e below T1 m 46 #[iv i0, iv i1, iv i2, iv i3, iv (1 : Int32), rv wKind_RETRYABLE_FAILURE, iv (1 : Int32), .unset, .unset, .unset, .unset, .unset, .unset, .unset, .unset] [(.int i2)] _
    refine XS.i2b X1.here hx rfl (hb hby at_46) rfl ?_
    show St p e below T1 m 47 #[iv i0, iv i1, iv i2, iv i3, iv (1 : Int32), rv wKind_RETRYABLE_FAILURE, iv (1 : Int32), .unset, .unset, .unset, .unset, .unset, .unset, .unset, .unset] [(.int (i2.toInt8.toInt32))] _
    refine XS.istore X1.here hx rfl (hb hby at_47) rfl (l' := #[iv i0, iv i1, iv i2, iv i3, iv (1 : Int32), rv wKind_RETRYABLE_FAILURE, iv (1 : Int32), iv (i2.toInt8.toInt32), .unset, .unset, .unset, .unset, .unset, .unset, .unset]) rfl ?_
    show St p e below T1 m 49 #[iv i0, iv i1, iv i2, iv i3, iv (1 : Int32), rv wKind_RETRYABLE_FAILURE, iv (1 : Int32), iv (i2.toInt8.toInt32), .unset, .unset, .unset, .unset, .unset, .unset, .unset] [] _
    refine XS.iloadN X1.here hx rfl (hb hby at_49) rfl ?_
    show St p e below T1 m 50 #[iv i0, iv i1, iv i2, iv i3, iv (1 : Int32), rv wKind_RETRYABLE_FAILURE, iv (1 : Int32), iv (i2.toInt8.toInt32), .unset, .unset, .unset, .unset, .unset, .unset, .unset] [(.int i2)] _
    refine XS.bipush X1.here hx rfl (hb hby at_50) ?_
    show St p e below T1 m 52 #[iv i0, iv i1, iv i2, iv i3, iv (1 : Int32), rv wKind_RETRYABLE_FAILURE, iv (1 : Int32), iv (i2.toInt8.toInt32), .unset, .unset, .unset, .unset, .unset, .unset, .unset] [(.int (8 : Int32)), (.int i2)] _
    refine XS.ishr X1.here hx rfl (hb hby at_52) rfl ?_
    show St p e below T1 m 53 #[iv i0, iv i1, iv i2, iv i3, iv (1 : Int32), rv wKind_RETRYABLE_FAILURE, iv (1 : Int32), iv (i2.toInt8.toInt32), .unset, .unset, .unset, .unset, .unset, .unset, .unset] [(.int (i2 >>> ((8 : Int32) &&& 31)))] _
    refine XS.i2b X1.here hx rfl (hb hby at_53) rfl ?_
    show St p e below T1 m 54 #[iv i0, iv i1, iv i2, iv i3, iv (1 : Int32), rv wKind_RETRYABLE_FAILURE, iv (1 : Int32), iv (i2.toInt8.toInt32), .unset, .unset, .unset, .unset, .unset, .unset, .unset] [(.int ((i2 >>> ((8 : Int32) &&& 31)).toInt8.toInt32))] _
    refine XS.istore X1.here hx rfl (hb hby at_54) rfl (l' := #[iv i0, iv i1, iv i2, iv i3, iv (1 : Int32), rv wKind_RETRYABLE_FAILURE, iv (1 : Int32), iv (i2.toInt8.toInt32), iv ((i2 >>> ((8 : Int32) &&& 31)).toInt8.toInt32), .unset, .unset, .unset, .unset, .unset, .unset]) rfl ?_
    show St p e below T1 m 56 #[iv i0, iv i1, iv i2, iv i3, iv (1 : Int32), rv wKind_RETRYABLE_FAILURE, iv (1 : Int32), iv (i2.toInt8.toInt32), iv ((i2 >>> ((8 : Int32) &&& 31)).toInt8.toInt32), .unset, .unset, .unset, .unset, .unset, .unset] [] _
    refine XS.iloadN X1.here hx rfl (hb hby at_56) rfl ?_
    show St p e below T1 m 57 #[iv i0, iv i1, iv i2, iv i3, iv (1 : Int32), rv wKind_RETRYABLE_FAILURE, iv (1 : Int32), iv (i2.toInt8.toInt32), iv ((i2 >>> ((8 : Int32) &&& 31)).toInt8.toInt32), .unset, .unset, .unset, .unset, .unset, .unset] [(.int i2)] _
    refine XS.bipush X1.here hx rfl (hb hby at_57) ?_
    show St p e below T1 m 59 #[iv i0, iv i1, iv i2, iv i3, iv (1 : Int32), rv wKind_RETRYABLE_FAILURE, iv (1 : Int32), iv (i2.toInt8.toInt32), iv ((i2 >>> ((8 : Int32) &&& 31)).toInt8.toInt32), .unset, .unset, .unset, .unset, .unset, .unset] [(.int (16 : Int32)), (.int i2)] _
    refine XS.ishr X1.here hx rfl (hb hby at_59) rfl ?_
    show St p e below T1 m 60 #[iv i0, iv i1, iv i2, iv i3, iv (1 : Int32), rv wKind_RETRYABLE_FAILURE, iv (1 : Int32), iv (i2.toInt8.toInt32), iv ((i2 >>> ((8 : Int32) &&& 31)).toInt8.toInt32), .unset, .unset, .unset, .unset, .unset, .unset] [(.int (i2 >>> ((16 : Int32) &&& 31)))] _
    refine XS.i2b X1.here hx rfl (hb hby at_60) rfl ?_
    show St p e below T1 m 61 #[iv i0, iv i1, iv i2, iv i3, iv (1 : Int32), rv wKind_RETRYABLE_FAILURE, iv (1 : Int32), iv (i2.toInt8.toInt32), iv ((i2 >>> ((8 : Int32) &&& 31)).toInt8.toInt32), .unset, .unset, .unset, .unset, .unset, .unset] [(.int ((i2 >>> ((16 : Int32) &&& 31)).toInt8.toInt32))] _
    refine XS.istore X1.here hx rfl (hb hby at_61) rfl (l' := #[iv i0, iv i1, iv i2, iv i3, iv (1 : Int32), rv wKind_RETRYABLE_FAILURE, iv (1 : Int32), iv (i2.toInt8.toInt32), iv ((i2 >>> ((8 : Int32) &&& 31)).toInt8.toInt32), iv ((i2 >>> ((16 : Int32) &&& 31)).toInt8.toInt32), .unset, .unset, .unset, .unset, .unset]) rfl ?_
    show St p e below T1 m 63 #[iv i0, iv i1, iv i2, iv i3, iv (1 : Int32), rv wKind_RETRYABLE_FAILURE, iv (1 : Int32), iv (i2.toInt8.toInt32), iv ((i2 >>> ((8 : Int32) &&& 31)).toInt8.toInt32), iv ((i2 >>> ((16 : Int32) &&& 31)).toInt8.toInt32), .unset, .unset, .unset, .unset, .unset] [] _
    refine XS.iloadN X1.here hx rfl (hb hby at_63) rfl ?_
    show St p e below T1 m 64 #[iv i0, iv i1, iv i2, iv i3, iv (1 : Int32), rv wKind_RETRYABLE_FAILURE, iv (1 : Int32), iv (i2.toInt8.toInt32), iv ((i2 >>> ((8 : Int32) &&& 31)).toInt8.toInt32), iv ((i2 >>> ((16 : Int32) &&& 31)).toInt8.toInt32), .unset, .unset, .unset, .unset, .unset] [(.int i3)] _
    refine XS.iconst X1.here hx rfl (hb hby at_64) ?_
    show St p e below T1 m 65 #[iv i0, iv i1, iv i2, iv i3, iv (1 : Int32), rv wKind_RETRYABLE_FAILURE, iv (1 : Int32), iv (i2.toInt8.toInt32), iv ((i2 >>> ((8 : Int32) &&& 31)).toInt8.toInt32), iv ((i2 >>> ((16 : Int32) &&& 31)).toInt8.toInt32), .unset, .unset, .unset, .unset, .unset] [(.int (1 : Int32)), (.int i3)] _
    refine XS.ior X1.here hx rfl (hb hby at_65) rfl ?_
    show St p e below T1 m 66 #[iv i0, iv i1, iv i2, iv i3, iv (1 : Int32), rv wKind_RETRYABLE_FAILURE, iv (1 : Int32), iv (i2.toInt8.toInt32), iv ((i2 >>> ((8 : Int32) &&& 31)).toInt8.toInt32), iv ((i2 >>> ((16 : Int32) &&& 31)).toInt8.toInt32), .unset, .unset, .unset, .unset, .unset] [(.int (i3 ||| (1 : Int32)))] _
    refine XS.i2b X1.here hx rfl (hb hby at_66) rfl ?_
    show St p e below T1 m 67 #[iv i0, iv i1, iv i2, iv i3, iv (1 : Int32), rv wKind_RETRYABLE_FAILURE, iv (1 : Int32), iv (i2.toInt8.toInt32), iv ((i2 >>> ((8 : Int32) &&& 31)).toInt8.toInt32), iv ((i2 >>> ((16 : Int32) &&& 31)).toInt8.toInt32), .unset, .unset, .unset, .unset, .unset] [(.int ((i3 ||| (1 : Int32)).toInt8.toInt32))] _
    refine XS.istore X1.here hx rfl (hb hby at_67) rfl (l' := #[iv i0, iv i1, iv i2, iv i3, iv (1 : Int32), rv wKind_RETRYABLE_FAILURE, iv (1 : Int32), iv (i2.toInt8.toInt32), iv ((i2 >>> ((8 : Int32) &&& 31)).toInt8.toInt32), iv ((i2 >>> ((16 : Int32) &&& 31)).toInt8.toInt32), iv ((i3 ||| (1 : Int32)).toInt8.toInt32), .unset, .unset, .unset, .unset]) rfl ?_
    refine st2 _ ?_
    refine st5 _ ?_
    show St p e below T5 m 281 #[iv i0, iv i1, iv i2, iv i3, iv (1 : Int32), rv wKind_RETRYABLE_FAILURE, iv (1 : Int32), iv (i2.toInt8.toInt32), iv ((i2 >>> ((8 : Int32) &&& 31)).toInt8.toInt32), iv ((i2 >>> ((16 : Int32) &&& 31)).toInt8.toInt32), iv ((i3 ||| (1 : Int32)).toInt8.toInt32), rv b2_0, rv b5_0, rv b5_1, rv b5_2] [] _
    refine XS.aload Y5.here hx rfl (hb hby at_281) rfl rfl ?_
    show St p e below T5 m 283 #[iv i0, iv i1, iv i2, iv i3, iv (1 : Int32), rv wKind_RETRYABLE_FAILURE, iv (1 : Int32), iv (i2.toInt8.toInt32), iv ((i2 >>> ((8 : Int32) &&& 31)).toInt8.toInt32), iv ((i2 >>> ((16 : Int32) &&& 31)).toInt8.toInt32), iv ((i3 ||| (1 : Int32)).toInt8.toInt32), rv b2_0, rv b5_0, rv b5_1, rv b5_2] [(.ref b5_0)] _
    refine st7.trans ?_
    show St p e below T7 m 286 #[iv i0, iv i1, iv i2, iv i3, iv (1 : Int32), rv wKind_RETRYABLE_FAILURE, iv (1 : Int32), iv (i2.toInt8.toInt32), iv ((i2 >>> ((8 : Int32) &&& 31)).toInt8.toInt32), iv ((i2 >>> ((16 : Int32) &&& 31)).toInt8.toInt32), iv ((i3 ||| (1 : Int32)).toInt8.toInt32), rv b2_0, rv b5_0, rv b5_1, rv b5_2] [(.ref wKind_RETRYABLE_FAILURE)] _
    refine XS.aload X7.here hx rfl (hb hby at_286) rfl rfl ?_
    show St p e below T7 m 288 #[iv i0, iv i1, iv i2, iv i3, iv (1 : Int32), rv wKind_RETRYABLE_FAILURE, iv (1 : Int32), iv (i2.toInt8.toInt32), iv ((i2 >>> ((8 : Int32) &&& 31)).toInt8.toInt32), iv ((i2 >>> ((16 : Int32) &&& 31)).toInt8.toInt32), iv ((i3 ||| (1 : Int32)).toInt8.toInt32), rv b2_0, rv b5_0, rv b5_1, rv b5_2] [(.ref wKind_RETRYABLE_FAILURE), (.ref wKind_RETRYABLE_FAILURE)] _
    refine Jvm.RoadKit.acmp (g := (mkF m 288 #[iv i0, iv i1, iv i2, iv i3, iv (1 : Int32), rv wKind_RETRYABLE_FAILURE, iv (1 : Int32), iv (i2.toInt8.toInt32), iv ((i2 >>> ((8 : Int32) &&& 31)).toInt8.toInt32), iv ((i2 >>> ((16 : Int32) &&& 31)).toInt8.toInt32), iv ((i3 ||| (1 : Int32)).toInt8.toInt32), rv b2_0, rv b5_0, rv b5_1, rv b5_2] [(.ref wKind_RETRYABLE_FAILURE), (.ref wKind_RETRYABLE_FAILURE)])) X7 hx rfl rfl rfl (pc0 := 288) (pc' := 291) (same := true) rfl (hb hby at_288) rfl (decide_eq_true rfl) (by decide) (by decide) ?_
    show St p e below T7 m 291 #[iv i0, iv i1, iv i2, iv i3, iv (1 : Int32), rv wKind_RETRYABLE_FAILURE, iv (1 : Int32), iv (i2.toInt8.toInt32), iv ((i2 >>> ((8 : Int32) &&& 31)).toInt8.toInt32), iv ((i2 >>> ((16 : Int32) &&& 31)).toInt8.toInt32), iv ((i3 ||| (1 : Int32)).toInt8.toInt32), rv b2_0, rv b5_0, rv b5_1, rv b5_2] [] _
    refine XS.iconst X7.here hx rfl (hb hby at_291) ?_
    show St p e below T7 m 292 #[iv i0, iv i1, iv i2, iv i3, iv (1 : Int32), rv wKind_RETRYABLE_FAILURE, iv (1 : Int32), iv (i2.toInt8.toInt32), iv ((i2 >>> ((8 : Int32) &&& 31)).toInt8.toInt32), iv ((i2 >>> ((16 : Int32) &&& 31)).toInt8.toInt32), iv ((i3 ||| (1 : Int32)).toInt8.toInt32), rv b2_0, rv b5_0, rv b5_1, rv b5_2] [(.int (1 : Int32))] _
    refine XS.goto X7.here hx rfl (pc0 := 292) (pc' := 296) rfl (hb hby at_292) (by decide) (by decide) ?_
    show St p e below T7 m 296 #[iv i0, iv i1, iv i2, iv i3, iv (1 : Int32), rv wKind_RETRYABLE_FAILURE, iv (1 : Int32), iv (i2.toInt8.toInt32), iv ((i2 >>> ((8 : Int32) &&& 31)).toInt8.toInt32), iv ((i2 >>> ((16 : Int32) &&& 31)).toInt8.toInt32), iv ((i3 ||| (1 : Int32)).toInt8.toInt32), rv b2_0, rv b5_0, rv b5_1, rv b5_2] [(.int (1 : Int32))] _
    exact retN X7 hx (t := .boolean) Bd.returns (by simp) (hb hby at_296) hr
  · show law_6Q Z wKind_SUCCESS wKind_RETRYABLE_FAILURE wKind_FINAL_FAILURE i0 i1 i2 i3 h0 n0 _ T7.heap _
    rw [e7]
    exact ⟨rfl, N7⟩
def law_7Q (Z : State) (wKind_SUCCESS : Addr) (wKind_RETRYABLE_FAILURE : Addr) (wKind_FINAL_FAILURE : Addr) (i0 : Int32) (i1 : Int32) (i2 : Int32) (i3 : Int32) (h0 : Heap) (n0 : Nat) (v : Option Value) (h : Heap) (L : List Loc) : Prop := v = some (.int (1 : Int32)) ∧ Fr n0 L
theorem law_7e (m : MethodId) (wKind_SUCCESS : Addr) (wKind_RETRYABLE_FAILURE : Addr) (wKind_FINAL_FAILURE : Addr) (i0 : Int32) (i1 : Int32) (i2 : Int32) (i3 : Int32) : entryFrame m #[(.int i0), (.int i1), (.int i2), (.int i3)] maxLocals = mkF m 0 #[iv i0, iv i1, iv i2, iv i3, .unset, .unset, .unset, .unset, .unset, .unset, .unset, .unset, .unset, .unset, .unset] [] := by first | (simp [entryFrame, mkF, argsToLocals, Value.category, maxLocals]; done) | rfl
set_option maxRecDepth 65536 in
set_option maxHeartbeats 40000000 in
theorem law_7 (l : Launch) (Z : State) (a0 : Array Value) (hw : HW a0 Z) (ws : List Jvm.Cond) (wKind_SUCCESS : Addr) (wKind_RETRYABLE_FAILURE : Addr) (wKind_FINAL_FAILURE : Addr) (B : Base Z wKind_SUCCESS wKind_RETRYABLE_FAILURE wKind_FINAL_FAILURE) (i0 : Int32) (i1 : Int32) (i2 : Int32) (i3 : Int32) (h0 : Heap) (n0 : Nat) (O0 : Old Z n0 h0) (pin0 : ((i0 &&& (2147483647 : Int32)) % (3 : Int32)) = (1 : Int32)) (pin1 : (i1 &&& (3 : Int32)) = (2 : Int32)) (hc4 : (nar .byte (i2.toInt8.toInt32)) = (i2.toInt8.toInt32)) (hc5 : (nar .byte ((i2 >>> ((8 : Int32) &&& 31)).toInt8.toInt32)) = ((i2 >>> ((8 : Int32) &&& 31)).toInt8.toInt32)) :
    MetFree l x (head1 (Jvm.Cond.code x code maxLocals ret :: ws) room_1) (fun a U => a = #[(.int i0), (.int i1), (.int i2), (.int i3)] ∧ Z.Warmed39 U.vm ∧ U.heap = h0) (fun _ _ _ _ _ => True) (fun _ U o U' => ∃ v L, o = .returned v ∧ law_7Q Z wKind_SUCCESS wKind_RETRYABLE_FAILURE wKind_FINAL_FAILURE i0 i1 i2 i3 h0 n0 v U'.heap L ∧ ReturnedEndW U o U' L room_1.cells room_1.slots) := by
  refine MetFree.of_bodySF (plainFor_of_name pn_com_example_nervous_key_nervouskey_OutcomeOfPinLaw) hisR ?_
  intro p e s m args below meth c s₁ Bd hml0 hP hK
  obtain ⟨rfl, hZ, hh⟩ := hP
  have hx := Bd.exec
  have hby := Bd.bytes
  have hml : c.maxLocals = 15 := hml0
  have hown : s.vm.findClass "com/example/nervous_key/nervouskey/OutcomeOfPinLaw" = some m.cls := findClass_of_methodNamed Bd.named
  have hnm := (name_of_methodNamed Bd.named Bd.method).1
  have X0 : Stand p l e room_1 s m #[(.int i0), (.int i1), (.int i2), (.int i3)] below meth c s₁ [] 0 0 := Stand.of_body Bd
  have e0 : s₁.heap = h0 := by rw [← hh, Bd.state]; rfl
  have N0 := Fr.nil n0
  have pre0 : ∀ t, Steps p.tables e below (s₁.setTop (mkF m 0 #[iv i0, iv i1, iv i2, iv i3, .unset, .unset, .unset, .unset, .unset, .unset, .unset, .unset, .unset, .unset, .unset] [])) t → Steps p.tables e below (s₁.setTop (entryFrame m #[(.int i0), (.int i1), (.int i2), (.int i3)] maxLocals)) t := fun t k => castTop (law_7e m wKind_SUCCESS wKind_RETRYABLE_FAILURE wKind_FINAL_FAILURE i0 i1 i2 i3) k
  obtain ⟨T1, X1, e1, st1⟩ := getS2 X0 hx hZ hown (host := "") (Or.inl (ow hw 58 rfl)) Via.refl e0 (B.2.2.1.ext O0.2) (g := (mkF m 27 #[iv i0, iv i1, iv i2, iv i3, iv (1 : Int32), .unset, .unset, .unset, .unset, .unset, .unset, .unset, .unset, .unset, .unset] [])) rfl (hb hby at_27)
  obtain ⟨T2, h2, L2, b2_0, k2_0, X2, e2, N2, K2, lo2_1, f2_2, f2_3, st2⟩ := g0_5 i0 i1 i2 i3 (1 : Int32) wKind_RETRYABLE_FAILURE (i2.toInt8.toInt32) ((i2 >>> ((8 : Int32) &&& 31)).toInt8.toInt32) ((i2 >>> ((16 : Int32) &&& 31)).toInt8.toInt32) ((i3 ||| (1 : Int32)).toInt8.toInt32) X1 hx hZ hw hby hml hown e1 O0 N0 (by decide) (by decide) (by decide) (by decide)
  have O_K2 : Old Z n0 h2 := O0.keep K2 all0
  have Kp_K2 : Keep h0 h2 [] := (Keep.refl h0 []).trans K2 all0
  have g3 : n0 ≤ b2_0 := Nat.le_trans (Nat.le_trans (Nat.le_of_eq O0.1.symm) O0.2.1) lo2_1
  obtain ⟨T6, h6, L6, vm6, b6_0, b6_1, b6_2, b6_3, X6, e6, hSq6, N6, K6, lo6_1, lo6_2, lo6_3, lo6_4, nq6_5, nq6_6, nq6_7, nq6_8, nq6_9, nq6_10, f6_11, f6_12, f6_13, f6_14, f6_15, f6_16, f6_17, f6_18, f6_19, f6_20, f6_21, st6⟩ := g0_6 i0 i1 i2 i3 (1 : Int32) wKind_RETRYABLE_FAILURE (i2.toInt8.toInt32) ((i2 >>> ((8 : Int32) &&& 31)).toInt8.toInt32) ((i2 >>> ((16 : Int32) &&& 31)).toInt8.toInt32) ((i3 ||| (1 : Int32)).toInt8.toInt32) b2_0 k2_0 (nar .byte (i2.toInt8.toInt32)) (nar .byte ((i2 >>> ((8 : Int32) &&& 31)).toInt8.toInt32)) X2 hx hZ hw hby hml hown e2 O_K2 N2 (by decide) (by decide) (by decide) (by decide) B.2.2.2.1 f2_3 f2_2 g3 hc4 hc5
  obtain ⟨Y6, hS6, hZ6, hown6⟩ := rebS (s := s) (vm0 := s.vm) (State.WarmedH.since (State.WarmedH.refl s) 0) (Nat.zero_le _) X6 hSq6 K6.1 hZ hown
  have z7 : h0.size ≤ b2_0 := Nat.le_trans (Keep.refl h0 []).1 lo2_1
  have O_K6 : Old Z n0 h6 := O_K2.keep K6 (allS g3 all0)
  have Kp_K6 : Keep h0 h6 [] := Kp_K2.trans K6 (allS (Or.inr z7) all0)
  obtain ⟨cq8, kq8, q8a, q8b, q8c⟩ := isOf hZ6 e6 f6_13
  obtain ⟨_, _, ⟨T8, L8, k8, n8⟩, -, X8, ⟨Lc8, hQ8, l8, y8, z8⟩, st8⟩ := Y6.virtualBack hx (y := y4) (z := y4) hown6 (mvT hZ6 (ow hw 44 rfl)) (mvT hZ6 (ow hw 45 rfl)) (notFace_of_selects (args := #[]) (mvT hZ6 (ow hw 47 rfl))) (mvT hZ6 (ow hw 47 rfl)) (mvT hZ6 (ow hw 46 rfl)) (by decide) (backOf (W := 0) (r4_1 l Z a0 hw [] b6_0 wKind_RETRYABLE_FAILURE h6 n0 O_K6 f6_14) hZ6 (ow hw 48 rfl) (ow hw 7 rfl) (by decide) (by decide)) q8a q8c (g := (mkF m 283 #[iv i0, iv i1, iv i2, iv i3, iv (1 : Int32), rv wKind_RETRYABLE_FAILURE, iv (2 : Int32), iv (i2.toInt8.toInt32), iv ((i2 >>> ((8 : Int32) &&& 31)).toInt8.toInt32), iv ((i2 >>> ((16 : Int32) &&& 31)).toInt8.toInt32), iv ((i3 ||| (1 : Int32)).toInt8.toInt32), rv b2_0, rv b6_0, rv b6_1, rv b6_2] [(.ref b6_0)])) rfl (by rw [hml]; rfl) (Steps.refl _) (argsL := []) (rest := []) (lenOf pd___Lcom_example_nervous_key_nervouskey_Outcome_Kind_ rfl) rfl (by show 2 * 0 + _ ≤ _; exact Nat.le_of_eq rfl) (hb hby at_283) (fun _ _ => ⟨rfl, e6, (by decide : 9 + 0 ≤ _), (by decide : 58 + 0 ≤ _)⟩)
  dsimp only [Pt.U, Pt.locs, Pt.cells, Pt.slots] at X8 l8 y8 z8 st8 hQ8
  subst l8 y8 z8
  obtain ⟨rfl, N8q, e8⟩ := hQ8
  have N8 := Fr.app N6 N8q
  obtain ⟨fs, hr, hrun, hended, hE⟩ := Stand.leaveW (s := s) (vm₁ := vm6) X8 hS6 (by rw [e8]; exact (Nat.le_refl _)) (v := some (.int (1 : Int32))) (fun h => by rw [Bd.returns] at h; cases h)
  refine ⟨_, _, pre0 _ ?_, hrun, hended, _, _, rfl, ?_, hE.1, hE.2.1, hE.2.2.1, hE.2.2.2.mono (by decide) (by decide)⟩
  · show St p e below s₁ m 0 #[iv i0, iv i1, iv i2, iv i3, .unset, .unset, .unset, .unset, .unset, .unset, .unset, .unset, .unset, .unset, .unset] [] _
    refine XS.iloadN X0.here hx rfl (hb hby at_0) rfl ?_
    show St p e below s₁ m 1 #[iv i0, iv i1, iv i2, iv i3, .unset, .unset, .unset, .unset, .unset, .unset, .unset, .unset, .unset, .unset, .unset] [(.int i0)] _
    refine X0.ldcInt hx hown (mvT hZ (ow hw 0 rfl)) (g := (mkF m 1 #[iv i0, iv i1, iv i2, iv i3, .unset, .unset, .unset, .unset, .unset, .unset, .unset, .unset, .unset, .unset, .unset] [(.int i0)])) rfl (hb hby at_1) _ ?_
    show St p e below s₁ m 3 #[iv i0, iv i1, iv i2, iv i3, .unset, .unset, .unset, .unset, .unset, .unset, .unset, .unset, .unset, .unset, .unset] [(.int (2147483647 : Int32)), (.int i0)] _
    refine XS.iand X0.here hx rfl (hb hby at_3) rfl ?_
    show St p e below s₁ m 4 #[iv i0, iv i1, iv i2, iv i3, .unset, .unset, .unset, .unset, .unset, .unset, .unset, .unset, .unset, .unset, .unset] [(.int (i0 &&& (2147483647 : Int32)))] _
    refine XS.iconst X0.here hx rfl (hb hby at_4) ?_
    show St p e below s₁ m 5 #[iv i0, iv i1, iv i2, iv i3, .unset, .unset, .unset, .unset, .unset, .unset, .unset, .unset, .unset, .unset, .unset] [(.int (3 : Int32)), (.int (i0 &&& (2147483647 : Int32)))] _
    refine Jvm.RoadKit.iremM (g := (mkF m 5 #[iv i0, iv i1, iv i2, iv i3, .unset, .unset, .unset, .unset, .unset, .unset, .unset, .unset, .unset, .unset, .unset] [(.int (3 : Int32)), (.int (i0 &&& (2147483647 : Int32)))])) X0 hx rfl (hb hby at_5) rfl (by decide : ¬ ((3 : Int32) = (0 : Int32))) ?_
    show St p e below s₁ m 6 #[iv i0, iv i1, iv i2, iv i3, .unset, .unset, .unset, .unset, .unset, .unset, .unset, .unset, .unset, .unset, .unset] [(.int ((i0 &&& (2147483647 : Int32)) % (3 : Int32)))] _
    rw [pin0]
    show St p e below s₁ m 6 #[iv i0, iv i1, iv i2, iv i3, .unset, .unset, .unset, .unset, .unset, .unset, .unset, .unset, .unset, .unset, .unset] [(.int (1 : Int32))] _
    refine XS.istore X0.here hx rfl (hb hby at_6) rfl (l' := #[iv i0, iv i1, iv i2, iv i3, iv (1 : Int32), .unset, .unset, .unset, .unset, .unset, .unset, .unset, .unset, .unset, .unset]) rfl ?_
    show St p e below s₁ m 8 #[iv i0, iv i1, iv i2, iv i3, iv (1 : Int32), .unset, .unset, .unset, .unset, .unset, .unset, .unset, .unset, .unset, .unset] [] _
    refine XS.iload X0.here hx rfl (hb hby at_8) rfl ?_
    show St p e below s₁ m 10 #[iv i0, iv i1, iv i2, iv i3, iv (1 : Int32), .unset, .unset, .unset, .unset, .unset, .unset, .unset, .unset, .unset, .unset] [(.int (1 : Int32))] _
    refine XS.ifYes X0.here hx rfl (pc0 := 10) (pc' := 21) rfl (hb hby at_10) rfl ((if0 _ _).trans (feq (by decide : ¬ ((1 : Int32) = (0 : Int32)))).2) (by decide) (by decide) ?_
    show St p e below s₁ m 21 #[iv i0, iv i1, iv i2, iv i3, iv (1 : Int32), .unset, .unset, .unset, .unset, .unset, .unset, .unset, .unset, .unset, .unset] [] _
    refine XS.iload X0.here hx rfl (hb hby at_21) rfl ?_
    show St p e below s₁ m 23 #[iv i0, iv i1, iv i2, iv i3, iv (1 : Int32), .unset, .unset, .unset, .unset, .unset, .unset, .unset, .unset, .unset, .unset] [(.int (1 : Int32))] _
    refine XS.iconst X0.here hx rfl (hb hby at_23) ?_
    show St p e below s₁ m 24 #[iv i0, iv i1, iv i2, iv i3, iv (1 : Int32), .unset, .unset, .unset, .unset, .unset, .unset, .unset, .unset, .unset, .unset] [(.int (1 : Int32)), (.int (1 : Int32))] _
    refine XS.icmpNo X0.here hx rfl (hb hby at_24) rfl (teq (rfl : (1 : Int32) = (1 : Int32))).2 ?_
    show St p e below s₁ m 27 #[iv i0, iv i1, iv i2, iv i3, iv (1 : Int32), .unset, .unset, .unset, .unset, .unset, .unset, .unset, .unset, .unset, .unset] [] _
    refine st1 _ ?_
    show St p e below T1 m 30 #[iv i0, iv i1, iv i2, iv i3, iv (1 : Int32), .unset, .unset, .unset, .unset, .unset, .unset, .unset, .unset, .unset, .unset] [(.ref wKind_RETRYABLE_FAILURE)] _
    refine XS.astore X1.here hx rfl (hb hby at_30) rfl rfl (l' := #[iv i0, iv i1, iv i2, iv i3, iv (1 : Int32), rv wKind_RETRYABLE_FAILURE, .unset, .unset, .unset, .unset, .unset, .unset, .unset, .unset, .unset]) rfl ?_
    show St p e below T1 m 32 #[iv i0, iv i1, iv i2, iv i3, iv (1 : Int32), rv wKind_RETRYABLE_FAILURE, .unset, .unset, .unset, .unset, .unset, .unset, .unset, .unset, .unset] [] _
    refine XS.goto X1.here hx rfl (pc0 := 32) (pc' := 40) rfl (hb hby at_32) (by decide) (by decide) ?_
    show St p e below T1 m 40 #[iv i0, iv i1, iv i2, iv i3, iv (1 : Int32), rv wKind_RETRYABLE_FAILURE, .unset, .unset, .unset, .unset, .unset, .unset, .unset, .unset, .unset] [] _
    refine XS.iloadN X1.here hx rfl (hb hby at_40) rfl ?_
    show St p e below T1 m 41 #[iv i0, iv i1, iv i2, iv i3, iv (1 : Int32), rv wKind_RETRYABLE_FAILURE, .unset, .unset, .unset, .unset, .unset, .unset, .unset, .unset, .unset] [(.int i1)] _
    refine XS.iconst X1.here hx rfl (hb hby at_41) ?_
    show St p e below T1 m 42 #[iv i0, iv i1, iv i2, iv i3, iv (1 : Int32), rv wKind_RETRYABLE_FAILURE, .unset, .unset, .unset, .unset, .unset, .unset, .unset, .unset, .unset] [(.int (3 : Int32)), (.int i1)] _
    refine XS.iand X1.here hx rfl (hb hby at_42) rfl ?_
    show St p e below T1 m 43 #[iv i0, iv i1, iv i2, iv i3, iv (1 : Int32), rv wKind_RETRYABLE_FAILURE, .unset, .unset, .unset, .unset, .unset, .unset, .unset, .unset, .unset] [(.int (i1 &&& (3 : Int32)))] _
    rw [pin1]
    show St p e below T1 m 43 #[iv i0, iv i1, iv i2, iv i3, iv (1 : Int32), rv wKind_RETRYABLE_FAILURE, .unset, .unset, .unset, .unset, .unset, .unset, .unset, .unset, .unset] [(.int (2 : Int32))] _
    refine XS.istore X1.here hx rfl (hb hby at_43) rfl (l' := #[iv i0, iv i1, iv i2, iv i3, iv (1 : Int32), rv wKind_RETRYABLE_FAILURE, iv (2 : Int32), .unset, .unset, .unset, .unset, .unset, .unset, .unset, .unset]) rfl ?_
    show St p e below T1 m 45 #[iv i0, iv i1, iv i2, iv i3, iv (1 : Int32), rv wKind_RETRYABLE_FAILURE, iv (2 : Int32), .unset, .unset, .unset, .unset, .unset, .unset, .unset, .unset] [] _
    refine XS.iloadN X1.here hx rfl (hb hby at_45) rfl ?_
    show St p e below T1 m 46 #[iv i0, iv i1, iv i2, iv i3, iv (1 : Int32), rv wKind_RETRYABLE_FAILURE, iv (2 : Int32), .unset, .unset, .unset, .unset, .unset, .unset, .unset, .unset] [(.int i2)] _
    refine XS.i2b X1.here hx rfl (hb hby at_46) rfl ?_
    show St p e below T1 m 47 #[iv i0, iv i1, iv i2, iv i3, iv (1 : Int32), rv wKind_RETRYABLE_FAILURE, iv (2 : Int32), .unset, .unset, .unset, .unset, .unset, .unset, .unset, .unset] [(.int (i2.toInt8.toInt32))] _
    refine XS.istore X1.here hx rfl (hb hby at_47) rfl (l' := #[iv i0, iv i1, iv i2, iv i3, iv (1 : Int32), rv wKind_RETRYABLE_FAILURE, iv (2 : Int32), iv (i2.toInt8.toInt32), .unset, .unset, .unset, .unset, .unset, .unset, .unset]) rfl ?_
    show St p e below T1 m 49 #[iv i0, iv i1, iv i2, iv i3, iv (1 : Int32), rv wKind_RETRYABLE_FAILURE, iv (2 : Int32), iv (i2.toInt8.toInt32), .unset, .unset, .unset, .unset, .unset, .unset, .unset] [] _
    refine XS.iloadN X1.here hx rfl (hb hby at_49) rfl ?_
    show St p e below T1 m 50 #[iv i0, iv i1, iv i2, iv i3, iv (1 : Int32), rv wKind_RETRYABLE_FAILURE, iv (2 : Int32), iv (i2.toInt8.toInt32), .unset, .unset, .unset, .unset, .unset, .unset, .unset] [(.int i2)] _
    refine XS.bipush X1.here hx rfl (hb hby at_50) ?_
    show St p e below T1 m 52 #[iv i0, iv i1, iv i2, iv i3, iv (1 : Int32), rv wKind_RETRYABLE_FAILURE, iv (2 : Int32), iv (i2.toInt8.toInt32), .unset, .unset, .unset, .unset, .unset, .unset, .unset] [(.int (8 : Int32)), (.int i2)] _
    refine XS.ishr X1.here hx rfl (hb hby at_52) rfl ?_
    show St p e below T1 m 53 #[iv i0, iv i1, iv i2, iv i3, iv (1 : Int32), rv wKind_RETRYABLE_FAILURE, iv (2 : Int32), iv (i2.toInt8.toInt32), .unset, .unset, .unset, .unset, .unset, .unset, .unset] [(.int (i2 >>> ((8 : Int32) &&& 31)))] _
    refine XS.i2b X1.here hx rfl (hb hby at_53) rfl ?_
    show St p e below T1 m 54 #[iv i0, iv i1, iv i2, iv i3, iv (1 : Int32), rv wKind_RETRYABLE_FAILURE, iv (2 : Int32), iv (i2.toInt8.toInt32), .unset, .unset, .unset, .unset, .unset, .unset, .unset] [(.int ((i2 >>> ((8 : Int32) &&& 31)).toInt8.toInt32))] _
    refine XS.istore X1.here hx rfl (hb hby at_54) rfl (l' := #[iv i0, iv i1, iv i2, iv i3, iv (1 : Int32), rv wKind_RETRYABLE_FAILURE, iv (2 : Int32), iv (i2.toInt8.toInt32), iv ((i2 >>> ((8 : Int32) &&& 31)).toInt8.toInt32), .unset, .unset, .unset, .unset, .unset, .unset]) rfl ?_
    show St p e below T1 m 56 #[iv i0, iv i1, iv i2, iv i3, iv (1 : Int32), rv wKind_RETRYABLE_FAILURE, iv (2 : Int32), iv (i2.toInt8.toInt32), iv ((i2 >>> ((8 : Int32) &&& 31)).toInt8.toInt32), .unset, .unset, .unset, .unset, .unset, .unset] [] _
    refine XS.iloadN X1.here hx rfl (hb hby at_56) rfl ?_
    show St p e below T1 m 57 #[iv i0, iv i1, iv i2, iv i3, iv (1 : Int32), rv wKind_RETRYABLE_FAILURE, iv (2 : Int32), iv (i2.toInt8.toInt32), iv ((i2 >>> ((8 : Int32) &&& 31)).toInt8.toInt32), .unset, .unset, .unset, .unset, .unset, .unset] [(.int i2)] _
    refine XS.bipush X1.here hx rfl (hb hby at_57) ?_
    show St p e below T1 m 59 #[iv i0, iv i1, iv i2, iv i3, iv (1 : Int32), rv wKind_RETRYABLE_FAILURE, iv (2 : Int32), iv (i2.toInt8.toInt32), iv ((i2 >>> ((8 : Int32) &&& 31)).toInt8.toInt32), .unset, .unset, .unset, .unset, .unset, .unset] [(.int (16 : Int32)), (.int i2)] _
    refine XS.ishr X1.here hx rfl (hb hby at_59) rfl ?_
    show St p e below T1 m 60 #[iv i0, iv i1, iv i2, iv i3, iv (1 : Int32), rv wKind_RETRYABLE_FAILURE, iv (2 : Int32), iv (i2.toInt8.toInt32), iv ((i2 >>> ((8 : Int32) &&& 31)).toInt8.toInt32), .unset, .unset, .unset, .unset, .unset, .unset] [(.int (i2 >>> ((16 : Int32) &&& 31)))] _
    refine XS.i2b X1.here hx rfl (hb hby at_60) rfl ?_
    show St p e below T1 m 61 #[iv i0, iv i1, iv i2, iv i3, iv (1 : Int32), rv wKind_RETRYABLE_FAILURE, iv (2 : Int32), iv (i2.toInt8.toInt32), iv ((i2 >>> ((8 : Int32) &&& 31)).toInt8.toInt32), .unset, .unset, .unset, .unset, .unset, .unset] [(.int ((i2 >>> ((16 : Int32) &&& 31)).toInt8.toInt32))] _
    refine XS.istore X1.here hx rfl (hb hby at_61) rfl (l' := #[iv i0, iv i1, iv i2, iv i3, iv (1 : Int32), rv wKind_RETRYABLE_FAILURE, iv (2 : Int32), iv (i2.toInt8.toInt32), iv ((i2 >>> ((8 : Int32) &&& 31)).toInt8.toInt32), iv ((i2 >>> ((16 : Int32) &&& 31)).toInt8.toInt32), .unset, .unset, .unset, .unset, .unset]) rfl ?_
    show St p e below T1 m 63 #[iv i0, iv i1, iv i2, iv i3, iv (1 : Int32), rv wKind_RETRYABLE_FAILURE, iv (2 : Int32), iv (i2.toInt8.toInt32), iv ((i2 >>> ((8 : Int32) &&& 31)).toInt8.toInt32), iv ((i2 >>> ((16 : Int32) &&& 31)).toInt8.toInt32), .unset, .unset, .unset, .unset, .unset] [] _
    refine XS.iloadN X1.here hx rfl (hb hby at_63) rfl ?_
    show St p e below T1 m 64 #[iv i0, iv i1, iv i2, iv i3, iv (1 : Int32), rv wKind_RETRYABLE_FAILURE, iv (2 : Int32), iv (i2.toInt8.toInt32), iv ((i2 >>> ((8 : Int32) &&& 31)).toInt8.toInt32), iv ((i2 >>> ((16 : Int32) &&& 31)).toInt8.toInt32), .unset, .unset, .unset, .unset, .unset] [(.int i3)] _
    refine XS.iconst X1.here hx rfl (hb hby at_64) ?_
    show St p e below T1 m 65 #[iv i0, iv i1, iv i2, iv i3, iv (1 : Int32), rv wKind_RETRYABLE_FAILURE, iv (2 : Int32), iv (i2.toInt8.toInt32), iv ((i2 >>> ((8 : Int32) &&& 31)).toInt8.toInt32), iv ((i2 >>> ((16 : Int32) &&& 31)).toInt8.toInt32), .unset, .unset, .unset, .unset, .unset] [(.int (1 : Int32)), (.int i3)] _
    refine XS.ior X1.here hx rfl (hb hby at_65) rfl ?_
    show St p e below T1 m 66 #[iv i0, iv i1, iv i2, iv i3, iv (1 : Int32), rv wKind_RETRYABLE_FAILURE, iv (2 : Int32), iv (i2.toInt8.toInt32), iv ((i2 >>> ((8 : Int32) &&& 31)).toInt8.toInt32), iv ((i2 >>> ((16 : Int32) &&& 31)).toInt8.toInt32), .unset, .unset, .unset, .unset, .unset] [(.int (i3 ||| (1 : Int32)))] _
    refine XS.i2b X1.here hx rfl (hb hby at_66) rfl ?_
    show St p e below T1 m 67 #[iv i0, iv i1, iv i2, iv i3, iv (1 : Int32), rv wKind_RETRYABLE_FAILURE, iv (2 : Int32), iv (i2.toInt8.toInt32), iv ((i2 >>> ((8 : Int32) &&& 31)).toInt8.toInt32), iv ((i2 >>> ((16 : Int32) &&& 31)).toInt8.toInt32), .unset, .unset, .unset, .unset, .unset] [(.int ((i3 ||| (1 : Int32)).toInt8.toInt32))] _
    refine XS.istore X1.here hx rfl (hb hby at_67) rfl (l' := #[iv i0, iv i1, iv i2, iv i3, iv (1 : Int32), rv wKind_RETRYABLE_FAILURE, iv (2 : Int32), iv (i2.toInt8.toInt32), iv ((i2 >>> ((8 : Int32) &&& 31)).toInt8.toInt32), iv ((i2 >>> ((16 : Int32) &&& 31)).toInt8.toInt32), iv ((i3 ||| (1 : Int32)).toInt8.toInt32), .unset, .unset, .unset, .unset]) rfl ?_
    refine st2 _ ?_
    refine st6 _ ?_
    show St p e below T6 m 281 #[iv i0, iv i1, iv i2, iv i3, iv (1 : Int32), rv wKind_RETRYABLE_FAILURE, iv (2 : Int32), iv (i2.toInt8.toInt32), iv ((i2 >>> ((8 : Int32) &&& 31)).toInt8.toInt32), iv ((i2 >>> ((16 : Int32) &&& 31)).toInt8.toInt32), iv ((i3 ||| (1 : Int32)).toInt8.toInt32), rv b2_0, rv b6_0, rv b6_1, rv b6_2] [] _
    refine XS.aload Y6.here hx rfl (hb hby at_281) rfl rfl ?_
    show St p e below T6 m 283 #[iv i0, iv i1, iv i2, iv i3, iv (1 : Int32), rv wKind_RETRYABLE_FAILURE, iv (2 : Int32), iv (i2.toInt8.toInt32), iv ((i2 >>> ((8 : Int32) &&& 31)).toInt8.toInt32), iv ((i2 >>> ((16 : Int32) &&& 31)).toInt8.toInt32), iv ((i3 ||| (1 : Int32)).toInt8.toInt32), rv b2_0, rv b6_0, rv b6_1, rv b6_2] [(.ref b6_0)] _
    refine st8.trans ?_
    show St p e below T8 m 286 #[iv i0, iv i1, iv i2, iv i3, iv (1 : Int32), rv wKind_RETRYABLE_FAILURE, iv (2 : Int32), iv (i2.toInt8.toInt32), iv ((i2 >>> ((8 : Int32) &&& 31)).toInt8.toInt32), iv ((i2 >>> ((16 : Int32) &&& 31)).toInt8.toInt32), iv ((i3 ||| (1 : Int32)).toInt8.toInt32), rv b2_0, rv b6_0, rv b6_1, rv b6_2] [(.ref wKind_RETRYABLE_FAILURE)] _
    refine XS.aload X8.here hx rfl (hb hby at_286) rfl rfl ?_
    show St p e below T8 m 288 #[iv i0, iv i1, iv i2, iv i3, iv (1 : Int32), rv wKind_RETRYABLE_FAILURE, iv (2 : Int32), iv (i2.toInt8.toInt32), iv ((i2 >>> ((8 : Int32) &&& 31)).toInt8.toInt32), iv ((i2 >>> ((16 : Int32) &&& 31)).toInt8.toInt32), iv ((i3 ||| (1 : Int32)).toInt8.toInt32), rv b2_0, rv b6_0, rv b6_1, rv b6_2] [(.ref wKind_RETRYABLE_FAILURE), (.ref wKind_RETRYABLE_FAILURE)] _
    refine Jvm.RoadKit.acmp (g := (mkF m 288 #[iv i0, iv i1, iv i2, iv i3, iv (1 : Int32), rv wKind_RETRYABLE_FAILURE, iv (2 : Int32), iv (i2.toInt8.toInt32), iv ((i2 >>> ((8 : Int32) &&& 31)).toInt8.toInt32), iv ((i2 >>> ((16 : Int32) &&& 31)).toInt8.toInt32), iv ((i3 ||| (1 : Int32)).toInt8.toInt32), rv b2_0, rv b6_0, rv b6_1, rv b6_2] [(.ref wKind_RETRYABLE_FAILURE), (.ref wKind_RETRYABLE_FAILURE)])) X8 hx rfl rfl rfl (pc0 := 288) (pc' := 291) (same := true) rfl (hb hby at_288) rfl (decide_eq_true rfl) (by decide) (by decide) ?_
    show St p e below T8 m 291 #[iv i0, iv i1, iv i2, iv i3, iv (1 : Int32), rv wKind_RETRYABLE_FAILURE, iv (2 : Int32), iv (i2.toInt8.toInt32), iv ((i2 >>> ((8 : Int32) &&& 31)).toInt8.toInt32), iv ((i2 >>> ((16 : Int32) &&& 31)).toInt8.toInt32), iv ((i3 ||| (1 : Int32)).toInt8.toInt32), rv b2_0, rv b6_0, rv b6_1, rv b6_2] [] _
    refine XS.iconst X8.here hx rfl (hb hby at_291) ?_
    show St p e below T8 m 292 #[iv i0, iv i1, iv i2, iv i3, iv (1 : Int32), rv wKind_RETRYABLE_FAILURE, iv (2 : Int32), iv (i2.toInt8.toInt32), iv ((i2 >>> ((8 : Int32) &&& 31)).toInt8.toInt32), iv ((i2 >>> ((16 : Int32) &&& 31)).toInt8.toInt32), iv ((i3 ||| (1 : Int32)).toInt8.toInt32), rv b2_0, rv b6_0, rv b6_1, rv b6_2] [(.int (1 : Int32))] _
    refine XS.goto X8.here hx rfl (pc0 := 292) (pc' := 296) rfl (hb hby at_292) (by decide) (by decide) ?_
    show St p e below T8 m 296 #[iv i0, iv i1, iv i2, iv i3, iv (1 : Int32), rv wKind_RETRYABLE_FAILURE, iv (2 : Int32), iv (i2.toInt8.toInt32), iv ((i2 >>> ((8 : Int32) &&& 31)).toInt8.toInt32), iv ((i2 >>> ((16 : Int32) &&& 31)).toInt8.toInt32), iv ((i3 ||| (1 : Int32)).toInt8.toInt32), rv b2_0, rv b6_0, rv b6_1, rv b6_2] [(.int (1 : Int32))] _
    exact retN X8 hx (t := .boolean) Bd.returns (by simp) (hb hby at_296) hr
  · show law_7Q Z wKind_SUCCESS wKind_RETRYABLE_FAILURE wKind_FINAL_FAILURE i0 i1 i2 i3 h0 n0 _ T8.heap _
    rw [e8]
    exact ⟨rfl, N8⟩
def law_8Q (Z : State) (wKind_SUCCESS : Addr) (wKind_RETRYABLE_FAILURE : Addr) (wKind_FINAL_FAILURE : Addr) (i0 : Int32) (i1 : Int32) (i2 : Int32) (i3 : Int32) (h0 : Heap) (n0 : Nat) (v : Option Value) (h : Heap) (L : List Loc) : Prop := v = some (.int (1 : Int32)) ∧ Fr n0 L
theorem law_8e (m : MethodId) (wKind_SUCCESS : Addr) (wKind_RETRYABLE_FAILURE : Addr) (wKind_FINAL_FAILURE : Addr) (i0 : Int32) (i1 : Int32) (i2 : Int32) (i3 : Int32) : entryFrame m #[(.int i0), (.int i1), (.int i2), (.int i3)] maxLocals = mkF m 0 #[iv i0, iv i1, iv i2, iv i3, .unset, .unset, .unset, .unset, .unset, .unset, .unset, .unset, .unset, .unset, .unset] [] := by first | (simp [entryFrame, mkF, argsToLocals, Value.category, maxLocals]; done) | rfl
set_option maxRecDepth 65536 in
set_option maxHeartbeats 40000000 in
theorem law_8 (l : Launch) (Z : State) (a0 : Array Value) (hw : HW a0 Z) (ws : List Jvm.Cond) (wKind_SUCCESS : Addr) (wKind_RETRYABLE_FAILURE : Addr) (wKind_FINAL_FAILURE : Addr) (B : Base Z wKind_SUCCESS wKind_RETRYABLE_FAILURE wKind_FINAL_FAILURE) (i0 : Int32) (i1 : Int32) (i2 : Int32) (i3 : Int32) (h0 : Heap) (n0 : Nat) (O0 : Old Z n0 h0) (pin0 : ((i0 &&& (2147483647 : Int32)) % (3 : Int32)) = (1 : Int32)) (pin1 : (i1 &&& (3 : Int32)) = (3 : Int32)) (hc4 : (nar .byte (i2.toInt8.toInt32)) = (i2.toInt8.toInt32)) (hc5 : (nar .byte ((i2 >>> ((8 : Int32) &&& 31)).toInt8.toInt32)) = ((i2 >>> ((8 : Int32) &&& 31)).toInt8.toInt32)) (hc6 : (nar .byte ((i2 >>> ((16 : Int32) &&& 31)).toInt8.toInt32)) = ((i2 >>> ((16 : Int32) &&& 31)).toInt8.toInt32)) :
    MetFree l x (head1 (Jvm.Cond.code x code maxLocals ret :: ws) room_1) (fun a U => a = #[(.int i0), (.int i1), (.int i2), (.int i3)] ∧ Z.Warmed39 U.vm ∧ U.heap = h0) (fun _ _ _ _ _ => True) (fun _ U o U' => ∃ v L, o = .returned v ∧ law_8Q Z wKind_SUCCESS wKind_RETRYABLE_FAILURE wKind_FINAL_FAILURE i0 i1 i2 i3 h0 n0 v U'.heap L ∧ ReturnedEndW U o U' L room_1.cells room_1.slots) := by
  refine MetFree.of_bodySF (plainFor_of_name pn_com_example_nervous_key_nervouskey_OutcomeOfPinLaw) hisR ?_
  intro p e s m args below meth c s₁ Bd hml0 hP hK
  obtain ⟨rfl, hZ, hh⟩ := hP
  have hx := Bd.exec
  have hby := Bd.bytes
  have hml : c.maxLocals = 15 := hml0
  have hown : s.vm.findClass "com/example/nervous_key/nervouskey/OutcomeOfPinLaw" = some m.cls := findClass_of_methodNamed Bd.named
  have hnm := (name_of_methodNamed Bd.named Bd.method).1
  have X0 : Stand p l e room_1 s m #[(.int i0), (.int i1), (.int i2), (.int i3)] below meth c s₁ [] 0 0 := Stand.of_body Bd
  have e0 : s₁.heap = h0 := by rw [← hh, Bd.state]; rfl
  have N0 := Fr.nil n0
  have pre0 : ∀ t, Steps p.tables e below (s₁.setTop (mkF m 0 #[iv i0, iv i1, iv i2, iv i3, .unset, .unset, .unset, .unset, .unset, .unset, .unset, .unset, .unset, .unset, .unset] [])) t → Steps p.tables e below (s₁.setTop (entryFrame m #[(.int i0), (.int i1), (.int i2), (.int i3)] maxLocals)) t := fun t k => castTop (law_8e m wKind_SUCCESS wKind_RETRYABLE_FAILURE wKind_FINAL_FAILURE i0 i1 i2 i3) k
  obtain ⟨T1, X1, e1, st1⟩ := getS2 X0 hx hZ hown (host := "") (Or.inl (ow hw 58 rfl)) Via.refl e0 (B.2.2.1.ext O0.2) (g := (mkF m 27 #[iv i0, iv i1, iv i2, iv i3, iv (1 : Int32), .unset, .unset, .unset, .unset, .unset, .unset, .unset, .unset, .unset, .unset] [])) rfl (hb hby at_27)
  obtain ⟨T2, h2, L2, b2_0, k2_0, X2, e2, N2, K2, lo2_1, f2_2, f2_3, st2⟩ := g0_7 i0 i1 i2 i3 (1 : Int32) wKind_RETRYABLE_FAILURE (i2.toInt8.toInt32) ((i2 >>> ((8 : Int32) &&& 31)).toInt8.toInt32) ((i2 >>> ((16 : Int32) &&& 31)).toInt8.toInt32) ((i3 ||| (1 : Int32)).toInt8.toInt32) X1 hx hZ hw hby hml hown e1 O0 N0 (by decide) (by decide) (by decide) (by decide)
  have O_K2 : Old Z n0 h2 := O0.keep K2 all0
  have Kp_K2 : Keep h0 h2 [] := (Keep.refl h0 []).trans K2 all0
  have g3 : n0 ≤ b2_0 := Nat.le_trans (Nat.le_trans (Nat.le_of_eq O0.1.symm) O0.2.1) lo2_1
  obtain ⟨T7, h7, L7, vm7, b7_0, b7_1, b7_2, b7_3, X7, e7, hSq7, N7, K7, lo7_1, lo7_2, lo7_3, lo7_4, nq7_5, nq7_6, nq7_7, nq7_8, nq7_9, nq7_10, f7_11, f7_12, f7_13, f7_14, f7_15, f7_16, f7_17, f7_18, f7_19, f7_20, f7_21, st7⟩ := g0_8 i0 i1 i2 i3 (1 : Int32) wKind_RETRYABLE_FAILURE (i2.toInt8.toInt32) ((i2 >>> ((8 : Int32) &&& 31)).toInt8.toInt32) ((i2 >>> ((16 : Int32) &&& 31)).toInt8.toInt32) ((i3 ||| (1 : Int32)).toInt8.toInt32) b2_0 k2_0 (nar .byte (i2.toInt8.toInt32)) (nar .byte ((i2 >>> ((8 : Int32) &&& 31)).toInt8.toInt32)) (nar .byte ((i2 >>> ((16 : Int32) &&& 31)).toInt8.toInt32)) X2 hx hZ hw hby hml hown e2 O_K2 N2 (by decide) (by decide) (by decide) (by decide) B.2.2.2.1 f2_3 f2_2 g3 hc4 hc5 hc6
  obtain ⟨Y7, hS7, hZ7, hown7⟩ := rebS (s := s) (vm0 := s.vm) (State.WarmedH.since (State.WarmedH.refl s) 0) (Nat.zero_le _) X7 hSq7 K7.1 hZ hown
  have z8 : h0.size ≤ b2_0 := Nat.le_trans (Keep.refl h0 []).1 lo2_1
  have O_K7 : Old Z n0 h7 := O_K2.keep K7 (allS g3 all0)
  have Kp_K7 : Keep h0 h7 [] := Kp_K2.trans K7 (allS (Or.inr z8) all0)
  obtain ⟨cq9, kq9, q9a, q9b, q9c⟩ := isOf hZ7 e7 f7_13
  obtain ⟨_, _, ⟨T9, L9, k9, n9⟩, -, X9, ⟨Lc9, hQ9, l9, y9, z9⟩, st9⟩ := Y7.virtualBack hx (y := y4) (z := y4) hown7 (mvT hZ7 (ow hw 44 rfl)) (mvT hZ7 (ow hw 45 rfl)) (notFace_of_selects (args := #[]) (mvT hZ7 (ow hw 47 rfl))) (mvT hZ7 (ow hw 47 rfl)) (mvT hZ7 (ow hw 46 rfl)) (by decide) (backOf (W := 0) (r4_1 l Z a0 hw [] b7_0 wKind_RETRYABLE_FAILURE h7 n0 O_K7 f7_14) hZ7 (ow hw 48 rfl) (ow hw 7 rfl) (by decide) (by decide)) q9a q9c (g := (mkF m 283 #[iv i0, iv i1, iv i2, iv i3, iv (1 : Int32), rv wKind_RETRYABLE_FAILURE, iv (3 : Int32), iv (i2.toInt8.toInt32), iv ((i2 >>> ((8 : Int32) &&& 31)).toInt8.toInt32), iv ((i2 >>> ((16 : Int32) &&& 31)).toInt8.toInt32), iv ((i3 ||| (1 : Int32)).toInt8.toInt32), rv b2_0, rv b7_0, rv b7_1, rv b7_2] [(.ref b7_0)])) rfl (by rw [hml]; rfl) (Steps.refl _) (argsL := []) (rest := []) (lenOf pd___Lcom_example_nervous_key_nervouskey_Outcome_Kind_ rfl) rfl (by show 2 * 0 + _ ≤ _; exact Nat.le_of_eq rfl) (hb hby at_283) (fun _ _ => ⟨rfl, e7, (by decide : 9 + 0 ≤ _), (by decide : 62 + 0 ≤ _)⟩)
  dsimp only [Pt.U, Pt.locs, Pt.cells, Pt.slots] at X9 l9 y9 z9 st9 hQ9
  subst l9 y9 z9
  obtain ⟨rfl, N9q, e9⟩ := hQ9
  have N9 := Fr.app N7 N9q
  obtain ⟨fs, hr, hrun, hended, hE⟩ := Stand.leaveW (s := s) (vm₁ := vm7) X9 hS7 (by rw [e9]; exact (Nat.le_refl _)) (v := some (.int (1 : Int32))) (fun h => by rw [Bd.returns] at h; cases h)
  refine ⟨_, _, pre0 _ ?_, hrun, hended, _, _, rfl, ?_, hE.1, hE.2.1, hE.2.2.1, hE.2.2.2.mono (by decide) (by decide)⟩
  · show St p e below s₁ m 0 #[iv i0, iv i1, iv i2, iv i3, .unset, .unset, .unset, .unset, .unset, .unset, .unset, .unset, .unset, .unset, .unset] [] _
    refine XS.iloadN X0.here hx rfl (hb hby at_0) rfl ?_
    show St p e below s₁ m 1 #[iv i0, iv i1, iv i2, iv i3, .unset, .unset, .unset, .unset, .unset, .unset, .unset, .unset, .unset, .unset, .unset] [(.int i0)] _
    refine X0.ldcInt hx hown (mvT hZ (ow hw 0 rfl)) (g := (mkF m 1 #[iv i0, iv i1, iv i2, iv i3, .unset, .unset, .unset, .unset, .unset, .unset, .unset, .unset, .unset, .unset, .unset] [(.int i0)])) rfl (hb hby at_1) _ ?_
    show St p e below s₁ m 3 #[iv i0, iv i1, iv i2, iv i3, .unset, .unset, .unset, .unset, .unset, .unset, .unset, .unset, .unset, .unset, .unset] [(.int (2147483647 : Int32)), (.int i0)] _
    refine XS.iand X0.here hx rfl (hb hby at_3) rfl ?_
    show St p e below s₁ m 4 #[iv i0, iv i1, iv i2, iv i3, .unset, .unset, .unset, .unset, .unset, .unset, .unset, .unset, .unset, .unset, .unset] [(.int (i0 &&& (2147483647 : Int32)))] _
    refine XS.iconst X0.here hx rfl (hb hby at_4) ?_
    show St p e below s₁ m 5 #[iv i0, iv i1, iv i2, iv i3, .unset, .unset, .unset, .unset, .unset, .unset, .unset, .unset, .unset, .unset, .unset] [(.int (3 : Int32)), (.int (i0 &&& (2147483647 : Int32)))] _
    refine Jvm.RoadKit.iremM (g := (mkF m 5 #[iv i0, iv i1, iv i2, iv i3, .unset, .unset, .unset, .unset, .unset, .unset, .unset, .unset, .unset, .unset, .unset] [(.int (3 : Int32)), (.int (i0 &&& (2147483647 : Int32)))])) X0 hx rfl (hb hby at_5) rfl (by decide : ¬ ((3 : Int32) = (0 : Int32))) ?_
    show St p e below s₁ m 6 #[iv i0, iv i1, iv i2, iv i3, .unset, .unset, .unset, .unset, .unset, .unset, .unset, .unset, .unset, .unset, .unset] [(.int ((i0 &&& (2147483647 : Int32)) % (3 : Int32)))] _
    rw [pin0]
    show St p e below s₁ m 6 #[iv i0, iv i1, iv i2, iv i3, .unset, .unset, .unset, .unset, .unset, .unset, .unset, .unset, .unset, .unset, .unset] [(.int (1 : Int32))] _
    refine XS.istore X0.here hx rfl (hb hby at_6) rfl (l' := #[iv i0, iv i1, iv i2, iv i3, iv (1 : Int32), .unset, .unset, .unset, .unset, .unset, .unset, .unset, .unset, .unset, .unset]) rfl ?_
    show St p e below s₁ m 8 #[iv i0, iv i1, iv i2, iv i3, iv (1 : Int32), .unset, .unset, .unset, .unset, .unset, .unset, .unset, .unset, .unset, .unset] [] _
    refine XS.iload X0.here hx rfl (hb hby at_8) rfl ?_
    show St p e below s₁ m 10 #[iv i0, iv i1, iv i2, iv i3, iv (1 : Int32), .unset, .unset, .unset, .unset, .unset, .unset, .unset, .unset, .unset, .unset] [(.int (1 : Int32))] _
    refine XS.ifYes X0.here hx rfl (pc0 := 10) (pc' := 21) rfl (hb hby at_10) rfl ((if0 _ _).trans (feq (by decide : ¬ ((1 : Int32) = (0 : Int32)))).2) (by decide) (by decide) ?_
    show St p e below s₁ m 21 #[iv i0, iv i1, iv i2, iv i3, iv (1 : Int32), .unset, .unset, .unset, .unset, .unset, .unset, .unset, .unset, .unset, .unset] [] _
    refine XS.iload X0.here hx rfl (hb hby at_21) rfl ?_
    show St p e below s₁ m 23 #[iv i0, iv i1, iv i2, iv i3, iv (1 : Int32), .unset, .unset, .unset, .unset, .unset, .unset, .unset, .unset, .unset, .unset] [(.int (1 : Int32))] _
    refine XS.iconst X0.here hx rfl (hb hby at_23) ?_
    show St p e below s₁ m 24 #[iv i0, iv i1, iv i2, iv i3, iv (1 : Int32), .unset, .unset, .unset, .unset, .unset, .unset, .unset, .unset, .unset, .unset] [(.int (1 : Int32)), (.int (1 : Int32))] _
    refine XS.icmpNo X0.here hx rfl (hb hby at_24) rfl (teq (rfl : (1 : Int32) = (1 : Int32))).2 ?_
    show St p e below s₁ m 27 #[iv i0, iv i1, iv i2, iv i3, iv (1 : Int32), .unset, .unset, .unset, .unset, .unset, .unset, .unset, .unset, .unset, .unset] [] _
    refine st1 _ ?_
    show St p e below T1 m 30 #[iv i0, iv i1, iv i2, iv i3, iv (1 : Int32), .unset, .unset, .unset, .unset, .unset, .unset, .unset, .unset, .unset, .unset] [(.ref wKind_RETRYABLE_FAILURE)] _
    refine XS.astore X1.here hx rfl (hb hby at_30) rfl rfl (l' := #[iv i0, iv i1, iv i2, iv i3, iv (1 : Int32), rv wKind_RETRYABLE_FAILURE, .unset, .unset, .unset, .unset, .unset, .unset, .unset, .unset, .unset]) rfl ?_
    show St p e below T1 m 32 #[iv i0, iv i1, iv i2, iv i3, iv (1 : Int32), rv wKind_RETRYABLE_FAILURE, .unset, .unset, .unset, .unset, .unset, .unset, .unset, .unset, .unset] [] _
    refine XS.goto X1.here hx rfl (pc0 := 32) (pc' := 40) rfl (hb hby at_32) (by decide) (by decide) ?_
    show St p e below T1 m 40 #[iv i0, iv i1, iv i2, iv i3, iv (1 : Int32), rv wKind_RETRYABLE_FAILURE, .unset, .unset, .unset, .unset, .unset, .unset, .unset, .unset, .unset] [] _
    refine XS.iloadN X1.here hx rfl (hb hby at_40) rfl ?_
    show St p e below T1 m 41 #[iv i0, iv i1, iv i2, iv i3, iv (1 : Int32), rv wKind_RETRYABLE_FAILURE, .unset, .unset, .unset, .unset, .unset, .unset, .unset, .unset, .unset] [(.int i1)] _
    refine XS.iconst X1.here hx rfl (hb hby at_41) ?_
    show St p e below T1 m 42 #[iv i0, iv i1, iv i2, iv i3, iv (1 : Int32), rv wKind_RETRYABLE_FAILURE, .unset, .unset, .unset, .unset, .unset, .unset, .unset, .unset, .unset] [(.int (3 : Int32)), (.int i1)] _
    refine XS.iand X1.here hx rfl (hb hby at_42) rfl ?_
    show St p e below T1 m 43 #[iv i0, iv i1, iv i2, iv i3, iv (1 : Int32), rv wKind_RETRYABLE_FAILURE, .unset, .unset, .unset, .unset, .unset, .unset, .unset, .unset, .unset] [(.int (i1 &&& (3 : Int32)))] _
    rw [pin1]
    show St p e below T1 m 43 #[iv i0, iv i1, iv i2, iv i3, iv (1 : Int32), rv wKind_RETRYABLE_FAILURE, .unset, .unset, .unset, .unset, .unset, .unset, .unset, .unset, .unset] [(.int (3 : Int32))] _
    refine XS.istore X1.here hx rfl (hb hby at_43) rfl (l' := #[iv i0, iv i1, iv i2, iv i3, iv (1 : Int32), rv wKind_RETRYABLE_FAILURE, iv (3 : Int32), .unset, .unset, .unset, .unset, .unset, .unset, .unset, .unset]) rfl ?_
    show St p e below T1 m 45 #[iv i0, iv i1, iv i2, iv i3, iv (1 : Int32), rv wKind_RETRYABLE_FAILURE, iv (3 : Int32), .unset, .unset, .unset, .unset, .unset, .unset, .unset, .unset] [] _
    refine XS.iloadN X1.here hx rfl (hb hby at_45) rfl ?_
    show St p e below T1 m 46 #[iv i0, iv i1, iv i2, iv i3, iv (1 : Int32), rv wKind_RETRYABLE_FAILURE, iv (3 : Int32), .unset, .unset, .unset, .unset, .unset, .unset, .unset, .unset] [(.int i2)] _
    refine XS.i2b X1.here hx rfl (hb hby at_46) rfl ?_
    show St p e below T1 m 47 #[iv i0, iv i1, iv i2, iv i3, iv (1 : Int32), rv wKind_RETRYABLE_FAILURE, iv (3 : Int32), .unset, .unset, .unset, .unset, .unset, .unset, .unset, .unset] [(.int (i2.toInt8.toInt32))] _
    refine XS.istore X1.here hx rfl (hb hby at_47) rfl (l' := #[iv i0, iv i1, iv i2, iv i3, iv (1 : Int32), rv wKind_RETRYABLE_FAILURE, iv (3 : Int32), iv (i2.toInt8.toInt32), .unset, .unset, .unset, .unset, .unset, .unset, .unset]) rfl ?_
    show St p e below T1 m 49 #[iv i0, iv i1, iv i2, iv i3, iv (1 : Int32), rv wKind_RETRYABLE_FAILURE, iv (3 : Int32), iv (i2.toInt8.toInt32), .unset, .unset, .unset, .unset, .unset, .unset, .unset] [] _
    refine XS.iloadN X1.here hx rfl (hb hby at_49) rfl ?_
    show St p e below T1 m 50 #[iv i0, iv i1, iv i2, iv i3, iv (1 : Int32), rv wKind_RETRYABLE_FAILURE, iv (3 : Int32), iv (i2.toInt8.toInt32), .unset, .unset, .unset, .unset, .unset, .unset, .unset] [(.int i2)] _
    refine XS.bipush X1.here hx rfl (hb hby at_50) ?_
    show St p e below T1 m 52 #[iv i0, iv i1, iv i2, iv i3, iv (1 : Int32), rv wKind_RETRYABLE_FAILURE, iv (3 : Int32), iv (i2.toInt8.toInt32), .unset, .unset, .unset, .unset, .unset, .unset, .unset] [(.int (8 : Int32)), (.int i2)] _
    refine XS.ishr X1.here hx rfl (hb hby at_52) rfl ?_
    show St p e below T1 m 53 #[iv i0, iv i1, iv i2, iv i3, iv (1 : Int32), rv wKind_RETRYABLE_FAILURE, iv (3 : Int32), iv (i2.toInt8.toInt32), .unset, .unset, .unset, .unset, .unset, .unset, .unset] [(.int (i2 >>> ((8 : Int32) &&& 31)))] _
    refine XS.i2b X1.here hx rfl (hb hby at_53) rfl ?_
    show St p e below T1 m 54 #[iv i0, iv i1, iv i2, iv i3, iv (1 : Int32), rv wKind_RETRYABLE_FAILURE, iv (3 : Int32), iv (i2.toInt8.toInt32), .unset, .unset, .unset, .unset, .unset, .unset, .unset] [(.int ((i2 >>> ((8 : Int32) &&& 31)).toInt8.toInt32))] _
    refine XS.istore X1.here hx rfl (hb hby at_54) rfl (l' := #[iv i0, iv i1, iv i2, iv i3, iv (1 : Int32), rv wKind_RETRYABLE_FAILURE, iv (3 : Int32), iv (i2.toInt8.toInt32), iv ((i2 >>> ((8 : Int32) &&& 31)).toInt8.toInt32), .unset, .unset, .unset, .unset, .unset, .unset]) rfl ?_
    show St p e below T1 m 56 #[iv i0, iv i1, iv i2, iv i3, iv (1 : Int32), rv wKind_RETRYABLE_FAILURE, iv (3 : Int32), iv (i2.toInt8.toInt32), iv ((i2 >>> ((8 : Int32) &&& 31)).toInt8.toInt32), .unset, .unset, .unset, .unset, .unset, .unset] [] _
    refine XS.iloadN X1.here hx rfl (hb hby at_56) rfl ?_
    show St p e below T1 m 57 #[iv i0, iv i1, iv i2, iv i3, iv (1 : Int32), rv wKind_RETRYABLE_FAILURE, iv (3 : Int32), iv (i2.toInt8.toInt32), iv ((i2 >>> ((8 : Int32) &&& 31)).toInt8.toInt32), .unset, .unset, .unset, .unset, .unset, .unset] [(.int i2)] _
    refine XS.bipush X1.here hx rfl (hb hby at_57) ?_
    show St p e below T1 m 59 #[iv i0, iv i1, iv i2, iv i3, iv (1 : Int32), rv wKind_RETRYABLE_FAILURE, iv (3 : Int32), iv (i2.toInt8.toInt32), iv ((i2 >>> ((8 : Int32) &&& 31)).toInt8.toInt32), .unset, .unset, .unset, .unset, .unset, .unset] [(.int (16 : Int32)), (.int i2)] _
    refine XS.ishr X1.here hx rfl (hb hby at_59) rfl ?_
    show St p e below T1 m 60 #[iv i0, iv i1, iv i2, iv i3, iv (1 : Int32), rv wKind_RETRYABLE_FAILURE, iv (3 : Int32), iv (i2.toInt8.toInt32), iv ((i2 >>> ((8 : Int32) &&& 31)).toInt8.toInt32), .unset, .unset, .unset, .unset, .unset, .unset] [(.int (i2 >>> ((16 : Int32) &&& 31)))] _
    refine XS.i2b X1.here hx rfl (hb hby at_60) rfl ?_
    show St p e below T1 m 61 #[iv i0, iv i1, iv i2, iv i3, iv (1 : Int32), rv wKind_RETRYABLE_FAILURE, iv (3 : Int32), iv (i2.toInt8.toInt32), iv ((i2 >>> ((8 : Int32) &&& 31)).toInt8.toInt32), .unset, .unset, .unset, .unset, .unset, .unset] [(.int ((i2 >>> ((16 : Int32) &&& 31)).toInt8.toInt32))] _
    refine XS.istore X1.here hx rfl (hb hby at_61) rfl (l' := #[iv i0, iv i1, iv i2, iv i3, iv (1 : Int32), rv wKind_RETRYABLE_FAILURE, iv (3 : Int32), iv (i2.toInt8.toInt32), iv ((i2 >>> ((8 : Int32) &&& 31)).toInt8.toInt32), iv ((i2 >>> ((16 : Int32) &&& 31)).toInt8.toInt32), .unset, .unset, .unset, .unset, .unset]) rfl ?_
    show St p e below T1 m 63 #[iv i0, iv i1, iv i2, iv i3, iv (1 : Int32), rv wKind_RETRYABLE_FAILURE, iv (3 : Int32), iv (i2.toInt8.toInt32), iv ((i2 >>> ((8 : Int32) &&& 31)).toInt8.toInt32), iv ((i2 >>> ((16 : Int32) &&& 31)).toInt8.toInt32), .unset, .unset, .unset, .unset, .unset] [] _
    refine XS.iloadN X1.here hx rfl (hb hby at_63) rfl ?_
    show St p e below T1 m 64 #[iv i0, iv i1, iv i2, iv i3, iv (1 : Int32), rv wKind_RETRYABLE_FAILURE, iv (3 : Int32), iv (i2.toInt8.toInt32), iv ((i2 >>> ((8 : Int32) &&& 31)).toInt8.toInt32), iv ((i2 >>> ((16 : Int32) &&& 31)).toInt8.toInt32), .unset, .unset, .unset, .unset, .unset] [(.int i3)] _
    refine XS.iconst X1.here hx rfl (hb hby at_64) ?_
    show St p e below T1 m 65 #[iv i0, iv i1, iv i2, iv i3, iv (1 : Int32), rv wKind_RETRYABLE_FAILURE, iv (3 : Int32), iv (i2.toInt8.toInt32), iv ((i2 >>> ((8 : Int32) &&& 31)).toInt8.toInt32), iv ((i2 >>> ((16 : Int32) &&& 31)).toInt8.toInt32), .unset, .unset, .unset, .unset, .unset] [(.int (1 : Int32)), (.int i3)] _
    refine XS.ior X1.here hx rfl (hb hby at_65) rfl ?_
    show St p e below T1 m 66 #[iv i0, iv i1, iv i2, iv i3, iv (1 : Int32), rv wKind_RETRYABLE_FAILURE, iv (3 : Int32), iv (i2.toInt8.toInt32), iv ((i2 >>> ((8 : Int32) &&& 31)).toInt8.toInt32), iv ((i2 >>> ((16 : Int32) &&& 31)).toInt8.toInt32), .unset, .unset, .unset, .unset, .unset] [(.int (i3 ||| (1 : Int32)))] _
    refine XS.i2b X1.here hx rfl (hb hby at_66) rfl ?_
    show St p e below T1 m 67 #[iv i0, iv i1, iv i2, iv i3, iv (1 : Int32), rv wKind_RETRYABLE_FAILURE, iv (3 : Int32), iv (i2.toInt8.toInt32), iv ((i2 >>> ((8 : Int32) &&& 31)).toInt8.toInt32), iv ((i2 >>> ((16 : Int32) &&& 31)).toInt8.toInt32), .unset, .unset, .unset, .unset, .unset] [(.int ((i3 ||| (1 : Int32)).toInt8.toInt32))] _
    refine XS.istore X1.here hx rfl (hb hby at_67) rfl (l' := #[iv i0, iv i1, iv i2, iv i3, iv (1 : Int32), rv wKind_RETRYABLE_FAILURE, iv (3 : Int32), iv (i2.toInt8.toInt32), iv ((i2 >>> ((8 : Int32) &&& 31)).toInt8.toInt32), iv ((i2 >>> ((16 : Int32) &&& 31)).toInt8.toInt32), iv ((i3 ||| (1 : Int32)).toInt8.toInt32), .unset, .unset, .unset, .unset]) rfl ?_
    refine st2 _ ?_
    refine st7 _ ?_
    show St p e below T7 m 281 #[iv i0, iv i1, iv i2, iv i3, iv (1 : Int32), rv wKind_RETRYABLE_FAILURE, iv (3 : Int32), iv (i2.toInt8.toInt32), iv ((i2 >>> ((8 : Int32) &&& 31)).toInt8.toInt32), iv ((i2 >>> ((16 : Int32) &&& 31)).toInt8.toInt32), iv ((i3 ||| (1 : Int32)).toInt8.toInt32), rv b2_0, rv b7_0, rv b7_1, rv b7_2] [] _
    refine XS.aload Y7.here hx rfl (hb hby at_281) rfl rfl ?_
    show St p e below T7 m 283 #[iv i0, iv i1, iv i2, iv i3, iv (1 : Int32), rv wKind_RETRYABLE_FAILURE, iv (3 : Int32), iv (i2.toInt8.toInt32), iv ((i2 >>> ((8 : Int32) &&& 31)).toInt8.toInt32), iv ((i2 >>> ((16 : Int32) &&& 31)).toInt8.toInt32), iv ((i3 ||| (1 : Int32)).toInt8.toInt32), rv b2_0, rv b7_0, rv b7_1, rv b7_2] [(.ref b7_0)] _
    refine st9.trans ?_
    show St p e below T9 m 286 #[iv i0, iv i1, iv i2, iv i3, iv (1 : Int32), rv wKind_RETRYABLE_FAILURE, iv (3 : Int32), iv (i2.toInt8.toInt32), iv ((i2 >>> ((8 : Int32) &&& 31)).toInt8.toInt32), iv ((i2 >>> ((16 : Int32) &&& 31)).toInt8.toInt32), iv ((i3 ||| (1 : Int32)).toInt8.toInt32), rv b2_0, rv b7_0, rv b7_1, rv b7_2] [(.ref wKind_RETRYABLE_FAILURE)] _
    refine XS.aload X9.here hx rfl (hb hby at_286) rfl rfl ?_
    show St p e below T9 m 288 #[iv i0, iv i1, iv i2, iv i3, iv (1 : Int32), rv wKind_RETRYABLE_FAILURE, iv (3 : Int32), iv (i2.toInt8.toInt32), iv ((i2 >>> ((8 : Int32) &&& 31)).toInt8.toInt32), iv ((i2 >>> ((16 : Int32) &&& 31)).toInt8.toInt32), iv ((i3 ||| (1 : Int32)).toInt8.toInt32), rv b2_0, rv b7_0, rv b7_1, rv b7_2] [(.ref wKind_RETRYABLE_FAILURE), (.ref wKind_RETRYABLE_FAILURE)] _
    refine Jvm.RoadKit.acmp (g := (mkF m 288 #[iv i0, iv i1, iv i2, iv i3, iv (1 : Int32), rv wKind_RETRYABLE_FAILURE, iv (3 : Int32), iv (i2.toInt8.toInt32), iv ((i2 >>> ((8 : Int32) &&& 31)).toInt8.toInt32), iv ((i2 >>> ((16 : Int32) &&& 31)).toInt8.toInt32), iv ((i3 ||| (1 : Int32)).toInt8.toInt32), rv b2_0, rv b7_0, rv b7_1, rv b7_2] [(.ref wKind_RETRYABLE_FAILURE), (.ref wKind_RETRYABLE_FAILURE)])) X9 hx rfl rfl rfl (pc0 := 288) (pc' := 291) (same := true) rfl (hb hby at_288) rfl (decide_eq_true rfl) (by decide) (by decide) ?_
    show St p e below T9 m 291 #[iv i0, iv i1, iv i2, iv i3, iv (1 : Int32), rv wKind_RETRYABLE_FAILURE, iv (3 : Int32), iv (i2.toInt8.toInt32), iv ((i2 >>> ((8 : Int32) &&& 31)).toInt8.toInt32), iv ((i2 >>> ((16 : Int32) &&& 31)).toInt8.toInt32), iv ((i3 ||| (1 : Int32)).toInt8.toInt32), rv b2_0, rv b7_0, rv b7_1, rv b7_2] [] _
    refine XS.iconst X9.here hx rfl (hb hby at_291) ?_
    show St p e below T9 m 292 #[iv i0, iv i1, iv i2, iv i3, iv (1 : Int32), rv wKind_RETRYABLE_FAILURE, iv (3 : Int32), iv (i2.toInt8.toInt32), iv ((i2 >>> ((8 : Int32) &&& 31)).toInt8.toInt32), iv ((i2 >>> ((16 : Int32) &&& 31)).toInt8.toInt32), iv ((i3 ||| (1 : Int32)).toInt8.toInt32), rv b2_0, rv b7_0, rv b7_1, rv b7_2] [(.int (1 : Int32))] _
    refine XS.goto X9.here hx rfl (pc0 := 292) (pc' := 296) rfl (hb hby at_292) (by decide) (by decide) ?_
    show St p e below T9 m 296 #[iv i0, iv i1, iv i2, iv i3, iv (1 : Int32), rv wKind_RETRYABLE_FAILURE, iv (3 : Int32), iv (i2.toInt8.toInt32), iv ((i2 >>> ((8 : Int32) &&& 31)).toInt8.toInt32), iv ((i2 >>> ((16 : Int32) &&& 31)).toInt8.toInt32), iv ((i3 ||| (1 : Int32)).toInt8.toInt32), rv b2_0, rv b7_0, rv b7_1, rv b7_2] [(.int (1 : Int32))] _
    exact retN X9 hx (t := .boolean) Bd.returns (by simp) (hb hby at_296) hr
  · show law_8Q Z wKind_SUCCESS wKind_RETRYABLE_FAILURE wKind_FINAL_FAILURE i0 i1 i2 i3 h0 n0 _ T9.heap _
    rw [e9]
    exact ⟨rfl, N9⟩
def law_9Q (Z : State) (wKind_SUCCESS : Addr) (wKind_RETRYABLE_FAILURE : Addr) (wKind_FINAL_FAILURE : Addr) (i0 : Int32) (i1 : Int32) (i2 : Int32) (i3 : Int32) (h0 : Heap) (n0 : Nat) (v : Option Value) (h : Heap) (L : List Loc) : Prop := v = some (.int (1 : Int32)) ∧ Fr n0 L
theorem law_9e (m : MethodId) (wKind_SUCCESS : Addr) (wKind_RETRYABLE_FAILURE : Addr) (wKind_FINAL_FAILURE : Addr) (i0 : Int32) (i1 : Int32) (i2 : Int32) (i3 : Int32) : entryFrame m #[(.int i0), (.int i1), (.int i2), (.int i3)] maxLocals = mkF m 0 #[iv i0, iv i1, iv i2, iv i3, .unset, .unset, .unset, .unset, .unset, .unset, .unset, .unset, .unset, .unset, .unset] [] := by first | (simp [entryFrame, mkF, argsToLocals, Value.category, maxLocals]; done) | rfl
set_option maxRecDepth 65536 in
set_option maxHeartbeats 40000000 in
theorem law_9 (l : Launch) (Z : State) (a0 : Array Value) (hw : HW a0 Z) (ws : List Jvm.Cond) (wKind_SUCCESS : Addr) (wKind_RETRYABLE_FAILURE : Addr) (wKind_FINAL_FAILURE : Addr) (B : Base Z wKind_SUCCESS wKind_RETRYABLE_FAILURE wKind_FINAL_FAILURE) (i0 : Int32) (i1 : Int32) (i2 : Int32) (i3 : Int32) (h0 : Heap) (n0 : Nat) (O0 : Old Z n0 h0) (pin0 : ((i0 &&& (2147483647 : Int32)) % (3 : Int32)) = (2 : Int32)) (pin1 : (i1 &&& (3 : Int32)) = (0 : Int32)) :
    MetFree l x (head1 (Jvm.Cond.code x code maxLocals ret :: ws) room_1) (fun a U => a = #[(.int i0), (.int i1), (.int i2), (.int i3)] ∧ Z.Warmed39 U.vm ∧ U.heap = h0) (fun _ _ _ _ _ => True) (fun _ U o U' => ∃ v L, o = .returned v ∧ law_9Q Z wKind_SUCCESS wKind_RETRYABLE_FAILURE wKind_FINAL_FAILURE i0 i1 i2 i3 h0 n0 v U'.heap L ∧ ReturnedEndW U o U' L room_1.cells room_1.slots) := by
  refine MetFree.of_bodySF (plainFor_of_name pn_com_example_nervous_key_nervouskey_OutcomeOfPinLaw) hisR ?_
  intro p e s m args below meth c s₁ Bd hml0 hP hK
  obtain ⟨rfl, hZ, hh⟩ := hP
  have hx := Bd.exec
  have hby := Bd.bytes
  have hml : c.maxLocals = 15 := hml0
  have hown : s.vm.findClass "com/example/nervous_key/nervouskey/OutcomeOfPinLaw" = some m.cls := findClass_of_methodNamed Bd.named
  have hnm := (name_of_methodNamed Bd.named Bd.method).1
  have X0 : Stand p l e room_1 s m #[(.int i0), (.int i1), (.int i2), (.int i3)] below meth c s₁ [] 0 0 := Stand.of_body Bd
  have e0 : s₁.heap = h0 := by rw [← hh, Bd.state]; rfl
  have N0 := Fr.nil n0
  have pre0 : ∀ t, Steps p.tables e below (s₁.setTop (mkF m 0 #[iv i0, iv i1, iv i2, iv i3, .unset, .unset, .unset, .unset, .unset, .unset, .unset, .unset, .unset, .unset, .unset] [])) t → Steps p.tables e below (s₁.setTop (entryFrame m #[(.int i0), (.int i1), (.int i2), (.int i3)] maxLocals)) t := fun t k => castTop (law_9e m wKind_SUCCESS wKind_RETRYABLE_FAILURE wKind_FINAL_FAILURE i0 i1 i2 i3) k
  obtain ⟨T1, X1, e1, st1⟩ := getS2 X0 hx hZ hown (host := "") (Or.inl (ow hw 60 rfl)) Via.refl e0 (B.2.2.2.2.1.ext O0.2) (g := (mkF m 35 #[iv i0, iv i1, iv i2, iv i3, iv (2 : Int32), .unset, .unset, .unset, .unset, .unset, .unset, .unset, .unset, .unset, .unset] [])) rfl (hb hby at_35)
  obtain ⟨T2, h2, L2, b2_0, k2_0, X2, e2, N2, K2, lo2_1, f2_2, f2_3, st2⟩ := g0_1 i0 i1 i2 i3 (2 : Int32) wKind_FINAL_FAILURE (i2.toInt8.toInt32) ((i2 >>> ((8 : Int32) &&& 31)).toInt8.toInt32) ((i2 >>> ((16 : Int32) &&& 31)).toInt8.toInt32) ((i3 ||| (1 : Int32)).toInt8.toInt32) X1 hx hZ hw hby hml hown e1 O0 N0 (by decide) (by decide) (by decide) (by decide)
  have O_K2 : Old Z n0 h2 := O0.keep K2 all0
  have Kp_K2 : Keep h0 h2 [] := (Keep.refl h0 []).trans K2 all0
  obtain ⟨T3, h3, L3, vm3, b3_0, b3_1, b3_2, b3_3, X3, e3, hSq3, N3, K3, lo3_1, lo3_2, lo3_3, lo3_4, nq3_5, nq3_6, nq3_7, nq3_8, nq3_9, nq3_10, f3_11, f3_12, f3_13, f3_14, f3_15, f3_16, f3_17, f3_18, f3_19, st3⟩ := g0_2 i0 i1 i2 i3 (2 : Int32) wKind_FINAL_FAILURE (i2.toInt8.toInt32) ((i2 >>> ((8 : Int32) &&& 31)).toInt8.toInt32) ((i2 >>> ((16 : Int32) &&& 31)).toInt8.toInt32) ((i3 ||| (1 : Int32)).toInt8.toInt32) b2_0 k2_0 X2 hx hZ hw hby hml hown e2 O_K2 N2 (by decide) (by decide) (by decide) (by decide) B.2.2.2.2.2 f2_3 f2_2
  obtain ⟨Y3, hS3, hZ3, hown3⟩ := rebS (s := s) (vm0 := s.vm) (State.WarmedH.since (State.WarmedH.refl s) 0) (Nat.zero_le _) X3 hSq3 K3.1 hZ hown
  have O_K3 : Old Z n0 h3 := O_K2.keep K3 all0
  have Kp_K3 : Keep h0 h3 [] := Kp_K2.trans K3 all0
  obtain ⟨cq4, kq4, q4a, q4b, q4c⟩ := isOf hZ3 e3 f3_11
  obtain ⟨_, _, ⟨T4, L4, k4, n4⟩, -, X4, ⟨Lc4, hQ4, l4, y4, z4⟩, st4⟩ := Y3.virtualBack hx (y := y4) (z := y4) hown3 (mvT hZ3 (ow hw 44 rfl)) (mvT hZ3 (ow hw 45 rfl)) (notFace_of_selects (args := #[]) (mvT hZ3 (ow hw 47 rfl))) (mvT hZ3 (ow hw 47 rfl)) (mvT hZ3 (ow hw 46 rfl)) (by decide) (backOf (W := 0) (r4_1 l Z a0 hw [] b3_0 wKind_FINAL_FAILURE h3 n0 O_K3 f3_12) hZ3 (ow hw 48 rfl) (ow hw 7 rfl) (by decide) (by decide)) q4a q4c (g := (mkF m 283 #[iv i0, iv i1, iv i2, iv i3, iv (2 : Int32), rv wKind_FINAL_FAILURE, iv (0 : Int32), iv (i2.toInt8.toInt32), iv ((i2 >>> ((8 : Int32) &&& 31)).toInt8.toInt32), iv ((i2 >>> ((16 : Int32) &&& 31)).toInt8.toInt32), iv ((i3 ||| (1 : Int32)).toInt8.toInt32), rv b2_0, rv b3_0, rv b3_1, rv b3_2] [(.ref b3_0)])) rfl (by rw [hml]; rfl) (Steps.refl _) (argsL := []) (rest := []) (lenOf pd___Lcom_example_nervous_key_nervouskey_Outcome_Kind_ rfl) rfl (by show 2 * 0 + _ ≤ _; exact Nat.le_of_eq rfl) (hb hby at_283) (fun _ _ => ⟨rfl, e3, (by decide : 9 + 0 ≤ _), (by decide : 50 + 0 ≤ _)⟩)
  dsimp only [Pt.U, Pt.locs, Pt.cells, Pt.slots] at X4 l4 y4 z4 st4 hQ4
  subst l4 y4 z4
  obtain ⟨rfl, N4q, e4⟩ := hQ4
  have N4 := Fr.app N3 N4q
  obtain ⟨fs, hr, hrun, hended, hE⟩ := Stand.leaveW (s := s) (vm₁ := vm3) X4 hS3 (by rw [e4]; exact (Nat.le_refl _)) (v := some (.int (1 : Int32))) (fun h => by rw [Bd.returns] at h; cases h)
  refine ⟨_, _, pre0 _ ?_, hrun, hended, _, _, rfl, ?_, hE.1, hE.2.1, hE.2.2.1, hE.2.2.2.mono (by decide) (by decide)⟩
  · show St p e below s₁ m 0 #[iv i0, iv i1, iv i2, iv i3, .unset, .unset, .unset, .unset, .unset, .unset, .unset, .unset, .unset, .unset, .unset] [] _
    refine XS.iloadN X0.here hx rfl (hb hby at_0) rfl ?_
    show St p e below s₁ m 1 #[iv i0, iv i1, iv i2, iv i3, .unset, .unset, .unset, .unset, .unset, .unset, .unset, .unset, .unset, .unset, .unset] [(.int i0)] _
    refine X0.ldcInt hx hown (mvT hZ (ow hw 0 rfl)) (g := (mkF m 1 #[iv i0, iv i1, iv i2, iv i3, .unset, .unset, .unset, .unset, .unset, .unset, .unset, .unset, .unset, .unset, .unset] [(.int i0)])) rfl (hb hby at_1) _ ?_
    show St p e below s₁ m 3 #[iv i0, iv i1, iv i2, iv i3, .unset, .unset, .unset, .unset, .unset, .unset, .unset, .unset, .unset, .unset, .unset] [(.int (2147483647 : Int32)), (.int i0)] _
    refine XS.iand X0.here hx rfl (hb hby at_3) rfl ?_
    show St p e below s₁ m 4 #[iv i0, iv i1, iv i2, iv i3, .unset, .unset, .unset, .unset, .unset, .unset, .unset, .unset, .unset, .unset, .unset] [(.int (i0 &&& (2147483647 : Int32)))] _
    refine XS.iconst X0.here hx rfl (hb hby at_4) ?_
    show St p e below s₁ m 5 #[iv i0, iv i1, iv i2, iv i3, .unset, .unset, .unset, .unset, .unset, .unset, .unset, .unset, .unset, .unset, .unset] [(.int (3 : Int32)), (.int (i0 &&& (2147483647 : Int32)))] _
    refine Jvm.RoadKit.iremM (g := (mkF m 5 #[iv i0, iv i1, iv i2, iv i3, .unset, .unset, .unset, .unset, .unset, .unset, .unset, .unset, .unset, .unset, .unset] [(.int (3 : Int32)), (.int (i0 &&& (2147483647 : Int32)))])) X0 hx rfl (hb hby at_5) rfl (by decide : ¬ ((3 : Int32) = (0 : Int32))) ?_
    show St p e below s₁ m 6 #[iv i0, iv i1, iv i2, iv i3, .unset, .unset, .unset, .unset, .unset, .unset, .unset, .unset, .unset, .unset, .unset] [(.int ((i0 &&& (2147483647 : Int32)) % (3 : Int32)))] _
    rw [pin0]
    show St p e below s₁ m 6 #[iv i0, iv i1, iv i2, iv i3, .unset, .unset, .unset, .unset, .unset, .unset, .unset, .unset, .unset, .unset, .unset] [(.int (2 : Int32))] _
    refine XS.istore X0.here hx rfl (hb hby at_6) rfl (l' := #[iv i0, iv i1, iv i2, iv i3, iv (2 : Int32), .unset, .unset, .unset, .unset, .unset, .unset, .unset, .unset, .unset, .unset]) rfl ?_
    show St p e below s₁ m 8 #[iv i0, iv i1, iv i2, iv i3, iv (2 : Int32), .unset, .unset, .unset, .unset, .unset, .unset, .unset, .unset, .unset, .unset] [] _
    refine XS.iload X0.here hx rfl (hb hby at_8) rfl ?_
    show St p e below s₁ m 10 #[iv i0, iv i1, iv i2, iv i3, iv (2 : Int32), .unset, .unset, .unset, .unset, .unset, .unset, .unset, .unset, .unset, .unset] [(.int (2 : Int32))] _
    refine XS.ifYes X0.here hx rfl (pc0 := 10) (pc' := 21) rfl (hb hby at_10) rfl ((if0 _ _).trans (feq (by decide : ¬ ((2 : Int32) = (0 : Int32)))).2) (by decide) (by decide) ?_
    show St p e below s₁ m 21 #[iv i0, iv i1, iv i2, iv i3, iv (2 : Int32), .unset, .unset, .unset, .unset, .unset, .unset, .unset, .unset, .unset, .unset] [] _
    refine XS.iload X0.here hx rfl (hb hby at_21) rfl ?_
    show St p e below s₁ m 23 #[iv i0, iv i1, iv i2, iv i3, iv (2 : Int32), .unset, .unset, .unset, .unset, .unset, .unset, .unset, .unset, .unset, .unset] [(.int (2 : Int32))] _
    refine XS.iconst X0.here hx rfl (hb hby at_23) ?_
    show St p e below s₁ m 24 #[iv i0, iv i1, iv i2, iv i3, iv (2 : Int32), .unset, .unset, .unset, .unset, .unset, .unset, .unset, .unset, .unset, .unset] [(.int (1 : Int32)), (.int (2 : Int32))] _
    refine XS.icmpYes X0.here hx rfl (pc0 := 24) (pc' := 35) rfl (hb hby at_24) rfl (feq (by decide : ¬ ((2 : Int32) = (1 : Int32)))).2 (by decide) (by decide) ?_
    show St p e below s₁ m 35 #[iv i0, iv i1, iv i2, iv i3, iv (2 : Int32), .unset, .unset, .unset, .unset, .unset, .unset, .unset, .unset, .unset, .unset] [] _
    refine st1 _ ?_
    show St p e below T1 m 38 #[iv i0, iv i1, iv i2, iv i3, iv (2 : Int32), .unset, .unset, .unset, .unset, .unset, .unset, .unset, .unset, .unset, .unset] [(.ref wKind_FINAL_FAILURE)] _
    refine XS.astore X1.here hx rfl (hb hby at_38) rfl rfl (l' := #[iv i0, iv i1, iv i2, iv i3, iv (2 : Int32), rv wKind_FINAL_FAILURE, .unset, .unset, .unset, .unset, .unset, .unset, .unset, .unset, .unset]) rfl ?_
    show St p e below T1 m 40 #[iv i0, iv i1, iv i2, iv i3, iv (2 : Int32), rv wKind_FINAL_FAILURE, .unset, .unset, .unset, .unset, .unset, .unset, .unset, .unset, .unset] [] _
    refine XS.iloadN X1.here hx rfl (hb hby at_40) rfl ?_
    show St p e below T1 m 41 #[iv i0, iv i1, iv i2, iv i3, iv (2 : Int32), rv wKind_FINAL_FAILURE, .unset, .unset, .unset, .unset, .unset, .unset, .unset, .unset, .unset] [(.int i1)] _
    refine XS.iconst X1.here hx rfl (hb hby at_41) ?_
    show St p e below T1 m 42 #[iv i0, iv i1, iv i2, iv i3, iv (2 : Int32), rv wKind_FINAL_FAILURE, .unset, .unset, .unset, .unset, .unset, .unset, .unset, .unset, .unset] [(.int (3 : Int32)), (.int i1)] _
    refine XS.iand X1.here hx rfl (hb hby at_42) rfl ?_
    show St p e below T1 m 43 #[iv i0, iv i1, iv i2, iv i3, iv (2 : Int32), rv wKind_FINAL_FAILURE, .unset, .unset, .unset, .unset, .unset, .unset, .unset, .unset, .unset] [(.int (i1 &&& (3 : Int32)))] _
    rw [pin1]
    show St p e below T1 m 43 #[iv i0, iv i1, iv i2, iv i3, iv (2 : Int32), rv wKind_FINAL_FAILURE, .unset, .unset, .unset, .unset, .unset, .unset, .unset, .unset, .unset] [(.int (0 : Int32))] _
    refine XS.istore X1.here hx rfl (hb hby at_43) rfl (l' := #[iv i0, iv i1, iv i2, iv i3, iv (2 : Int32), rv wKind_FINAL_FAILURE, iv (0 : Int32), .unset, .unset, .unset, .unset, .unset, .unset, .unset, .unset]) rfl ?_
    show St p e below T1 m 45 #[iv i0, iv i1, iv i2, iv i3, iv (2 : Int32), rv wKind_FINAL_FAILURE, iv (0 : Int32), .unset, .unset, .unset, .unset, .unset, .unset, .unset, .unset] [] _
    refine XS.iloadN X1.here hx rfl (hb hby at_45) rfl ?_
    show St p e below T1 m 46 #[iv i0, iv i1, iv i2, iv i3, iv (2 : Int32), rv wKind_FINAL_FAILURE, iv (0 : Int32), .unset, .unset, .unset, .unset, .unset, .unset, .unset, .unset] [(.int i2)] _
    refine XS.i2b X1.here hx rfl (hb hby at_46) rfl ?_
    show St p e below T1 m 47 #[iv i0, iv i1, iv i2, iv i3, iv (2 : Int32), rv wKind_FINAL_FAILURE, iv (0 : Int32), .unset, .unset, .unset, .unset, .unset, .unset, .unset, .unset] [(.int (i2.toInt8.toInt32))] _
    refine XS.istore X1.here hx rfl (hb hby at_47) rfl (l' := #[iv i0, iv i1, iv i2, iv i3, iv (2 : Int32), rv wKind_FINAL_FAILURE, iv (0 : Int32), iv (i2.toInt8.toInt32), .unset, .unset, .unset, .unset, .unset, .unset, .unset]) rfl ?_
    show St p e below T1 m 49 #[iv i0, iv i1, iv i2, iv i3, iv (2 : Int32), rv wKind_FINAL_FAILURE, iv (0 : Int32), iv (i2.toInt8.toInt32), .unset, .unset, .unset, .unset, .unset, .unset, .unset] [] _
    refine XS.iloadN X1.here hx rfl (hb hby at_49) rfl ?_
    show St p e below T1 m 50 #[iv i0, iv i1, iv i2, iv i3, iv (2 : Int32), rv wKind_FINAL_FAILURE, iv (0 : Int32), iv (i2.toInt8.toInt32), .unset, .unset, .unset, .unset, .unset, .unset, .unset] [(.int i2)] _
    refine XS.bipush X1.here hx rfl (hb hby at_50) ?_
    show St p e below T1 m 52 #[iv i0, iv i1, iv i2, iv i3, iv (2 : Int32), rv wKind_FINAL_FAILURE, iv (0 : Int32), iv (i2.toInt8.toInt32), .unset, .unset, .unset, .unset, .unset, .unset, .unset] [(.int (8 : Int32)), (.int i2)] _
    refine XS.ishr X1.here hx rfl (hb hby at_52) rfl ?_
    show St p e below T1 m 53 #[iv i0, iv i1, iv i2, iv i3, iv (2 : Int32), rv wKind_FINAL_FAILURE, iv (0 : Int32), iv (i2.toInt8.toInt32), .unset, .unset, .unset, .unset, .unset, .unset, .unset] [(.int (i2 >>> ((8 : Int32) &&& 31)))] _
    refine XS.i2b X1.here hx rfl (hb hby at_53) rfl ?_
    show St p e below T1 m 54 #[iv i0, iv i1, iv i2, iv i3, iv (2 : Int32), rv wKind_FINAL_FAILURE, iv (0 : Int32), iv (i2.toInt8.toInt32), .unset, .unset, .unset, .unset, .unset, .unset, .unset] [(.int ((i2 >>> ((8 : Int32) &&& 31)).toInt8.toInt32))] _
    refine XS.istore X1.here hx rfl (hb hby at_54) rfl (l' := #[iv i0, iv i1, iv i2, iv i3, iv (2 : Int32), rv wKind_FINAL_FAILURE, iv (0 : Int32), iv (i2.toInt8.toInt32), iv ((i2 >>> ((8 : Int32) &&& 31)).toInt8.toInt32), .unset, .unset, .unset, .unset, .unset, .unset]) rfl ?_
    show St p e below T1 m 56 #[iv i0, iv i1, iv i2, iv i3, iv (2 : Int32), rv wKind_FINAL_FAILURE, iv (0 : Int32), iv (i2.toInt8.toInt32), iv ((i2 >>> ((8 : Int32) &&& 31)).toInt8.toInt32), .unset, .unset, .unset, .unset, .unset, .unset] [] _
    refine XS.iloadN X1.here hx rfl (hb hby at_56) rfl ?_
    show St p e below T1 m 57 #[iv i0, iv i1, iv i2, iv i3, iv (2 : Int32), rv wKind_FINAL_FAILURE, iv (0 : Int32), iv (i2.toInt8.toInt32), iv ((i2 >>> ((8 : Int32) &&& 31)).toInt8.toInt32), .unset, .unset, .unset, .unset, .unset, .unset] [(.int i2)] _
    refine XS.bipush X1.here hx rfl (hb hby at_57) ?_
    show St p e below T1 m 59 #[iv i0, iv i1, iv i2, iv i3, iv (2 : Int32), rv wKind_FINAL_FAILURE, iv (0 : Int32), iv (i2.toInt8.toInt32), iv ((i2 >>> ((8 : Int32) &&& 31)).toInt8.toInt32), .unset, .unset, .unset, .unset, .unset, .unset] [(.int (16 : Int32)), (.int i2)] _
    refine XS.ishr X1.here hx rfl (hb hby at_59) rfl ?_
    show St p e below T1 m 60 #[iv i0, iv i1, iv i2, iv i3, iv (2 : Int32), rv wKind_FINAL_FAILURE, iv (0 : Int32), iv (i2.toInt8.toInt32), iv ((i2 >>> ((8 : Int32) &&& 31)).toInt8.toInt32), .unset, .unset, .unset, .unset, .unset, .unset] [(.int (i2 >>> ((16 : Int32) &&& 31)))] _
    refine XS.i2b X1.here hx rfl (hb hby at_60) rfl ?_
    show St p e below T1 m 61 #[iv i0, iv i1, iv i2, iv i3, iv (2 : Int32), rv wKind_FINAL_FAILURE, iv (0 : Int32), iv (i2.toInt8.toInt32), iv ((i2 >>> ((8 : Int32) &&& 31)).toInt8.toInt32), .unset, .unset, .unset, .unset, .unset, .unset] [(.int ((i2 >>> ((16 : Int32) &&& 31)).toInt8.toInt32))] _
    refine XS.istore X1.here hx rfl (hb hby at_61) rfl (l' := #[iv i0, iv i1, iv i2, iv i3, iv (2 : Int32), rv wKind_FINAL_FAILURE, iv (0 : Int32), iv (i2.toInt8.toInt32), iv ((i2 >>> ((8 : Int32) &&& 31)).toInt8.toInt32), iv ((i2 >>> ((16 : Int32) &&& 31)).toInt8.toInt32), .unset, .unset, .unset, .unset, .unset]) rfl ?_
    show St p e below T1 m 63 #[iv i0, iv i1, iv i2, iv i3, iv (2 : Int32), rv wKind_FINAL_FAILURE, iv (0 : Int32), iv (i2.toInt8.toInt32), iv ((i2 >>> ((8 : Int32) &&& 31)).toInt8.toInt32), iv ((i2 >>> ((16 : Int32) &&& 31)).toInt8.toInt32), .unset, .unset, .unset, .unset, .unset] [] _
    refine XS.iloadN X1.here hx rfl (hb hby at_63) rfl ?_
    show St p e below T1 m 64 #[iv i0, iv i1, iv i2, iv i3, iv (2 : Int32), rv wKind_FINAL_FAILURE, iv (0 : Int32), iv (i2.toInt8.toInt32), iv ((i2 >>> ((8 : Int32) &&& 31)).toInt8.toInt32), iv ((i2 >>> ((16 : Int32) &&& 31)).toInt8.toInt32), .unset, .unset, .unset, .unset, .unset] [(.int i3)] _
    refine XS.iconst X1.here hx rfl (hb hby at_64) ?_
    show St p e below T1 m 65 #[iv i0, iv i1, iv i2, iv i3, iv (2 : Int32), rv wKind_FINAL_FAILURE, iv (0 : Int32), iv (i2.toInt8.toInt32), iv ((i2 >>> ((8 : Int32) &&& 31)).toInt8.toInt32), iv ((i2 >>> ((16 : Int32) &&& 31)).toInt8.toInt32), .unset, .unset, .unset, .unset, .unset] [(.int (1 : Int32)), (.int i3)] _
    refine XS.ior X1.here hx rfl (hb hby at_65) rfl ?_
    show St p e below T1 m 66 #[iv i0, iv i1, iv i2, iv i3, iv (2 : Int32), rv wKind_FINAL_FAILURE, iv (0 : Int32), iv (i2.toInt8.toInt32), iv ((i2 >>> ((8 : Int32) &&& 31)).toInt8.toInt32), iv ((i2 >>> ((16 : Int32) &&& 31)).toInt8.toInt32), .unset, .unset, .unset, .unset, .unset] [(.int (i3 ||| (1 : Int32)))] _
    refine XS.i2b X1.here hx rfl (hb hby at_66) rfl ?_
    show St p e below T1 m 67 #[iv i0, iv i1, iv i2, iv i3, iv (2 : Int32), rv wKind_FINAL_FAILURE, iv (0 : Int32), iv (i2.toInt8.toInt32), iv ((i2 >>> ((8 : Int32) &&& 31)).toInt8.toInt32), iv ((i2 >>> ((16 : Int32) &&& 31)).toInt8.toInt32), .unset, .unset, .unset, .unset, .unset] [(.int ((i3 ||| (1 : Int32)).toInt8.toInt32))] _
    refine XS.istore X1.here hx rfl (hb hby at_67) rfl (l' := #[iv i0, iv i1, iv i2, iv i3, iv (2 : Int32), rv wKind_FINAL_FAILURE, iv (0 : Int32), iv (i2.toInt8.toInt32), iv ((i2 >>> ((8 : Int32) &&& 31)).toInt8.toInt32), iv ((i2 >>> ((16 : Int32) &&& 31)).toInt8.toInt32), iv ((i3 ||| (1 : Int32)).toInt8.toInt32), .unset, .unset, .unset, .unset]) rfl ?_
    refine st2 _ ?_
    refine st3 _ ?_
    show St p e below T3 m 281 #[iv i0, iv i1, iv i2, iv i3, iv (2 : Int32), rv wKind_FINAL_FAILURE, iv (0 : Int32), iv (i2.toInt8.toInt32), iv ((i2 >>> ((8 : Int32) &&& 31)).toInt8.toInt32), iv ((i2 >>> ((16 : Int32) &&& 31)).toInt8.toInt32), iv ((i3 ||| (1 : Int32)).toInt8.toInt32), rv b2_0, rv b3_0, rv b3_1, rv b3_2] [] _
    refine XS.aload Y3.here hx rfl (hb hby at_281) rfl rfl ?_
    show St p e below T3 m 283 #[iv i0, iv i1, iv i2, iv i3, iv (2 : Int32), rv wKind_FINAL_FAILURE, iv (0 : Int32), iv (i2.toInt8.toInt32), iv ((i2 >>> ((8 : Int32) &&& 31)).toInt8.toInt32), iv ((i2 >>> ((16 : Int32) &&& 31)).toInt8.toInt32), iv ((i3 ||| (1 : Int32)).toInt8.toInt32), rv b2_0, rv b3_0, rv b3_1, rv b3_2] [(.ref b3_0)] _
    refine st4.trans ?_
    show St p e below T4 m 286 #[iv i0, iv i1, iv i2, iv i3, iv (2 : Int32), rv wKind_FINAL_FAILURE, iv (0 : Int32), iv (i2.toInt8.toInt32), iv ((i2 >>> ((8 : Int32) &&& 31)).toInt8.toInt32), iv ((i2 >>> ((16 : Int32) &&& 31)).toInt8.toInt32), iv ((i3 ||| (1 : Int32)).toInt8.toInt32), rv b2_0, rv b3_0, rv b3_1, rv b3_2] [(.ref wKind_FINAL_FAILURE)] _
    refine XS.aload X4.here hx rfl (hb hby at_286) rfl rfl ?_
    show St p e below T4 m 288 #[iv i0, iv i1, iv i2, iv i3, iv (2 : Int32), rv wKind_FINAL_FAILURE, iv (0 : Int32), iv (i2.toInt8.toInt32), iv ((i2 >>> ((8 : Int32) &&& 31)).toInt8.toInt32), iv ((i2 >>> ((16 : Int32) &&& 31)).toInt8.toInt32), iv ((i3 ||| (1 : Int32)).toInt8.toInt32), rv b2_0, rv b3_0, rv b3_1, rv b3_2] [(.ref wKind_FINAL_FAILURE), (.ref wKind_FINAL_FAILURE)] _
    refine Jvm.RoadKit.acmp (g := (mkF m 288 #[iv i0, iv i1, iv i2, iv i3, iv (2 : Int32), rv wKind_FINAL_FAILURE, iv (0 : Int32), iv (i2.toInt8.toInt32), iv ((i2 >>> ((8 : Int32) &&& 31)).toInt8.toInt32), iv ((i2 >>> ((16 : Int32) &&& 31)).toInt8.toInt32), iv ((i3 ||| (1 : Int32)).toInt8.toInt32), rv b2_0, rv b3_0, rv b3_1, rv b3_2] [(.ref wKind_FINAL_FAILURE), (.ref wKind_FINAL_FAILURE)])) X4 hx rfl rfl rfl (pc0 := 288) (pc' := 291) (same := true) rfl (hb hby at_288) rfl (decide_eq_true rfl) (by decide) (by decide) ?_
    show St p e below T4 m 291 #[iv i0, iv i1, iv i2, iv i3, iv (2 : Int32), rv wKind_FINAL_FAILURE, iv (0 : Int32), iv (i2.toInt8.toInt32), iv ((i2 >>> ((8 : Int32) &&& 31)).toInt8.toInt32), iv ((i2 >>> ((16 : Int32) &&& 31)).toInt8.toInt32), iv ((i3 ||| (1 : Int32)).toInt8.toInt32), rv b2_0, rv b3_0, rv b3_1, rv b3_2] [] _
    refine XS.iconst X4.here hx rfl (hb hby at_291) ?_
    show St p e below T4 m 292 #[iv i0, iv i1, iv i2, iv i3, iv (2 : Int32), rv wKind_FINAL_FAILURE, iv (0 : Int32), iv (i2.toInt8.toInt32), iv ((i2 >>> ((8 : Int32) &&& 31)).toInt8.toInt32), iv ((i2 >>> ((16 : Int32) &&& 31)).toInt8.toInt32), iv ((i3 ||| (1 : Int32)).toInt8.toInt32), rv b2_0, rv b3_0, rv b3_1, rv b3_2] [(.int (1 : Int32))] _
    refine XS.goto X4.here hx rfl (pc0 := 292) (pc' := 296) rfl (hb hby at_292) (by decide) (by decide) ?_
    show St p e below T4 m 296 #[iv i0, iv i1, iv i2, iv i3, iv (2 : Int32), rv wKind_FINAL_FAILURE, iv (0 : Int32), iv (i2.toInt8.toInt32), iv ((i2 >>> ((8 : Int32) &&& 31)).toInt8.toInt32), iv ((i2 >>> ((16 : Int32) &&& 31)).toInt8.toInt32), iv ((i3 ||| (1 : Int32)).toInt8.toInt32), rv b2_0, rv b3_0, rv b3_1, rv b3_2] [(.int (1 : Int32))] _
    exact retN X4 hx (t := .boolean) Bd.returns (by simp) (hb hby at_296) hr
  · show law_9Q Z wKind_SUCCESS wKind_RETRYABLE_FAILURE wKind_FINAL_FAILURE i0 i1 i2 i3 h0 n0 _ T4.heap _
    rw [e4]
    exact ⟨rfl, N4⟩
def law_10Q (Z : State) (wKind_SUCCESS : Addr) (wKind_RETRYABLE_FAILURE : Addr) (wKind_FINAL_FAILURE : Addr) (i0 : Int32) (i1 : Int32) (i2 : Int32) (i3 : Int32) (h0 : Heap) (n0 : Nat) (v : Option Value) (h : Heap) (L : List Loc) : Prop := v = some (.int (1 : Int32)) ∧ Fr n0 L
theorem law_10e (m : MethodId) (wKind_SUCCESS : Addr) (wKind_RETRYABLE_FAILURE : Addr) (wKind_FINAL_FAILURE : Addr) (i0 : Int32) (i1 : Int32) (i2 : Int32) (i3 : Int32) : entryFrame m #[(.int i0), (.int i1), (.int i2), (.int i3)] maxLocals = mkF m 0 #[iv i0, iv i1, iv i2, iv i3, .unset, .unset, .unset, .unset, .unset, .unset, .unset, .unset, .unset, .unset, .unset] [] := by first | (simp [entryFrame, mkF, argsToLocals, Value.category, maxLocals]; done) | rfl
set_option maxRecDepth 65536 in
set_option maxHeartbeats 40000000 in
theorem law_10 (l : Launch) (Z : State) (a0 : Array Value) (hw : HW a0 Z) (ws : List Jvm.Cond) (wKind_SUCCESS : Addr) (wKind_RETRYABLE_FAILURE : Addr) (wKind_FINAL_FAILURE : Addr) (B : Base Z wKind_SUCCESS wKind_RETRYABLE_FAILURE wKind_FINAL_FAILURE) (i0 : Int32) (i1 : Int32) (i2 : Int32) (i3 : Int32) (h0 : Heap) (n0 : Nat) (O0 : Old Z n0 h0) (pin0 : ((i0 &&& (2147483647 : Int32)) % (3 : Int32)) = (2 : Int32)) (pin1 : (i1 &&& (3 : Int32)) = (1 : Int32)) (hc4 : (nar .byte (i2.toInt8.toInt32)) = (i2.toInt8.toInt32)) :
    MetFree l x (head1 (Jvm.Cond.code x code maxLocals ret :: ws) room_1) (fun a U => a = #[(.int i0), (.int i1), (.int i2), (.int i3)] ∧ Z.Warmed39 U.vm ∧ U.heap = h0) (fun _ _ _ _ _ => True) (fun _ U o U' => ∃ v L, o = .returned v ∧ law_10Q Z wKind_SUCCESS wKind_RETRYABLE_FAILURE wKind_FINAL_FAILURE i0 i1 i2 i3 h0 n0 v U'.heap L ∧ ReturnedEndW U o U' L room_1.cells room_1.slots) := by
  refine MetFree.of_bodySF (plainFor_of_name pn_com_example_nervous_key_nervouskey_OutcomeOfPinLaw) hisR ?_
  intro p e s m args below meth c s₁ Bd hml0 hP hK
  obtain ⟨rfl, hZ, hh⟩ := hP
  have hx := Bd.exec
  have hby := Bd.bytes
  have hml : c.maxLocals = 15 := hml0
  have hown : s.vm.findClass "com/example/nervous_key/nervouskey/OutcomeOfPinLaw" = some m.cls := findClass_of_methodNamed Bd.named
  have hnm := (name_of_methodNamed Bd.named Bd.method).1
  have X0 : Stand p l e room_1 s m #[(.int i0), (.int i1), (.int i2), (.int i3)] below meth c s₁ [] 0 0 := Stand.of_body Bd
  have e0 : s₁.heap = h0 := by rw [← hh, Bd.state]; rfl
  have N0 := Fr.nil n0
  have pre0 : ∀ t, Steps p.tables e below (s₁.setTop (mkF m 0 #[iv i0, iv i1, iv i2, iv i3, .unset, .unset, .unset, .unset, .unset, .unset, .unset, .unset, .unset, .unset, .unset] [])) t → Steps p.tables e below (s₁.setTop (entryFrame m #[(.int i0), (.int i1), (.int i2), (.int i3)] maxLocals)) t := fun t k => castTop (law_10e m wKind_SUCCESS wKind_RETRYABLE_FAILURE wKind_FINAL_FAILURE i0 i1 i2 i3) k
  obtain ⟨T1, X1, e1, st1⟩ := getS2 X0 hx hZ hown (host := "") (Or.inl (ow hw 60 rfl)) Via.refl e0 (B.2.2.2.2.1.ext O0.2) (g := (mkF m 35 #[iv i0, iv i1, iv i2, iv i3, iv (2 : Int32), .unset, .unset, .unset, .unset, .unset, .unset, .unset, .unset, .unset, .unset] [])) rfl (hb hby at_35)
  obtain ⟨T2, h2, L2, b2_0, k2_0, X2, e2, N2, K2, lo2_1, f2_2, f2_3, st2⟩ := g0_3 i0 i1 i2 i3 (2 : Int32) wKind_FINAL_FAILURE (i2.toInt8.toInt32) ((i2 >>> ((8 : Int32) &&& 31)).toInt8.toInt32) ((i2 >>> ((16 : Int32) &&& 31)).toInt8.toInt32) ((i3 ||| (1 : Int32)).toInt8.toInt32) X1 hx hZ hw hby hml hown e1 O0 N0 (by decide) (by decide) (by decide) (by decide)
  have O_K2 : Old Z n0 h2 := O0.keep K2 all0
  have Kp_K2 : Keep h0 h2 [] := (Keep.refl h0 []).trans K2 all0
  have g3 : n0 ≤ b2_0 := Nat.le_trans (Nat.le_trans (Nat.le_of_eq O0.1.symm) O0.2.1) lo2_1
  obtain ⟨T5, h5, L5, vm5, b5_0, b5_1, b5_2, b5_3, X5, e5, hSq5, N5, K5, lo5_1, lo5_2, lo5_3, lo5_4, nq5_5, nq5_6, nq5_7, nq5_8, nq5_9, nq5_10, f5_11, f5_12, f5_13, f5_14, f5_15, f5_16, f5_17, f5_18, f5_19, f5_20, f5_21, st5⟩ := g0_4 i0 i1 i2 i3 (2 : Int32) wKind_FINAL_FAILURE (i2.toInt8.toInt32) ((i2 >>> ((8 : Int32) &&& 31)).toInt8.toInt32) ((i2 >>> ((16 : Int32) &&& 31)).toInt8.toInt32) ((i3 ||| (1 : Int32)).toInt8.toInt32) b2_0 k2_0 (nar .byte (i2.toInt8.toInt32)) X2 hx hZ hw hby hml hown e2 O_K2 N2 (by decide) (by decide) (by decide) (by decide) B.2.2.2.2.2 f2_3 f2_2 g3 hc4
  obtain ⟨Y5, hS5, hZ5, hown5⟩ := rebS (s := s) (vm0 := s.vm) (State.WarmedH.since (State.WarmedH.refl s) 0) (Nat.zero_le _) X5 hSq5 K5.1 hZ hown
  have z6 : h0.size ≤ b2_0 := Nat.le_trans (Keep.refl h0 []).1 lo2_1
  have O_K5 : Old Z n0 h5 := O_K2.keep K5 (allS g3 all0)
  have Kp_K5 : Keep h0 h5 [] := Kp_K2.trans K5 (allS (Or.inr z6) all0)
  obtain ⟨cq7, kq7, q7a, q7b, q7c⟩ := isOf hZ5 e5 f5_13
  obtain ⟨_, _, ⟨T7, L7, k7, n7⟩, -, X7, ⟨Lc7, hQ7, l7, y7, z7⟩, st7⟩ := Y5.virtualBack hx (y := y4) (z := y4) hown5 (mvT hZ5 (ow hw 44 rfl)) (mvT hZ5 (ow hw 45 rfl)) (notFace_of_selects (args := #[]) (mvT hZ5 (ow hw 47 rfl))) (mvT hZ5 (ow hw 47 rfl)) (mvT hZ5 (ow hw 46 rfl)) (by decide) (backOf (W := 0) (r4_1 l Z a0 hw [] b5_0 wKind_FINAL_FAILURE h5 n0 O_K5 f5_14) hZ5 (ow hw 48 rfl) (ow hw 7 rfl) (by decide) (by decide)) q7a q7c (g := (mkF m 283 #[iv i0, iv i1, iv i2, iv i3, iv (2 : Int32), rv wKind_FINAL_FAILURE, iv (1 : Int32), iv (i2.toInt8.toInt32), iv ((i2 >>> ((8 : Int32) &&& 31)).toInt8.toInt32), iv ((i2 >>> ((16 : Int32) &&& 31)).toInt8.toInt32), iv ((i3 ||| (1 : Int32)).toInt8.toInt32), rv b2_0, rv b5_0, rv b5_1, rv b5_2] [(.ref b5_0)])) rfl (by rw [hml]; rfl) (Steps.refl _) (argsL := []) (rest := []) (lenOf pd___Lcom_example_nervous_key_nervouskey_Outcome_Kind_ rfl) rfl (by show 2 * 0 + _ ≤ _; exact Nat.le_of_eq rfl) (hb hby at_283) (fun _ _ => ⟨rfl, e5, (by decide : 9 + 0 ≤ _), (by decide : 54 + 0 ≤ _)⟩)
  dsimp only [Pt.U, Pt.locs, Pt.cells, Pt.slots] at X7 l7 y7 z7 st7 hQ7
  subst l7 y7 z7
  obtain ⟨rfl, N7q, e7⟩ := hQ7
  have N7 := Fr.app N5 N7q
  obtain ⟨fs, hr, hrun, hended, hE⟩ := Stand.leaveW (s := s) (vm₁ := vm5) X7 hS5 (by rw [e7]; exact (Nat.le_refl _)) (v := some (.int (1 : Int32))) (fun h => by rw [Bd.returns] at h; cases h)
  refine ⟨_, _, pre0 _ ?_, hrun, hended, _, _, rfl, ?_, hE.1, hE.2.1, hE.2.2.1, hE.2.2.2.mono (by decide) (by decide)⟩
  · show St p e below s₁ m 0 #[iv i0, iv i1, iv i2, iv i3, .unset, .unset, .unset, .unset, .unset, .unset, .unset, .unset, .unset, .unset, .unset] [] _
    refine XS.iloadN X0.here hx rfl (hb hby at_0) rfl ?_
    show St p e below s₁ m 1 #[iv i0, iv i1, iv i2, iv i3, .unset, .unset, .unset, .unset, .unset, .unset, .unset, .unset, .unset, .unset, .unset] [(.int i0)] _
    refine X0.ldcInt hx hown (mvT hZ (ow hw 0 rfl)) (g := (mkF m 1 #[iv i0, iv i1, iv i2, iv i3, .unset, .unset, .unset, .unset, .unset, .unset, .unset, .unset, .unset, .unset, .unset] [(.int i0)])) rfl (hb hby at_1) _ ?_
    show St p e below s₁ m 3 #[iv i0, iv i1, iv i2, iv i3, .unset, .unset, .unset, .unset, .unset, .unset, .unset, .unset, .unset, .unset, .unset] [(.int (2147483647 : Int32)), (.int i0)] _
    refine XS.iand X0.here hx rfl (hb hby at_3) rfl ?_
    show St p e below s₁ m 4 #[iv i0, iv i1, iv i2, iv i3, .unset, .unset, .unset, .unset, .unset, .unset, .unset, .unset, .unset, .unset, .unset] [(.int (i0 &&& (2147483647 : Int32)))] _
    refine XS.iconst X0.here hx rfl (hb hby at_4) ?_
    show St p e below s₁ m 5 #[iv i0, iv i1, iv i2, iv i3, .unset, .unset, .unset, .unset, .unset, .unset, .unset, .unset, .unset, .unset, .unset] [(.int (3 : Int32)), (.int (i0 &&& (2147483647 : Int32)))] _
    refine Jvm.RoadKit.iremM (g := (mkF m 5 #[iv i0, iv i1, iv i2, iv i3, .unset, .unset, .unset, .unset, .unset, .unset, .unset, .unset, .unset, .unset, .unset] [(.int (3 : Int32)), (.int (i0 &&& (2147483647 : Int32)))])) X0 hx rfl (hb hby at_5) rfl (by decide : ¬ ((3 : Int32) = (0 : Int32))) ?_
    show St p e below s₁ m 6 #[iv i0, iv i1, iv i2, iv i3, .unset, .unset, .unset, .unset, .unset, .unset, .unset, .unset, .unset, .unset, .unset] [(.int ((i0 &&& (2147483647 : Int32)) % (3 : Int32)))] _
    rw [pin0]
    show St p e below s₁ m 6 #[iv i0, iv i1, iv i2, iv i3, .unset, .unset, .unset, .unset, .unset, .unset, .unset, .unset, .unset, .unset, .unset] [(.int (2 : Int32))] _
    refine XS.istore X0.here hx rfl (hb hby at_6) rfl (l' := #[iv i0, iv i1, iv i2, iv i3, iv (2 : Int32), .unset, .unset, .unset, .unset, .unset, .unset, .unset, .unset, .unset, .unset]) rfl ?_
    show St p e below s₁ m 8 #[iv i0, iv i1, iv i2, iv i3, iv (2 : Int32), .unset, .unset, .unset, .unset, .unset, .unset, .unset, .unset, .unset, .unset] [] _
    refine XS.iload X0.here hx rfl (hb hby at_8) rfl ?_
    show St p e below s₁ m 10 #[iv i0, iv i1, iv i2, iv i3, iv (2 : Int32), .unset, .unset, .unset, .unset, .unset, .unset, .unset, .unset, .unset, .unset] [(.int (2 : Int32))] _
    refine XS.ifYes X0.here hx rfl (pc0 := 10) (pc' := 21) rfl (hb hby at_10) rfl ((if0 _ _).trans (feq (by decide : ¬ ((2 : Int32) = (0 : Int32)))).2) (by decide) (by decide) ?_
    show St p e below s₁ m 21 #[iv i0, iv i1, iv i2, iv i3, iv (2 : Int32), .unset, .unset, .unset, .unset, .unset, .unset, .unset, .unset, .unset, .unset] [] _
    refine XS.iload X0.here hx rfl (hb hby at_21) rfl ?_
    show St p e below s₁ m 23 #[iv i0, iv i1, iv i2, iv i3, iv (2 : Int32), .unset, .unset, .unset, .unset, .unset, .unset, .unset, .unset, .unset, .unset] [(.int (2 : Int32))] _
    refine XS.iconst X0.here hx rfl (hb hby at_23) ?_
    show St p e below s₁ m 24 #[iv i0, iv i1, iv i2, iv i3, iv (2 : Int32), .unset, .unset, .unset, .unset, .unset, .unset, .unset, .unset, .unset, .unset] [(.int (1 : Int32)), (.int (2 : Int32))] _
    refine XS.icmpYes X0.here hx rfl (pc0 := 24) (pc' := 35) rfl (hb hby at_24) rfl (feq (by decide : ¬ ((2 : Int32) = (1 : Int32)))).2 (by decide) (by decide) ?_
    show St p e below s₁ m 35 #[iv i0, iv i1, iv i2, iv i3, iv (2 : Int32), .unset, .unset, .unset, .unset, .unset, .unset, .unset, .unset, .unset, .unset] [] _
    refine st1 _ ?_
    show St p e below T1 m 38 #[iv i0, iv i1, iv i2, iv i3, iv (2 : Int32), .unset, .unset, .unset, .unset, .unset, .unset, .unset, .unset, .unset, .unset] [(.ref wKind_FINAL_FAILURE)] _
    refine XS.astore X1.here hx rfl (hb hby at_38) rfl rfl (l' := #[iv i0, iv i1, iv i2, iv i3, iv (2 : Int32), rv wKind_FINAL_FAILURE, .unset, .unset, .unset, .unset, .unset, .unset, .unset, .unset, .unset]) rfl ?_
    show St p e below T1 m 40 #[iv i0, iv i1, iv i2, iv i3, iv (2 : Int32), rv wKind_FINAL_FAILURE, .unset, .unset, .unset, .unset, .unset, .unset, .unset, .unset, .unset] [] _
    refine XS.iloadN X1.here hx rfl (hb hby at_40) rfl ?_
    show St p e below T1 m 41 #[iv i0, iv i1, iv i2, iv i3, iv (2 : Int32), rv wKind_FINAL_FAILURE, .unset, .unset, .unset, .unset, .unset, .unset, .unset, .unset, .unset] [(.int i1)] _
    refine XS.iconst X1.here hx rfl (hb hby at_41) ?_
    show St p e below T1 m 42 #[iv i0, iv i1, iv i2, iv i3, iv (2 : Int32), rv wKind_FINAL_FAILURE, .unset, .unset, .unset, .unset, .unset, .unset, .unset, .unset, .unset] [(.int (3 : Int32)), (.int i1)] _
    refine XS.iand X1.here hx rfl (hb hby at_42) rfl ?_
    show St p e below T1 m 43 #[iv i0, iv i1, iv i2, iv i3, iv (2 : Int32), rv wKind_FINAL_FAILURE, .unset, .unset, .unset, .unset, .unset, .unset, .unset, .unset, .unset] [(.int (i1 &&& (3 : Int32)))] _
    rw [pin1]
    show St p e below T1 m 43 #[iv i0, iv i1, iv i2, iv i3, iv (2 : Int32), rv wKind_FINAL_FAILURE, .unset, .unset, .unset, .unset, .unset, .unset, .unset, .unset, .unset] [(.int (1 : Int32))] _
    refine XS.istore X1.here hx rfl (hb hby at_43) rfl (l' := #[iv i0, iv i1, iv i2, iv i3, iv (2 : Int32), rv wKind_FINAL_FAILURE, iv (1 : Int32), .unset, .unset, .unset, .unset, .unset, .unset, .unset, .unset]) rfl ?_
    show St p e below T1 m 45 #[iv i0, iv i1, iv i2, iv i3, iv (2 : Int32), rv wKind_FINAL_FAILURE, iv (1 : Int32), .unset, .unset, .unset, .unset, .unset, .unset, .unset, .unset] [] _
    refine XS.iloadN X1.here hx rfl (hb hby at_45) rfl ?_
    show St p e below T1 m 46 #[iv i0, iv i1, iv i2, iv i3, iv (2 : Int32), rv wKind_FINAL_FAILURE, iv (1 : Int32), .unset, .unset, .unset, .unset, .unset, .unset, .unset, .unset] [(.int i2)] _
    refine XS.i2b X1.here hx rfl (hb hby at_46) rfl ?_
    show St p e below T1 m 47 #[iv i0, iv i1, iv i2, iv i3, iv (2 : Int32), rv wKind_FINAL_FAILURE, iv (1 : Int32), .unset, .unset, .unset, .unset, .unset, .unset, .unset, .unset] [(.int (i2.toInt8.toInt32))] _
    refine XS.istore X1.here hx rfl (hb hby at_47) rfl (l' := #[iv i0, iv i1, iv i2, iv i3, iv (2 : Int32), rv wKind_FINAL_FAILURE, iv (1 : Int32), iv (i2.toInt8.toInt32), .unset, .unset, .unset, .unset, .unset, .unset, .unset]) rfl ?_
    show St p e below T1 m 49 #[iv i0, iv i1, iv i2, iv i3, iv (2 : Int32), rv wKind_FINAL_FAILURE, iv (1 : Int32), iv (i2.toInt8.toInt32), .unset, .unset, .unset, .unset, .unset, .unset, .unset] [] _
    refine XS.iloadN X1.here hx rfl (hb hby at_49) rfl ?_
    show St p e below T1 m 50 #[iv i0, iv i1, iv i2, iv i3, iv (2 : Int32), rv wKind_FINAL_FAILURE, iv (1 : Int32), iv (i2.toInt8.toInt32), .unset, .unset, .unset, .unset, .unset, .unset, .unset] [(.int i2)] _
    refine XS.bipush X1.here hx rfl (hb hby at_50) ?_
    show St p e below T1 m 52 #[iv i0, iv i1, iv i2, iv i3, iv (2 : Int32), rv wKind_FINAL_FAILURE, iv (1 : Int32), iv (i2.toInt8.toInt32), .unset, .unset, .unset, .unset, .unset, .unset, .unset] [(.int (8 : Int32)), (.int i2)] _
    refine XS.ishr X1.here hx rfl (hb hby at_52) rfl ?_
    show St p e below T1 m 53 #[iv i0, iv i1, iv i2, iv i3, iv (2 : Int32), rv wKind_FINAL_FAILURE, iv (1 : Int32), iv (i2.toInt8.toInt32), .unset, .unset, .unset, .unset, .unset, .unset, .unset] [(.int (i2 >>> ((8 : Int32) &&& 31)))] _
    refine XS.i2b X1.here hx rfl (hb hby at_53) rfl ?_
    show St p e below T1 m 54 #[iv i0, iv i1, iv i2, iv i3, iv (2 : Int32), rv wKind_FINAL_FAILURE, iv (1 : Int32), iv (i2.toInt8.toInt32), .unset, .unset, .unset, .unset, .unset, .unset, .unset] [(.int ((i2 >>> ((8 : Int32) &&& 31)).toInt8.toInt32))] _
    refine XS.istore X1.here hx rfl (hb hby at_54) rfl (l' := #[iv i0, iv i1, iv i2, iv i3, iv (2 : Int32), rv wKind_FINAL_FAILURE, iv (1 : Int32), iv (i2.toInt8.toInt32), iv ((i2 >>> ((8 : Int32) &&& 31)).toInt8.toInt32), .unset, .unset, .unset, .unset, .unset, .unset]) rfl ?_
    show St p e below T1 m 56 #[iv i0, iv i1, iv i2, iv i3, iv (2 : Int32), rv wKind_FINAL_FAILURE, iv (1 : Int32), iv (i2.toInt8.toInt32), iv ((i2 >>> ((8 : Int32) &&& 31)).toInt8.toInt32), .unset, .unset, .unset, .unset, .unset, .unset] [] _
    refine XS.iloadN X1.here hx rfl (hb hby at_56) rfl ?_
    show St p e below T1 m 57 #[iv i0, iv i1, iv i2, iv i3, iv (2 : Int32), rv wKind_FINAL_FAILURE, iv (1 : Int32), iv (i2.toInt8.toInt32), iv ((i2 >>> ((8 : Int32) &&& 31)).toInt8.toInt32), .unset, .unset, .unset, .unset, .unset, .unset] [(.int i2)] _
    refine XS.bipush X1.here hx rfl (hb hby at_57) ?_
    show St p e below T1 m 59 #[iv i0, iv i1, iv i2, iv i3, iv (2 : Int32), rv wKind_FINAL_FAILURE, iv (1 : Int32), iv (i2.toInt8.toInt32), iv ((i2 >>> ((8 : Int32) &&& 31)).toInt8.toInt32), .unset, .unset, .unset, .unset, .unset, .unset] [(.int (16 : Int32)), (.int i2)] _
    refine XS.ishr X1.here hx rfl (hb hby at_59) rfl ?_
    show St p e below T1 m 60 #[iv i0, iv i1, iv i2, iv i3, iv (2 : Int32), rv wKind_FINAL_FAILURE, iv (1 : Int32), iv (i2.toInt8.toInt32), iv ((i2 >>> ((8 : Int32) &&& 31)).toInt8.toInt32), .unset, .unset, .unset, .unset, .unset, .unset] [(.int (i2 >>> ((16 : Int32) &&& 31)))] _
    refine XS.i2b X1.here hx rfl (hb hby at_60) rfl ?_
    show St p e below T1 m 61 #[iv i0, iv i1, iv i2, iv i3, iv (2 : Int32), rv wKind_FINAL_FAILURE, iv (1 : Int32), iv (i2.toInt8.toInt32), iv ((i2 >>> ((8 : Int32) &&& 31)).toInt8.toInt32), .unset, .unset, .unset, .unset, .unset, .unset] [(.int ((i2 >>> ((16 : Int32) &&& 31)).toInt8.toInt32))] _
    refine XS.istore X1.here hx rfl (hb hby at_61) rfl (l' := #[iv i0, iv i1, iv i2, iv i3, iv (2 : Int32), rv wKind_FINAL_FAILURE, iv (1 : Int32), iv (i2.toInt8.toInt32), iv ((i2 >>> ((8 : Int32) &&& 31)).toInt8.toInt32), iv ((i2 >>> ((16 : Int32) &&& 31)).toInt8.toInt32), .unset, .unset, .unset, .unset, .unset]) rfl ?_
    show St p e below T1 m 63 #[iv i0, iv i1, iv i2, iv i3, iv (2 : Int32), rv wKind_FINAL_FAILURE, iv (1 : Int32), iv (i2.toInt8.toInt32), iv ((i2 >>> ((8 : Int32) &&& 31)).toInt8.toInt32), iv ((i2 >>> ((16 : Int32) &&& 31)).toInt8.toInt32), .unset, .unset, .unset, .unset, .unset] [] _
    refine XS.iloadN X1.here hx rfl (hb hby at_63) rfl ?_
    show St p e below T1 m 64 #[iv i0, iv i1, iv i2, iv i3, iv (2 : Int32), rv wKind_FINAL_FAILURE, iv (1 : Int32), iv (i2.toInt8.toInt32), iv ((i2 >>> ((8 : Int32) &&& 31)).toInt8.toInt32), iv ((i2 >>> ((16 : Int32) &&& 31)).toInt8.toInt32), .unset, .unset, .unset, .unset, .unset] [(.int i3)] _
    refine XS.iconst X1.here hx rfl (hb hby at_64) ?_
    show St p e below T1 m 65 #[iv i0, iv i1, iv i2, iv i3, iv (2 : Int32), rv wKind_FINAL_FAILURE, iv (1 : Int32), iv (i2.toInt8.toInt32), iv ((i2 >>> ((8 : Int32) &&& 31)).toInt8.toInt32), iv ((i2 >>> ((16 : Int32) &&& 31)).toInt8.toInt32), .unset, .unset, .unset, .unset, .unset] [(.int (1 : Int32)), (.int i3)] _
    refine XS.ior X1.here hx rfl (hb hby at_65) rfl ?_
    show St p e below T1 m 66 #[iv i0, iv i1, iv i2, iv i3, iv (2 : Int32), rv wKind_FINAL_FAILURE, iv (1 : Int32), iv (i2.toInt8.toInt32), iv ((i2 >>> ((8 : Int32) &&& 31)).toInt8.toInt32), iv ((i2 >>> ((16 : Int32) &&& 31)).toInt8.toInt32), .unset, .unset, .unset, .unset, .unset] [(.int (i3 ||| (1 : Int32)))] _
    refine XS.i2b X1.here hx rfl (hb hby at_66) rfl ?_
    show St p e below T1 m 67 #[iv i0, iv i1, iv i2, iv i3, iv (2 : Int32), rv wKind_FINAL_FAILURE, iv (1 : Int32), iv (i2.toInt8.toInt32), iv ((i2 >>> ((8 : Int32) &&& 31)).toInt8.toInt32), iv ((i2 >>> ((16 : Int32) &&& 31)).toInt8.toInt32), .unset, .unset, .unset, .unset, .unset] [(.int ((i3 ||| (1 : Int32)).toInt8.toInt32))] _
    refine XS.istore X1.here hx rfl (hb hby at_67) rfl (l' := #[iv i0, iv i1, iv i2, iv i3, iv (2 : Int32), rv wKind_FINAL_FAILURE, iv (1 : Int32), iv (i2.toInt8.toInt32), iv ((i2 >>> ((8 : Int32) &&& 31)).toInt8.toInt32), iv ((i2 >>> ((16 : Int32) &&& 31)).toInt8.toInt32), iv ((i3 ||| (1 : Int32)).toInt8.toInt32), .unset, .unset, .unset, .unset]) rfl ?_
    refine st2 _ ?_
    refine st5 _ ?_
    show St p e below T5 m 281 #[iv i0, iv i1, iv i2, iv i3, iv (2 : Int32), rv wKind_FINAL_FAILURE, iv (1 : Int32), iv (i2.toInt8.toInt32), iv ((i2 >>> ((8 : Int32) &&& 31)).toInt8.toInt32), iv ((i2 >>> ((16 : Int32) &&& 31)).toInt8.toInt32), iv ((i3 ||| (1 : Int32)).toInt8.toInt32), rv b2_0, rv b5_0, rv b5_1, rv b5_2] [] _
    refine XS.aload Y5.here hx rfl (hb hby at_281) rfl rfl ?_
    show St p e below T5 m 283 #[iv i0, iv i1, iv i2, iv i3, iv (2 : Int32), rv wKind_FINAL_FAILURE, iv (1 : Int32), iv (i2.toInt8.toInt32), iv ((i2 >>> ((8 : Int32) &&& 31)).toInt8.toInt32), iv ((i2 >>> ((16 : Int32) &&& 31)).toInt8.toInt32), iv ((i3 ||| (1 : Int32)).toInt8.toInt32), rv b2_0, rv b5_0, rv b5_1, rv b5_2] [(.ref b5_0)] _
    refine st7.trans ?_
    show St p e below T7 m 286 #[iv i0, iv i1, iv i2, iv i3, iv (2 : Int32), rv wKind_FINAL_FAILURE, iv (1 : Int32), iv (i2.toInt8.toInt32), iv ((i2 >>> ((8 : Int32) &&& 31)).toInt8.toInt32), iv ((i2 >>> ((16 : Int32) &&& 31)).toInt8.toInt32), iv ((i3 ||| (1 : Int32)).toInt8.toInt32), rv b2_0, rv b5_0, rv b5_1, rv b5_2] [(.ref wKind_FINAL_FAILURE)] _
    refine XS.aload X7.here hx rfl (hb hby at_286) rfl rfl ?_
    show St p e below T7 m 288 #[iv i0, iv i1, iv i2, iv i3, iv (2 : Int32), rv wKind_FINAL_FAILURE, iv (1 : Int32), iv (i2.toInt8.toInt32), iv ((i2 >>> ((8 : Int32) &&& 31)).toInt8.toInt32), iv ((i2 >>> ((16 : Int32) &&& 31)).toInt8.toInt32), iv ((i3 ||| (1 : Int32)).toInt8.toInt32), rv b2_0, rv b5_0, rv b5_1, rv b5_2] [(.ref wKind_FINAL_FAILURE), (.ref wKind_FINAL_FAILURE)] _
    refine Jvm.RoadKit.acmp (g := (mkF m 288 #[iv i0, iv i1, iv i2, iv i3, iv (2 : Int32), rv wKind_FINAL_FAILURE, iv (1 : Int32), iv (i2.toInt8.toInt32), iv ((i2 >>> ((8 : Int32) &&& 31)).toInt8.toInt32), iv ((i2 >>> ((16 : Int32) &&& 31)).toInt8.toInt32), iv ((i3 ||| (1 : Int32)).toInt8.toInt32), rv b2_0, rv b5_0, rv b5_1, rv b5_2] [(.ref wKind_FINAL_FAILURE), (.ref wKind_FINAL_FAILURE)])) X7 hx rfl rfl rfl (pc0 := 288) (pc' := 291) (same := true) rfl (hb hby at_288) rfl (decide_eq_true rfl) (by decide) (by decide) ?_
    show St p e below T7 m 291 #[iv i0, iv i1, iv i2, iv i3, iv (2 : Int32), rv wKind_FINAL_FAILURE, iv (1 : Int32), iv (i2.toInt8.toInt32), iv ((i2 >>> ((8 : Int32) &&& 31)).toInt8.toInt32), iv ((i2 >>> ((16 : Int32) &&& 31)).toInt8.toInt32), iv ((i3 ||| (1 : Int32)).toInt8.toInt32), rv b2_0, rv b5_0, rv b5_1, rv b5_2] [] _
    refine XS.iconst X7.here hx rfl (hb hby at_291) ?_
    show St p e below T7 m 292 #[iv i0, iv i1, iv i2, iv i3, iv (2 : Int32), rv wKind_FINAL_FAILURE, iv (1 : Int32), iv (i2.toInt8.toInt32), iv ((i2 >>> ((8 : Int32) &&& 31)).toInt8.toInt32), iv ((i2 >>> ((16 : Int32) &&& 31)).toInt8.toInt32), iv ((i3 ||| (1 : Int32)).toInt8.toInt32), rv b2_0, rv b5_0, rv b5_1, rv b5_2] [(.int (1 : Int32))] _
    refine XS.goto X7.here hx rfl (pc0 := 292) (pc' := 296) rfl (hb hby at_292) (by decide) (by decide) ?_
    show St p e below T7 m 296 #[iv i0, iv i1, iv i2, iv i3, iv (2 : Int32), rv wKind_FINAL_FAILURE, iv (1 : Int32), iv (i2.toInt8.toInt32), iv ((i2 >>> ((8 : Int32) &&& 31)).toInt8.toInt32), iv ((i2 >>> ((16 : Int32) &&& 31)).toInt8.toInt32), iv ((i3 ||| (1 : Int32)).toInt8.toInt32), rv b2_0, rv b5_0, rv b5_1, rv b5_2] [(.int (1 : Int32))] _
    exact retN X7 hx (t := .boolean) Bd.returns (by simp) (hb hby at_296) hr
  · show law_10Q Z wKind_SUCCESS wKind_RETRYABLE_FAILURE wKind_FINAL_FAILURE i0 i1 i2 i3 h0 n0 _ T7.heap _
    rw [e7]
    exact ⟨rfl, N7⟩
def law_11Q (Z : State) (wKind_SUCCESS : Addr) (wKind_RETRYABLE_FAILURE : Addr) (wKind_FINAL_FAILURE : Addr) (i0 : Int32) (i1 : Int32) (i2 : Int32) (i3 : Int32) (h0 : Heap) (n0 : Nat) (v : Option Value) (h : Heap) (L : List Loc) : Prop := v = some (.int (1 : Int32)) ∧ Fr n0 L
theorem law_11e (m : MethodId) (wKind_SUCCESS : Addr) (wKind_RETRYABLE_FAILURE : Addr) (wKind_FINAL_FAILURE : Addr) (i0 : Int32) (i1 : Int32) (i2 : Int32) (i3 : Int32) : entryFrame m #[(.int i0), (.int i1), (.int i2), (.int i3)] maxLocals = mkF m 0 #[iv i0, iv i1, iv i2, iv i3, .unset, .unset, .unset, .unset, .unset, .unset, .unset, .unset, .unset, .unset, .unset] [] := by first | (simp [entryFrame, mkF, argsToLocals, Value.category, maxLocals]; done) | rfl
set_option maxRecDepth 65536 in
set_option maxHeartbeats 40000000 in
theorem law_11 (l : Launch) (Z : State) (a0 : Array Value) (hw : HW a0 Z) (ws : List Jvm.Cond) (wKind_SUCCESS : Addr) (wKind_RETRYABLE_FAILURE : Addr) (wKind_FINAL_FAILURE : Addr) (B : Base Z wKind_SUCCESS wKind_RETRYABLE_FAILURE wKind_FINAL_FAILURE) (i0 : Int32) (i1 : Int32) (i2 : Int32) (i3 : Int32) (h0 : Heap) (n0 : Nat) (O0 : Old Z n0 h0) (pin0 : ((i0 &&& (2147483647 : Int32)) % (3 : Int32)) = (2 : Int32)) (pin1 : (i1 &&& (3 : Int32)) = (2 : Int32)) (hc4 : (nar .byte (i2.toInt8.toInt32)) = (i2.toInt8.toInt32)) (hc5 : (nar .byte ((i2 >>> ((8 : Int32) &&& 31)).toInt8.toInt32)) = ((i2 >>> ((8 : Int32) &&& 31)).toInt8.toInt32)) :
    MetFree l x (head1 (Jvm.Cond.code x code maxLocals ret :: ws) room_1) (fun a U => a = #[(.int i0), (.int i1), (.int i2), (.int i3)] ∧ Z.Warmed39 U.vm ∧ U.heap = h0) (fun _ _ _ _ _ => True) (fun _ U o U' => ∃ v L, o = .returned v ∧ law_11Q Z wKind_SUCCESS wKind_RETRYABLE_FAILURE wKind_FINAL_FAILURE i0 i1 i2 i3 h0 n0 v U'.heap L ∧ ReturnedEndW U o U' L room_1.cells room_1.slots) := by
  refine MetFree.of_bodySF (plainFor_of_name pn_com_example_nervous_key_nervouskey_OutcomeOfPinLaw) hisR ?_
  intro p e s m args below meth c s₁ Bd hml0 hP hK
  obtain ⟨rfl, hZ, hh⟩ := hP
  have hx := Bd.exec
  have hby := Bd.bytes
  have hml : c.maxLocals = 15 := hml0
  have hown : s.vm.findClass "com/example/nervous_key/nervouskey/OutcomeOfPinLaw" = some m.cls := findClass_of_methodNamed Bd.named
  have hnm := (name_of_methodNamed Bd.named Bd.method).1
  have X0 : Stand p l e room_1 s m #[(.int i0), (.int i1), (.int i2), (.int i3)] below meth c s₁ [] 0 0 := Stand.of_body Bd
  have e0 : s₁.heap = h0 := by rw [← hh, Bd.state]; rfl
  have N0 := Fr.nil n0
  have pre0 : ∀ t, Steps p.tables e below (s₁.setTop (mkF m 0 #[iv i0, iv i1, iv i2, iv i3, .unset, .unset, .unset, .unset, .unset, .unset, .unset, .unset, .unset, .unset, .unset] [])) t → Steps p.tables e below (s₁.setTop (entryFrame m #[(.int i0), (.int i1), (.int i2), (.int i3)] maxLocals)) t := fun t k => castTop (law_11e m wKind_SUCCESS wKind_RETRYABLE_FAILURE wKind_FINAL_FAILURE i0 i1 i2 i3) k
  obtain ⟨T1, X1, e1, st1⟩ := getS2 X0 hx hZ hown (host := "") (Or.inl (ow hw 60 rfl)) Via.refl e0 (B.2.2.2.2.1.ext O0.2) (g := (mkF m 35 #[iv i0, iv i1, iv i2, iv i3, iv (2 : Int32), .unset, .unset, .unset, .unset, .unset, .unset, .unset, .unset, .unset, .unset] [])) rfl (hb hby at_35)
  obtain ⟨T2, h2, L2, b2_0, k2_0, X2, e2, N2, K2, lo2_1, f2_2, f2_3, st2⟩ := g0_5 i0 i1 i2 i3 (2 : Int32) wKind_FINAL_FAILURE (i2.toInt8.toInt32) ((i2 >>> ((8 : Int32) &&& 31)).toInt8.toInt32) ((i2 >>> ((16 : Int32) &&& 31)).toInt8.toInt32) ((i3 ||| (1 : Int32)).toInt8.toInt32) X1 hx hZ hw hby hml hown e1 O0 N0 (by decide) (by decide) (by decide) (by decide)
  have O_K2 : Old Z n0 h2 := O0.keep K2 all0
  have Kp_K2 : Keep h0 h2 [] := (Keep.refl h0 []).trans K2 all0
  have g3 : n0 ≤ b2_0 := Nat.le_trans (Nat.le_trans (Nat.le_of_eq O0.1.symm) O0.2.1) lo2_1
  obtain ⟨T6, h6, L6, vm6, b6_0, b6_1, b6_2, b6_3, X6, e6, hSq6, N6, K6, lo6_1, lo6_2, lo6_3, lo6_4, nq6_5, nq6_6, nq6_7, nq6_8, nq6_9, nq6_10, f6_11, f6_12, f6_13, f6_14, f6_15, f6_16, f6_17, f6_18, f6_19, f6_20, f6_21, st6⟩ := g0_6 i0 i1 i2 i3 (2 : Int32) wKind_FINAL_FAILURE (i2.toInt8.toInt32) ((i2 >>> ((8 : Int32) &&& 31)).toInt8.toInt32) ((i2 >>> ((16 : Int32) &&& 31)).toInt8.toInt32) ((i3 ||| (1 : Int32)).toInt8.toInt32) b2_0 k2_0 (nar .byte (i2.toInt8.toInt32)) (nar .byte ((i2 >>> ((8 : Int32) &&& 31)).toInt8.toInt32)) X2 hx hZ hw hby hml hown e2 O_K2 N2 (by decide) (by decide) (by decide) (by decide) B.2.2.2.2.2 f2_3 f2_2 g3 hc4 hc5
  obtain ⟨Y6, hS6, hZ6, hown6⟩ := rebS (s := s) (vm0 := s.vm) (State.WarmedH.since (State.WarmedH.refl s) 0) (Nat.zero_le _) X6 hSq6 K6.1 hZ hown
  have z7 : h0.size ≤ b2_0 := Nat.le_trans (Keep.refl h0 []).1 lo2_1
  have O_K6 : Old Z n0 h6 := O_K2.keep K6 (allS g3 all0)
  have Kp_K6 : Keep h0 h6 [] := Kp_K2.trans K6 (allS (Or.inr z7) all0)
  obtain ⟨cq8, kq8, q8a, q8b, q8c⟩ := isOf hZ6 e6 f6_13
  obtain ⟨_, _, ⟨T8, L8, k8, n8⟩, -, X8, ⟨Lc8, hQ8, l8, y8, z8⟩, st8⟩ := Y6.virtualBack hx (y := y4) (z := y4) hown6 (mvT hZ6 (ow hw 44 rfl)) (mvT hZ6 (ow hw 45 rfl)) (notFace_of_selects (args := #[]) (mvT hZ6 (ow hw 47 rfl))) (mvT hZ6 (ow hw 47 rfl)) (mvT hZ6 (ow hw 46 rfl)) (by decide) (backOf (W := 0) (r4_1 l Z a0 hw [] b6_0 wKind_FINAL_FAILURE h6 n0 O_K6 f6_14) hZ6 (ow hw 48 rfl) (ow hw 7 rfl) (by decide) (by decide)) q8a q8c (g := (mkF m 283 #[iv i0, iv i1, iv i2, iv i3, iv (2 : Int32), rv wKind_FINAL_FAILURE, iv (2 : Int32), iv (i2.toInt8.toInt32), iv ((i2 >>> ((8 : Int32) &&& 31)).toInt8.toInt32), iv ((i2 >>> ((16 : Int32) &&& 31)).toInt8.toInt32), iv ((i3 ||| (1 : Int32)).toInt8.toInt32), rv b2_0, rv b6_0, rv b6_1, rv b6_2] [(.ref b6_0)])) rfl (by rw [hml]; rfl) (Steps.refl _) (argsL := []) (rest := []) (lenOf pd___Lcom_example_nervous_key_nervouskey_Outcome_Kind_ rfl) rfl (by show 2 * 0 + _ ≤ _; exact Nat.le_of_eq rfl) (hb hby at_283) (fun _ _ => ⟨rfl, e6, (by decide : 9 + 0 ≤ _), (by decide : 58 + 0 ≤ _)⟩)
  dsimp only [Pt.U, Pt.locs, Pt.cells, Pt.slots] at X8 l8 y8 z8 st8 hQ8
  subst l8 y8 z8
  obtain ⟨rfl, N8q, e8⟩ := hQ8
  have N8 := Fr.app N6 N8q
  obtain ⟨fs, hr, hrun, hended, hE⟩ := Stand.leaveW (s := s) (vm₁ := vm6) X8 hS6 (by rw [e8]; exact (Nat.le_refl _)) (v := some (.int (1 : Int32))) (fun h => by rw [Bd.returns] at h; cases h)
  refine ⟨_, _, pre0 _ ?_, hrun, hended, _, _, rfl, ?_, hE.1, hE.2.1, hE.2.2.1, hE.2.2.2.mono (by decide) (by decide)⟩
  · show St p e below s₁ m 0 #[iv i0, iv i1, iv i2, iv i3, .unset, .unset, .unset, .unset, .unset, .unset, .unset, .unset, .unset, .unset, .unset] [] _
    refine XS.iloadN X0.here hx rfl (hb hby at_0) rfl ?_
    show St p e below s₁ m 1 #[iv i0, iv i1, iv i2, iv i3, .unset, .unset, .unset, .unset, .unset, .unset, .unset, .unset, .unset, .unset, .unset] [(.int i0)] _
    refine X0.ldcInt hx hown (mvT hZ (ow hw 0 rfl)) (g := (mkF m 1 #[iv i0, iv i1, iv i2, iv i3, .unset, .unset, .unset, .unset, .unset, .unset, .unset, .unset, .unset, .unset, .unset] [(.int i0)])) rfl (hb hby at_1) _ ?_
    show St p e below s₁ m 3 #[iv i0, iv i1, iv i2, iv i3, .unset, .unset, .unset, .unset, .unset, .unset, .unset, .unset, .unset, .unset, .unset] [(.int (2147483647 : Int32)), (.int i0)] _
    refine XS.iand X0.here hx rfl (hb hby at_3) rfl ?_
    show St p e below s₁ m 4 #[iv i0, iv i1, iv i2, iv i3, .unset, .unset, .unset, .unset, .unset, .unset, .unset, .unset, .unset, .unset, .unset] [(.int (i0 &&& (2147483647 : Int32)))] _
    refine XS.iconst X0.here hx rfl (hb hby at_4) ?_
    show St p e below s₁ m 5 #[iv i0, iv i1, iv i2, iv i3, .unset, .unset, .unset, .unset, .unset, .unset, .unset, .unset, .unset, .unset, .unset] [(.int (3 : Int32)), (.int (i0 &&& (2147483647 : Int32)))] _
    refine Jvm.RoadKit.iremM (g := (mkF m 5 #[iv i0, iv i1, iv i2, iv i3, .unset, .unset, .unset, .unset, .unset, .unset, .unset, .unset, .unset, .unset, .unset] [(.int (3 : Int32)), (.int (i0 &&& (2147483647 : Int32)))])) X0 hx rfl (hb hby at_5) rfl (by decide : ¬ ((3 : Int32) = (0 : Int32))) ?_
    show St p e below s₁ m 6 #[iv i0, iv i1, iv i2, iv i3, .unset, .unset, .unset, .unset, .unset, .unset, .unset, .unset, .unset, .unset, .unset] [(.int ((i0 &&& (2147483647 : Int32)) % (3 : Int32)))] _
    rw [pin0]
    show St p e below s₁ m 6 #[iv i0, iv i1, iv i2, iv i3, .unset, .unset, .unset, .unset, .unset, .unset, .unset, .unset, .unset, .unset, .unset] [(.int (2 : Int32))] _
    refine XS.istore X0.here hx rfl (hb hby at_6) rfl (l' := #[iv i0, iv i1, iv i2, iv i3, iv (2 : Int32), .unset, .unset, .unset, .unset, .unset, .unset, .unset, .unset, .unset, .unset]) rfl ?_
    show St p e below s₁ m 8 #[iv i0, iv i1, iv i2, iv i3, iv (2 : Int32), .unset, .unset, .unset, .unset, .unset, .unset, .unset, .unset, .unset, .unset] [] _
    refine XS.iload X0.here hx rfl (hb hby at_8) rfl ?_
    show St p e below s₁ m 10 #[iv i0, iv i1, iv i2, iv i3, iv (2 : Int32), .unset, .unset, .unset, .unset, .unset, .unset, .unset, .unset, .unset, .unset] [(.int (2 : Int32))] _
    refine XS.ifYes X0.here hx rfl (pc0 := 10) (pc' := 21) rfl (hb hby at_10) rfl ((if0 _ _).trans (feq (by decide : ¬ ((2 : Int32) = (0 : Int32)))).2) (by decide) (by decide) ?_
    show St p e below s₁ m 21 #[iv i0, iv i1, iv i2, iv i3, iv (2 : Int32), .unset, .unset, .unset, .unset, .unset, .unset, .unset, .unset, .unset, .unset] [] _
    refine XS.iload X0.here hx rfl (hb hby at_21) rfl ?_
    show St p e below s₁ m 23 #[iv i0, iv i1, iv i2, iv i3, iv (2 : Int32), .unset, .unset, .unset, .unset, .unset, .unset, .unset, .unset, .unset, .unset] [(.int (2 : Int32))] _
    refine XS.iconst X0.here hx rfl (hb hby at_23) ?_
    show St p e below s₁ m 24 #[iv i0, iv i1, iv i2, iv i3, iv (2 : Int32), .unset, .unset, .unset, .unset, .unset, .unset, .unset, .unset, .unset, .unset] [(.int (1 : Int32)), (.int (2 : Int32))] _
    refine XS.icmpYes X0.here hx rfl (pc0 := 24) (pc' := 35) rfl (hb hby at_24) rfl (feq (by decide : ¬ ((2 : Int32) = (1 : Int32)))).2 (by decide) (by decide) ?_
    show St p e below s₁ m 35 #[iv i0, iv i1, iv i2, iv i3, iv (2 : Int32), .unset, .unset, .unset, .unset, .unset, .unset, .unset, .unset, .unset, .unset] [] _
    refine st1 _ ?_
    show St p e below T1 m 38 #[iv i0, iv i1, iv i2, iv i3, iv (2 : Int32), .unset, .unset, .unset, .unset, .unset, .unset, .unset, .unset, .unset, .unset] [(.ref wKind_FINAL_FAILURE)] _
    refine XS.astore X1.here hx rfl (hb hby at_38) rfl rfl (l' := #[iv i0, iv i1, iv i2, iv i3, iv (2 : Int32), rv wKind_FINAL_FAILURE, .unset, .unset, .unset, .unset, .unset, .unset, .unset, .unset, .unset]) rfl ?_
    show St p e below T1 m 40 #[iv i0, iv i1, iv i2, iv i3, iv (2 : Int32), rv wKind_FINAL_FAILURE, .unset, .unset, .unset, .unset, .unset, .unset, .unset, .unset, .unset] [] _
    refine XS.iloadN X1.here hx rfl (hb hby at_40) rfl ?_
    show St p e below T1 m 41 #[iv i0, iv i1, iv i2, iv i3, iv (2 : Int32), rv wKind_FINAL_FAILURE, .unset, .unset, .unset, .unset, .unset, .unset, .unset, .unset, .unset] [(.int i1)] _
    refine XS.iconst X1.here hx rfl (hb hby at_41) ?_
    show St p e below T1 m 42 #[iv i0, iv i1, iv i2, iv i3, iv (2 : Int32), rv wKind_FINAL_FAILURE, .unset, .unset, .unset, .unset, .unset, .unset, .unset, .unset, .unset] [(.int (3 : Int32)), (.int i1)] _
    refine XS.iand X1.here hx rfl (hb hby at_42) rfl ?_
    show St p e below T1 m 43 #[iv i0, iv i1, iv i2, iv i3, iv (2 : Int32), rv wKind_FINAL_FAILURE, .unset, .unset, .unset, .unset, .unset, .unset, .unset, .unset, .unset] [(.int (i1 &&& (3 : Int32)))] _
    rw [pin1]
    show St p e below T1 m 43 #[iv i0, iv i1, iv i2, iv i3, iv (2 : Int32), rv wKind_FINAL_FAILURE, .unset, .unset, .unset, .unset, .unset, .unset, .unset, .unset, .unset] [(.int (2 : Int32))] _
    refine XS.istore X1.here hx rfl (hb hby at_43) rfl (l' := #[iv i0, iv i1, iv i2, iv i3, iv (2 : Int32), rv wKind_FINAL_FAILURE, iv (2 : Int32), .unset, .unset, .unset, .unset, .unset, .unset, .unset, .unset]) rfl ?_
    show St p e below T1 m 45 #[iv i0, iv i1, iv i2, iv i3, iv (2 : Int32), rv wKind_FINAL_FAILURE, iv (2 : Int32), .unset, .unset, .unset, .unset, .unset, .unset, .unset, .unset] [] _
    refine XS.iloadN X1.here hx rfl (hb hby at_45) rfl ?_
    show St p e below T1 m 46 #[iv i0, iv i1, iv i2, iv i3, iv (2 : Int32), rv wKind_FINAL_FAILURE, iv (2 : Int32), .unset, .unset, .unset, .unset, .unset, .unset, .unset, .unset] [(.int i2)] _
    refine XS.i2b X1.here hx rfl (hb hby at_46) rfl ?_
    show St p e below T1 m 47 #[iv i0, iv i1, iv i2, iv i3, iv (2 : Int32), rv wKind_FINAL_FAILURE, iv (2 : Int32), .unset, .unset, .unset, .unset, .unset, .unset, .unset, .unset] [(.int (i2.toInt8.toInt32))] _
    refine XS.istore X1.here hx rfl (hb hby at_47) rfl (l' := #[iv i0, iv i1, iv i2, iv i3, iv (2 : Int32), rv wKind_FINAL_FAILURE, iv (2 : Int32), iv (i2.toInt8.toInt32), .unset, .unset, .unset, .unset, .unset, .unset, .unset]) rfl ?_
    show St p e below T1 m 49 #[iv i0, iv i1, iv i2, iv i3, iv (2 : Int32), rv wKind_FINAL_FAILURE, iv (2 : Int32), iv (i2.toInt8.toInt32), .unset, .unset, .unset, .unset, .unset, .unset, .unset] [] _
    refine XS.iloadN X1.here hx rfl (hb hby at_49) rfl ?_
    show St p e below T1 m 50 #[iv i0, iv i1, iv i2, iv i3, iv (2 : Int32), rv wKind_FINAL_FAILURE, iv (2 : Int32), iv (i2.toInt8.toInt32), .unset, .unset, .unset, .unset, .unset, .unset, .unset] [(.int i2)] _
    refine XS.bipush X1.here hx rfl (hb hby at_50) ?_
    show St p e below T1 m 52 #[iv i0, iv i1, iv i2, iv i3, iv (2 : Int32), rv wKind_FINAL_FAILURE, iv (2 : Int32), iv (i2.toInt8.toInt32), .unset, .unset, .unset, .unset, .unset, .unset, .unset] [(.int (8 : Int32)), (.int i2)] _
    refine XS.ishr X1.here hx rfl (hb hby at_52) rfl ?_
    show St p e below T1 m 53 #[iv i0, iv i1, iv i2, iv i3, iv (2 : Int32), rv wKind_FINAL_FAILURE, iv (2 : Int32), iv (i2.toInt8.toInt32), .unset, .unset, .unset, .unset, .unset, .unset, .unset] [(.int (i2 >>> ((8 : Int32) &&& 31)))] _
    refine XS.i2b X1.here hx rfl (hb hby at_53) rfl ?_
    show St p e below T1 m 54 #[iv i0, iv i1, iv i2, iv i3, iv (2 : Int32), rv wKind_FINAL_FAILURE, iv (2 : Int32), iv (i2.toInt8.toInt32), .unset, .unset, .unset, .unset, .unset, .unset, .unset] [(.int ((i2 >>> ((8 : Int32) &&& 31)).toInt8.toInt32))] _
    refine XS.istore X1.here hx rfl (hb hby at_54) rfl (l' := #[iv i0, iv i1, iv i2, iv i3, iv (2 : Int32), rv wKind_FINAL_FAILURE, iv (2 : Int32), iv (i2.toInt8.toInt32), iv ((i2 >>> ((8 : Int32) &&& 31)).toInt8.toInt32), .unset, .unset, .unset, .unset, .unset, .unset]) rfl ?_
    show St p e below T1 m 56 #[iv i0, iv i1, iv i2, iv i3, iv (2 : Int32), rv wKind_FINAL_FAILURE, iv (2 : Int32), iv (i2.toInt8.toInt32), iv ((i2 >>> ((8 : Int32) &&& 31)).toInt8.toInt32), .unset, .unset, .unset, .unset, .unset, .unset] [] _
    refine XS.iloadN X1.here hx rfl (hb hby at_56) rfl ?_
    show St p e below T1 m 57 #[iv i0, iv i1, iv i2, iv i3, iv (2 : Int32), rv wKind_FINAL_FAILURE, iv (2 : Int32), iv (i2.toInt8.toInt32), iv ((i2 >>> ((8 : Int32) &&& 31)).toInt8.toInt32), .unset, .unset, .unset, .unset, .unset, .unset] [(.int i2)] _
    refine XS.bipush X1.here hx rfl (hb hby at_57) ?_
    show St p e below T1 m 59 #[iv i0, iv i1, iv i2, iv i3, iv (2 : Int32), rv wKind_FINAL_FAILURE, iv (2 : Int32), iv (i2.toInt8.toInt32), iv ((i2 >>> ((8 : Int32) &&& 31)).toInt8.toInt32), .unset, .unset, .unset, .unset, .unset, .unset] [(.int (16 : Int32)), (.int i2)] _
    refine XS.ishr X1.here hx rfl (hb hby at_59) rfl ?_
    show St p e below T1 m 60 #[iv i0, iv i1, iv i2, iv i3, iv (2 : Int32), rv wKind_FINAL_FAILURE, iv (2 : Int32), iv (i2.toInt8.toInt32), iv ((i2 >>> ((8 : Int32) &&& 31)).toInt8.toInt32), .unset, .unset, .unset, .unset, .unset, .unset] [(.int (i2 >>> ((16 : Int32) &&& 31)))] _
    refine XS.i2b X1.here hx rfl (hb hby at_60) rfl ?_
    show St p e below T1 m 61 #[iv i0, iv i1, iv i2, iv i3, iv (2 : Int32), rv wKind_FINAL_FAILURE, iv (2 : Int32), iv (i2.toInt8.toInt32), iv ((i2 >>> ((8 : Int32) &&& 31)).toInt8.toInt32), .unset, .unset, .unset, .unset, .unset, .unset] [(.int ((i2 >>> ((16 : Int32) &&& 31)).toInt8.toInt32))] _
    refine XS.istore X1.here hx rfl (hb hby at_61) rfl (l' := #[iv i0, iv i1, iv i2, iv i3, iv (2 : Int32), rv wKind_FINAL_FAILURE, iv (2 : Int32), iv (i2.toInt8.toInt32), iv ((i2 >>> ((8 : Int32) &&& 31)).toInt8.toInt32), iv ((i2 >>> ((16 : Int32) &&& 31)).toInt8.toInt32), .unset, .unset, .unset, .unset, .unset]) rfl ?_
    show St p e below T1 m 63 #[iv i0, iv i1, iv i2, iv i3, iv (2 : Int32), rv wKind_FINAL_FAILURE, iv (2 : Int32), iv (i2.toInt8.toInt32), iv ((i2 >>> ((8 : Int32) &&& 31)).toInt8.toInt32), iv ((i2 >>> ((16 : Int32) &&& 31)).toInt8.toInt32), .unset, .unset, .unset, .unset, .unset] [] _
    refine XS.iloadN X1.here hx rfl (hb hby at_63) rfl ?_
    show St p e below T1 m 64 #[iv i0, iv i1, iv i2, iv i3, iv (2 : Int32), rv wKind_FINAL_FAILURE, iv (2 : Int32), iv (i2.toInt8.toInt32), iv ((i2 >>> ((8 : Int32) &&& 31)).toInt8.toInt32), iv ((i2 >>> ((16 : Int32) &&& 31)).toInt8.toInt32), .unset, .unset, .unset, .unset, .unset] [(.int i3)] _
    refine XS.iconst X1.here hx rfl (hb hby at_64) ?_
    show St p e below T1 m 65 #[iv i0, iv i1, iv i2, iv i3, iv (2 : Int32), rv wKind_FINAL_FAILURE, iv (2 : Int32), iv (i2.toInt8.toInt32), iv ((i2 >>> ((8 : Int32) &&& 31)).toInt8.toInt32), iv ((i2 >>> ((16 : Int32) &&& 31)).toInt8.toInt32), .unset, .unset, .unset, .unset, .unset] [(.int (1 : Int32)), (.int i3)] _
    refine XS.ior X1.here hx rfl (hb hby at_65) rfl ?_
    show St p e below T1 m 66 #[iv i0, iv i1, iv i2, iv i3, iv (2 : Int32), rv wKind_FINAL_FAILURE, iv (2 : Int32), iv (i2.toInt8.toInt32), iv ((i2 >>> ((8 : Int32) &&& 31)).toInt8.toInt32), iv ((i2 >>> ((16 : Int32) &&& 31)).toInt8.toInt32), .unset, .unset, .unset, .unset, .unset] [(.int (i3 ||| (1 : Int32)))] _
    refine XS.i2b X1.here hx rfl (hb hby at_66) rfl ?_
    show St p e below T1 m 67 #[iv i0, iv i1, iv i2, iv i3, iv (2 : Int32), rv wKind_FINAL_FAILURE, iv (2 : Int32), iv (i2.toInt8.toInt32), iv ((i2 >>> ((8 : Int32) &&& 31)).toInt8.toInt32), iv ((i2 >>> ((16 : Int32) &&& 31)).toInt8.toInt32), .unset, .unset, .unset, .unset, .unset] [(.int ((i3 ||| (1 : Int32)).toInt8.toInt32))] _
    refine XS.istore X1.here hx rfl (hb hby at_67) rfl (l' := #[iv i0, iv i1, iv i2, iv i3, iv (2 : Int32), rv wKind_FINAL_FAILURE, iv (2 : Int32), iv (i2.toInt8.toInt32), iv ((i2 >>> ((8 : Int32) &&& 31)).toInt8.toInt32), iv ((i2 >>> ((16 : Int32) &&& 31)).toInt8.toInt32), iv ((i3 ||| (1 : Int32)).toInt8.toInt32), .unset, .unset, .unset, .unset]) rfl ?_
    refine st2 _ ?_
    refine st6 _ ?_
    show St p e below T6 m 281 #[iv i0, iv i1, iv i2, iv i3, iv (2 : Int32), rv wKind_FINAL_FAILURE, iv (2 : Int32), iv (i2.toInt8.toInt32), iv ((i2 >>> ((8 : Int32) &&& 31)).toInt8.toInt32), iv ((i2 >>> ((16 : Int32) &&& 31)).toInt8.toInt32), iv ((i3 ||| (1 : Int32)).toInt8.toInt32), rv b2_0, rv b6_0, rv b6_1, rv b6_2] [] _
    refine XS.aload Y6.here hx rfl (hb hby at_281) rfl rfl ?_
    show St p e below T6 m 283 #[iv i0, iv i1, iv i2, iv i3, iv (2 : Int32), rv wKind_FINAL_FAILURE, iv (2 : Int32), iv (i2.toInt8.toInt32), iv ((i2 >>> ((8 : Int32) &&& 31)).toInt8.toInt32), iv ((i2 >>> ((16 : Int32) &&& 31)).toInt8.toInt32), iv ((i3 ||| (1 : Int32)).toInt8.toInt32), rv b2_0, rv b6_0, rv b6_1, rv b6_2] [(.ref b6_0)] _
    refine st8.trans ?_
    show St p e below T8 m 286 #[iv i0, iv i1, iv i2, iv i3, iv (2 : Int32), rv wKind_FINAL_FAILURE, iv (2 : Int32), iv (i2.toInt8.toInt32), iv ((i2 >>> ((8 : Int32) &&& 31)).toInt8.toInt32), iv ((i2 >>> ((16 : Int32) &&& 31)).toInt8.toInt32), iv ((i3 ||| (1 : Int32)).toInt8.toInt32), rv b2_0, rv b6_0, rv b6_1, rv b6_2] [(.ref wKind_FINAL_FAILURE)] _
    refine XS.aload X8.here hx rfl (hb hby at_286) rfl rfl ?_
    show St p e below T8 m 288 #[iv i0, iv i1, iv i2, iv i3, iv (2 : Int32), rv wKind_FINAL_FAILURE, iv (2 : Int32), iv (i2.toInt8.toInt32), iv ((i2 >>> ((8 : Int32) &&& 31)).toInt8.toInt32), iv ((i2 >>> ((16 : Int32) &&& 31)).toInt8.toInt32), iv ((i3 ||| (1 : Int32)).toInt8.toInt32), rv b2_0, rv b6_0, rv b6_1, rv b6_2] [(.ref wKind_FINAL_FAILURE), (.ref wKind_FINAL_FAILURE)] _
    refine Jvm.RoadKit.acmp (g := (mkF m 288 #[iv i0, iv i1, iv i2, iv i3, iv (2 : Int32), rv wKind_FINAL_FAILURE, iv (2 : Int32), iv (i2.toInt8.toInt32), iv ((i2 >>> ((8 : Int32) &&& 31)).toInt8.toInt32), iv ((i2 >>> ((16 : Int32) &&& 31)).toInt8.toInt32), iv ((i3 ||| (1 : Int32)).toInt8.toInt32), rv b2_0, rv b6_0, rv b6_1, rv b6_2] [(.ref wKind_FINAL_FAILURE), (.ref wKind_FINAL_FAILURE)])) X8 hx rfl rfl rfl (pc0 := 288) (pc' := 291) (same := true) rfl (hb hby at_288) rfl (decide_eq_true rfl) (by decide) (by decide) ?_
    show St p e below T8 m 291 #[iv i0, iv i1, iv i2, iv i3, iv (2 : Int32), rv wKind_FINAL_FAILURE, iv (2 : Int32), iv (i2.toInt8.toInt32), iv ((i2 >>> ((8 : Int32) &&& 31)).toInt8.toInt32), iv ((i2 >>> ((16 : Int32) &&& 31)).toInt8.toInt32), iv ((i3 ||| (1 : Int32)).toInt8.toInt32), rv b2_0, rv b6_0, rv b6_1, rv b6_2] [] _
    refine XS.iconst X8.here hx rfl (hb hby at_291) ?_
    show St p e below T8 m 292 #[iv i0, iv i1, iv i2, iv i3, iv (2 : Int32), rv wKind_FINAL_FAILURE, iv (2 : Int32), iv (i2.toInt8.toInt32), iv ((i2 >>> ((8 : Int32) &&& 31)).toInt8.toInt32), iv ((i2 >>> ((16 : Int32) &&& 31)).toInt8.toInt32), iv ((i3 ||| (1 : Int32)).toInt8.toInt32), rv b2_0, rv b6_0, rv b6_1, rv b6_2] [(.int (1 : Int32))] _
    refine XS.goto X8.here hx rfl (pc0 := 292) (pc' := 296) rfl (hb hby at_292) (by decide) (by decide) ?_
    show St p e below T8 m 296 #[iv i0, iv i1, iv i2, iv i3, iv (2 : Int32), rv wKind_FINAL_FAILURE, iv (2 : Int32), iv (i2.toInt8.toInt32), iv ((i2 >>> ((8 : Int32) &&& 31)).toInt8.toInt32), iv ((i2 >>> ((16 : Int32) &&& 31)).toInt8.toInt32), iv ((i3 ||| (1 : Int32)).toInt8.toInt32), rv b2_0, rv b6_0, rv b6_1, rv b6_2] [(.int (1 : Int32))] _
    exact retN X8 hx (t := .boolean) Bd.returns (by simp) (hb hby at_296) hr
  · show law_11Q Z wKind_SUCCESS wKind_RETRYABLE_FAILURE wKind_FINAL_FAILURE i0 i1 i2 i3 h0 n0 _ T8.heap _
    rw [e8]
    exact ⟨rfl, N8⟩
def law_12Q (Z : State) (wKind_SUCCESS : Addr) (wKind_RETRYABLE_FAILURE : Addr) (wKind_FINAL_FAILURE : Addr) (i0 : Int32) (i1 : Int32) (i2 : Int32) (i3 : Int32) (h0 : Heap) (n0 : Nat) (v : Option Value) (h : Heap) (L : List Loc) : Prop := v = some (.int (1 : Int32)) ∧ Fr n0 L
theorem law_12e (m : MethodId) (wKind_SUCCESS : Addr) (wKind_RETRYABLE_FAILURE : Addr) (wKind_FINAL_FAILURE : Addr) (i0 : Int32) (i1 : Int32) (i2 : Int32) (i3 : Int32) : entryFrame m #[(.int i0), (.int i1), (.int i2), (.int i3)] maxLocals = mkF m 0 #[iv i0, iv i1, iv i2, iv i3, .unset, .unset, .unset, .unset, .unset, .unset, .unset, .unset, .unset, .unset, .unset] [] := by first | (simp [entryFrame, mkF, argsToLocals, Value.category, maxLocals]; done) | rfl
set_option maxRecDepth 65536 in
set_option maxHeartbeats 40000000 in
theorem law_12 (l : Launch) (Z : State) (a0 : Array Value) (hw : HW a0 Z) (ws : List Jvm.Cond) (wKind_SUCCESS : Addr) (wKind_RETRYABLE_FAILURE : Addr) (wKind_FINAL_FAILURE : Addr) (B : Base Z wKind_SUCCESS wKind_RETRYABLE_FAILURE wKind_FINAL_FAILURE) (i0 : Int32) (i1 : Int32) (i2 : Int32) (i3 : Int32) (h0 : Heap) (n0 : Nat) (O0 : Old Z n0 h0) (pin0 : ((i0 &&& (2147483647 : Int32)) % (3 : Int32)) = (2 : Int32)) (pin1 : (i1 &&& (3 : Int32)) = (3 : Int32)) (hc4 : (nar .byte (i2.toInt8.toInt32)) = (i2.toInt8.toInt32)) (hc5 : (nar .byte ((i2 >>> ((8 : Int32) &&& 31)).toInt8.toInt32)) = ((i2 >>> ((8 : Int32) &&& 31)).toInt8.toInt32)) (hc6 : (nar .byte ((i2 >>> ((16 : Int32) &&& 31)).toInt8.toInt32)) = ((i2 >>> ((16 : Int32) &&& 31)).toInt8.toInt32)) :
    MetFree l x (head1 (Jvm.Cond.code x code maxLocals ret :: ws) room_1) (fun a U => a = #[(.int i0), (.int i1), (.int i2), (.int i3)] ∧ Z.Warmed39 U.vm ∧ U.heap = h0) (fun _ _ _ _ _ => True) (fun _ U o U' => ∃ v L, o = .returned v ∧ law_12Q Z wKind_SUCCESS wKind_RETRYABLE_FAILURE wKind_FINAL_FAILURE i0 i1 i2 i3 h0 n0 v U'.heap L ∧ ReturnedEndW U o U' L room_1.cells room_1.slots) := by
  refine MetFree.of_bodySF (plainFor_of_name pn_com_example_nervous_key_nervouskey_OutcomeOfPinLaw) hisR ?_
  intro p e s m args below meth c s₁ Bd hml0 hP hK
  obtain ⟨rfl, hZ, hh⟩ := hP
  have hx := Bd.exec
  have hby := Bd.bytes
  have hml : c.maxLocals = 15 := hml0
  have hown : s.vm.findClass "com/example/nervous_key/nervouskey/OutcomeOfPinLaw" = some m.cls := findClass_of_methodNamed Bd.named
  have hnm := (name_of_methodNamed Bd.named Bd.method).1
  have X0 : Stand p l e room_1 s m #[(.int i0), (.int i1), (.int i2), (.int i3)] below meth c s₁ [] 0 0 := Stand.of_body Bd
  have e0 : s₁.heap = h0 := by rw [← hh, Bd.state]; rfl
  have N0 := Fr.nil n0
  have pre0 : ∀ t, Steps p.tables e below (s₁.setTop (mkF m 0 #[iv i0, iv i1, iv i2, iv i3, .unset, .unset, .unset, .unset, .unset, .unset, .unset, .unset, .unset, .unset, .unset] [])) t → Steps p.tables e below (s₁.setTop (entryFrame m #[(.int i0), (.int i1), (.int i2), (.int i3)] maxLocals)) t := fun t k => castTop (law_12e m wKind_SUCCESS wKind_RETRYABLE_FAILURE wKind_FINAL_FAILURE i0 i1 i2 i3) k
  obtain ⟨T1, X1, e1, st1⟩ := getS2 X0 hx hZ hown (host := "") (Or.inl (ow hw 60 rfl)) Via.refl e0 (B.2.2.2.2.1.ext O0.2) (g := (mkF m 35 #[iv i0, iv i1, iv i2, iv i3, iv (2 : Int32), .unset, .unset, .unset, .unset, .unset, .unset, .unset, .unset, .unset, .unset] [])) rfl (hb hby at_35)
  obtain ⟨T2, h2, L2, b2_0, k2_0, X2, e2, N2, K2, lo2_1, f2_2, f2_3, st2⟩ := g0_7 i0 i1 i2 i3 (2 : Int32) wKind_FINAL_FAILURE (i2.toInt8.toInt32) ((i2 >>> ((8 : Int32) &&& 31)).toInt8.toInt32) ((i2 >>> ((16 : Int32) &&& 31)).toInt8.toInt32) ((i3 ||| (1 : Int32)).toInt8.toInt32) X1 hx hZ hw hby hml hown e1 O0 N0 (by decide) (by decide) (by decide) (by decide)
  have O_K2 : Old Z n0 h2 := O0.keep K2 all0
  have Kp_K2 : Keep h0 h2 [] := (Keep.refl h0 []).trans K2 all0
  have g3 : n0 ≤ b2_0 := Nat.le_trans (Nat.le_trans (Nat.le_of_eq O0.1.symm) O0.2.1) lo2_1
  obtain ⟨T7, h7, L7, vm7, b7_0, b7_1, b7_2, b7_3, X7, e7, hSq7, N7, K7, lo7_1, lo7_2, lo7_3, lo7_4, nq7_5, nq7_6, nq7_7, nq7_8, nq7_9, nq7_10, f7_11, f7_12, f7_13, f7_14, f7_15, f7_16, f7_17, f7_18, f7_19, f7_20, f7_21, st7⟩ := g0_8 i0 i1 i2 i3 (2 : Int32) wKind_FINAL_FAILURE (i2.toInt8.toInt32) ((i2 >>> ((8 : Int32) &&& 31)).toInt8.toInt32) ((i2 >>> ((16 : Int32) &&& 31)).toInt8.toInt32) ((i3 ||| (1 : Int32)).toInt8.toInt32) b2_0 k2_0 (nar .byte (i2.toInt8.toInt32)) (nar .byte ((i2 >>> ((8 : Int32) &&& 31)).toInt8.toInt32)) (nar .byte ((i2 >>> ((16 : Int32) &&& 31)).toInt8.toInt32)) X2 hx hZ hw hby hml hown e2 O_K2 N2 (by decide) (by decide) (by decide) (by decide) B.2.2.2.2.2 f2_3 f2_2 g3 hc4 hc5 hc6
  obtain ⟨Y7, hS7, hZ7, hown7⟩ := rebS (s := s) (vm0 := s.vm) (State.WarmedH.since (State.WarmedH.refl s) 0) (Nat.zero_le _) X7 hSq7 K7.1 hZ hown
  have z8 : h0.size ≤ b2_0 := Nat.le_trans (Keep.refl h0 []).1 lo2_1
  have O_K7 : Old Z n0 h7 := O_K2.keep K7 (allS g3 all0)
  have Kp_K7 : Keep h0 h7 [] := Kp_K2.trans K7 (allS (Or.inr z8) all0)
  obtain ⟨cq9, kq9, q9a, q9b, q9c⟩ := isOf hZ7 e7 f7_13
  obtain ⟨_, _, ⟨T9, L9, k9, n9⟩, -, X9, ⟨Lc9, hQ9, l9, y9, z9⟩, st9⟩ := Y7.virtualBack hx (y := y4) (z := y4) hown7 (mvT hZ7 (ow hw 44 rfl)) (mvT hZ7 (ow hw 45 rfl)) (notFace_of_selects (args := #[]) (mvT hZ7 (ow hw 47 rfl))) (mvT hZ7 (ow hw 47 rfl)) (mvT hZ7 (ow hw 46 rfl)) (by decide) (backOf (W := 0) (r4_1 l Z a0 hw [] b7_0 wKind_FINAL_FAILURE h7 n0 O_K7 f7_14) hZ7 (ow hw 48 rfl) (ow hw 7 rfl) (by decide) (by decide)) q9a q9c (g := (mkF m 283 #[iv i0, iv i1, iv i2, iv i3, iv (2 : Int32), rv wKind_FINAL_FAILURE, iv (3 : Int32), iv (i2.toInt8.toInt32), iv ((i2 >>> ((8 : Int32) &&& 31)).toInt8.toInt32), iv ((i2 >>> ((16 : Int32) &&& 31)).toInt8.toInt32), iv ((i3 ||| (1 : Int32)).toInt8.toInt32), rv b2_0, rv b7_0, rv b7_1, rv b7_2] [(.ref b7_0)])) rfl (by rw [hml]; rfl) (Steps.refl _) (argsL := []) (rest := []) (lenOf pd___Lcom_example_nervous_key_nervouskey_Outcome_Kind_ rfl) rfl (by show 2 * 0 + _ ≤ _; exact Nat.le_of_eq rfl) (hb hby at_283) (fun _ _ => ⟨rfl, e7, (by decide : 9 + 0 ≤ _), (by decide : 62 + 0 ≤ _)⟩)
  dsimp only [Pt.U, Pt.locs, Pt.cells, Pt.slots] at X9 l9 y9 z9 st9 hQ9
  subst l9 y9 z9
  obtain ⟨rfl, N9q, e9⟩ := hQ9
  have N9 := Fr.app N7 N9q
  obtain ⟨fs, hr, hrun, hended, hE⟩ := Stand.leaveW (s := s) (vm₁ := vm7) X9 hS7 (by rw [e9]; exact (Nat.le_refl _)) (v := some (.int (1 : Int32))) (fun h => by rw [Bd.returns] at h; cases h)
  refine ⟨_, _, pre0 _ ?_, hrun, hended, _, _, rfl, ?_, hE.1, hE.2.1, hE.2.2.1, hE.2.2.2.mono (by decide) (by decide)⟩
  · show St p e below s₁ m 0 #[iv i0, iv i1, iv i2, iv i3, .unset, .unset, .unset, .unset, .unset, .unset, .unset, .unset, .unset, .unset, .unset] [] _
    refine XS.iloadN X0.here hx rfl (hb hby at_0) rfl ?_
    show St p e below s₁ m 1 #[iv i0, iv i1, iv i2, iv i3, .unset, .unset, .unset, .unset, .unset, .unset, .unset, .unset, .unset, .unset, .unset] [(.int i0)] _
    refine X0.ldcInt hx hown (mvT hZ (ow hw 0 rfl)) (g := (mkF m 1 #[iv i0, iv i1, iv i2, iv i3, .unset, .unset, .unset, .unset, .unset, .unset, .unset, .unset, .unset, .unset, .unset] [(.int i0)])) rfl (hb hby at_1) _ ?_
    show St p e below s₁ m 3 #[iv i0, iv i1, iv i2, iv i3, .unset, .unset, .unset, .unset, .unset, .unset, .unset, .unset, .unset, .unset, .unset] [(.int (2147483647 : Int32)), (.int i0)] _
    refine XS.iand X0.here hx rfl (hb hby at_3) rfl ?_
    show St p e below s₁ m 4 #[iv i0, iv i1, iv i2, iv i3, .unset, .unset, .unset, .unset, .unset, .unset, .unset, .unset, .unset, .unset, .unset] [(.int (i0 &&& (2147483647 : Int32)))] _
    refine XS.iconst X0.here hx rfl (hb hby at_4) ?_
    show St p e below s₁ m 5 #[iv i0, iv i1, iv i2, iv i3, .unset, .unset, .unset, .unset, .unset, .unset, .unset, .unset, .unset, .unset, .unset] [(.int (3 : Int32)), (.int (i0 &&& (2147483647 : Int32)))] _
    refine Jvm.RoadKit.iremM (g := (mkF m 5 #[iv i0, iv i1, iv i2, iv i3, .unset, .unset, .unset, .unset, .unset, .unset, .unset, .unset, .unset, .unset, .unset] [(.int (3 : Int32)), (.int (i0 &&& (2147483647 : Int32)))])) X0 hx rfl (hb hby at_5) rfl (by decide : ¬ ((3 : Int32) = (0 : Int32))) ?_
    show St p e below s₁ m 6 #[iv i0, iv i1, iv i2, iv i3, .unset, .unset, .unset, .unset, .unset, .unset, .unset, .unset, .unset, .unset, .unset] [(.int ((i0 &&& (2147483647 : Int32)) % (3 : Int32)))] _
    rw [pin0]
    show St p e below s₁ m 6 #[iv i0, iv i1, iv i2, iv i3, .unset, .unset, .unset, .unset, .unset, .unset, .unset, .unset, .unset, .unset, .unset] [(.int (2 : Int32))] _
    refine XS.istore X0.here hx rfl (hb hby at_6) rfl (l' := #[iv i0, iv i1, iv i2, iv i3, iv (2 : Int32), .unset, .unset, .unset, .unset, .unset, .unset, .unset, .unset, .unset, .unset]) rfl ?_
    show St p e below s₁ m 8 #[iv i0, iv i1, iv i2, iv i3, iv (2 : Int32), .unset, .unset, .unset, .unset, .unset, .unset, .unset, .unset, .unset, .unset] [] _
    refine XS.iload X0.here hx rfl (hb hby at_8) rfl ?_
    show St p e below s₁ m 10 #[iv i0, iv i1, iv i2, iv i3, iv (2 : Int32), .unset, .unset, .unset, .unset, .unset, .unset, .unset, .unset, .unset, .unset] [(.int (2 : Int32))] _
    refine XS.ifYes X0.here hx rfl (pc0 := 10) (pc' := 21) rfl (hb hby at_10) rfl ((if0 _ _).trans (feq (by decide : ¬ ((2 : Int32) = (0 : Int32)))).2) (by decide) (by decide) ?_
    show St p e below s₁ m 21 #[iv i0, iv i1, iv i2, iv i3, iv (2 : Int32), .unset, .unset, .unset, .unset, .unset, .unset, .unset, .unset, .unset, .unset] [] _
    refine XS.iload X0.here hx rfl (hb hby at_21) rfl ?_
    show St p e below s₁ m 23 #[iv i0, iv i1, iv i2, iv i3, iv (2 : Int32), .unset, .unset, .unset, .unset, .unset, .unset, .unset, .unset, .unset, .unset] [(.int (2 : Int32))] _
    refine XS.iconst X0.here hx rfl (hb hby at_23) ?_
    show St p e below s₁ m 24 #[iv i0, iv i1, iv i2, iv i3, iv (2 : Int32), .unset, .unset, .unset, .unset, .unset, .unset, .unset, .unset, .unset, .unset] [(.int (1 : Int32)), (.int (2 : Int32))] _
    refine XS.icmpYes X0.here hx rfl (pc0 := 24) (pc' := 35) rfl (hb hby at_24) rfl (feq (by decide : ¬ ((2 : Int32) = (1 : Int32)))).2 (by decide) (by decide) ?_
    show St p e below s₁ m 35 #[iv i0, iv i1, iv i2, iv i3, iv (2 : Int32), .unset, .unset, .unset, .unset, .unset, .unset, .unset, .unset, .unset, .unset] [] _
    refine st1 _ ?_
    show St p e below T1 m 38 #[iv i0, iv i1, iv i2, iv i3, iv (2 : Int32), .unset, .unset, .unset, .unset, .unset, .unset, .unset, .unset, .unset, .unset] [(.ref wKind_FINAL_FAILURE)] _
    refine XS.astore X1.here hx rfl (hb hby at_38) rfl rfl (l' := #[iv i0, iv i1, iv i2, iv i3, iv (2 : Int32), rv wKind_FINAL_FAILURE, .unset, .unset, .unset, .unset, .unset, .unset, .unset, .unset, .unset]) rfl ?_
    show St p e below T1 m 40 #[iv i0, iv i1, iv i2, iv i3, iv (2 : Int32), rv wKind_FINAL_FAILURE, .unset, .unset, .unset, .unset, .unset, .unset, .unset, .unset, .unset] [] _
    refine XS.iloadN X1.here hx rfl (hb hby at_40) rfl ?_
    show St p e below T1 m 41 #[iv i0, iv i1, iv i2, iv i3, iv (2 : Int32), rv wKind_FINAL_FAILURE, .unset, .unset, .unset, .unset, .unset, .unset, .unset, .unset, .unset] [(.int i1)] _
    refine XS.iconst X1.here hx rfl (hb hby at_41) ?_
    show St p e below T1 m 42 #[iv i0, iv i1, iv i2, iv i3, iv (2 : Int32), rv wKind_FINAL_FAILURE, .unset, .unset, .unset, .unset, .unset, .unset, .unset, .unset, .unset] [(.int (3 : Int32)), (.int i1)] _
    refine XS.iand X1.here hx rfl (hb hby at_42) rfl ?_
    show St p e below T1 m 43 #[iv i0, iv i1, iv i2, iv i3, iv (2 : Int32), rv wKind_FINAL_FAILURE, .unset, .unset, .unset, .unset, .unset, .unset, .unset, .unset, .unset] [(.int (i1 &&& (3 : Int32)))] _
    rw [pin1]
    show St p e below T1 m 43 #[iv i0, iv i1, iv i2, iv i3, iv (2 : Int32), rv wKind_FINAL_FAILURE, .unset, .unset, .unset, .unset, .unset, .unset, .unset, .unset, .unset] [(.int (3 : Int32))] _
    refine XS.istore X1.here hx rfl (hb hby at_43) rfl (l' := #[iv i0, iv i1, iv i2, iv i3, iv (2 : Int32), rv wKind_FINAL_FAILURE, iv (3 : Int32), .unset, .unset, .unset, .unset, .unset, .unset, .unset, .unset]) rfl ?_
    show St p e below T1 m 45 #[iv i0, iv i1, iv i2, iv i3, iv (2 : Int32), rv wKind_FINAL_FAILURE, iv (3 : Int32), .unset, .unset, .unset, .unset, .unset, .unset, .unset, .unset] [] _
    refine XS.iloadN X1.here hx rfl (hb hby at_45) rfl ?_
    show St p e below T1 m 46 #[iv i0, iv i1, iv i2, iv i3, iv (2 : Int32), rv wKind_FINAL_FAILURE, iv (3 : Int32), .unset, .unset, .unset, .unset, .unset, .unset, .unset, .unset] [(.int i2)] _
    refine XS.i2b X1.here hx rfl (hb hby at_46) rfl ?_
    show St p e below T1 m 47 #[iv i0, iv i1, iv i2, iv i3, iv (2 : Int32), rv wKind_FINAL_FAILURE, iv (3 : Int32), .unset, .unset, .unset, .unset, .unset, .unset, .unset, .unset] [(.int (i2.toInt8.toInt32))] _
    refine XS.istore X1.here hx rfl (hb hby at_47) rfl (l' := #[iv i0, iv i1, iv i2, iv i3, iv (2 : Int32), rv wKind_FINAL_FAILURE, iv (3 : Int32), iv (i2.toInt8.toInt32), .unset, .unset, .unset, .unset, .unset, .unset, .unset]) rfl ?_
    show St p e below T1 m 49 #[iv i0, iv i1, iv i2, iv i3, iv (2 : Int32), rv wKind_FINAL_FAILURE, iv (3 : Int32), iv (i2.toInt8.toInt32), .unset, .unset, .unset, .unset, .unset, .unset, .unset] [] _
    refine XS.iloadN X1.here hx rfl (hb hby at_49) rfl ?_
    show St p e below T1 m 50 #[iv i0, iv i1, iv i2, iv i3, iv (2 : Int32), rv wKind_FINAL_FAILURE, iv (3 : Int32), iv (i2.toInt8.toInt32), .unset, .unset, .unset, .unset, .unset, .unset, .unset] [(.int i2)] _
    refine XS.bipush X1.here hx rfl (hb hby at_50) ?_
    show St p e below T1 m 52 #[iv i0, iv i1, iv i2, iv i3, iv (2 : Int32), rv wKind_FINAL_FAILURE, iv (3 : Int32), iv (i2.toInt8.toInt32), .unset, .unset, .unset, .unset, .unset, .unset, .unset] [(.int (8 : Int32)), (.int i2)] _
    refine XS.ishr X1.here hx rfl (hb hby at_52) rfl ?_
    show St p e below T1 m 53 #[iv i0, iv i1, iv i2, iv i3, iv (2 : Int32), rv wKind_FINAL_FAILURE, iv (3 : Int32), iv (i2.toInt8.toInt32), .unset, .unset, .unset, .unset, .unset, .unset, .unset] [(.int (i2 >>> ((8 : Int32) &&& 31)))] _
    refine XS.i2b X1.here hx rfl (hb hby at_53) rfl ?_
    show St p e below T1 m 54 #[iv i0, iv i1, iv i2, iv i3, iv (2 : Int32), rv wKind_FINAL_FAILURE, iv (3 : Int32), iv (i2.toInt8.toInt32), .unset, .unset, .unset, .unset, .unset, .unset, .unset] [(.int ((i2 >>> ((8 : Int32) &&& 31)).toInt8.toInt32))] _
    refine XS.istore X1.here hx rfl (hb hby at_54) rfl (l' := #[iv i0, iv i1, iv i2, iv i3, iv (2 : Int32), rv wKind_FINAL_FAILURE, iv (3 : Int32), iv (i2.toInt8.toInt32), iv ((i2 >>> ((8 : Int32) &&& 31)).toInt8.toInt32), .unset, .unset, .unset, .unset, .unset, .unset]) rfl ?_
    show St p e below T1 m 56 #[iv i0, iv i1, iv i2, iv i3, iv (2 : Int32), rv wKind_FINAL_FAILURE, iv (3 : Int32), iv (i2.toInt8.toInt32), iv ((i2 >>> ((8 : Int32) &&& 31)).toInt8.toInt32), .unset, .unset, .unset, .unset, .unset, .unset] [] _
    refine XS.iloadN X1.here hx rfl (hb hby at_56) rfl ?_
    show St p e below T1 m 57 #[iv i0, iv i1, iv i2, iv i3, iv (2 : Int32), rv wKind_FINAL_FAILURE, iv (3 : Int32), iv (i2.toInt8.toInt32), iv ((i2 >>> ((8 : Int32) &&& 31)).toInt8.toInt32), .unset, .unset, .unset, .unset, .unset, .unset] [(.int i2)] _
    refine XS.bipush X1.here hx rfl (hb hby at_57) ?_
    show St p e below T1 m 59 #[iv i0, iv i1, iv i2, iv i3, iv (2 : Int32), rv wKind_FINAL_FAILURE, iv (3 : Int32), iv (i2.toInt8.toInt32), iv ((i2 >>> ((8 : Int32) &&& 31)).toInt8.toInt32), .unset, .unset, .unset, .unset, .unset, .unset] [(.int (16 : Int32)), (.int i2)] _
    refine XS.ishr X1.here hx rfl (hb hby at_59) rfl ?_
    show St p e below T1 m 60 #[iv i0, iv i1, iv i2, iv i3, iv (2 : Int32), rv wKind_FINAL_FAILURE, iv (3 : Int32), iv (i2.toInt8.toInt32), iv ((i2 >>> ((8 : Int32) &&& 31)).toInt8.toInt32), .unset, .unset, .unset, .unset, .unset, .unset] [(.int (i2 >>> ((16 : Int32) &&& 31)))] _
    refine XS.i2b X1.here hx rfl (hb hby at_60) rfl ?_
    show St p e below T1 m 61 #[iv i0, iv i1, iv i2, iv i3, iv (2 : Int32), rv wKind_FINAL_FAILURE, iv (3 : Int32), iv (i2.toInt8.toInt32), iv ((i2 >>> ((8 : Int32) &&& 31)).toInt8.toInt32), .unset, .unset, .unset, .unset, .unset, .unset] [(.int ((i2 >>> ((16 : Int32) &&& 31)).toInt8.toInt32))] _
    refine XS.istore X1.here hx rfl (hb hby at_61) rfl (l' := #[iv i0, iv i1, iv i2, iv i3, iv (2 : Int32), rv wKind_FINAL_FAILURE, iv (3 : Int32), iv (i2.toInt8.toInt32), iv ((i2 >>> ((8 : Int32) &&& 31)).toInt8.toInt32), iv ((i2 >>> ((16 : Int32) &&& 31)).toInt8.toInt32), .unset, .unset, .unset, .unset, .unset]) rfl ?_
    show St p e below T1 m 63 #[iv i0, iv i1, iv i2, iv i3, iv (2 : Int32), rv wKind_FINAL_FAILURE, iv (3 : Int32), iv (i2.toInt8.toInt32), iv ((i2 >>> ((8 : Int32) &&& 31)).toInt8.toInt32), iv ((i2 >>> ((16 : Int32) &&& 31)).toInt8.toInt32), .unset, .unset, .unset, .unset, .unset] [] _
    refine XS.iloadN X1.here hx rfl (hb hby at_63) rfl ?_
    show St p e below T1 m 64 #[iv i0, iv i1, iv i2, iv i3, iv (2 : Int32), rv wKind_FINAL_FAILURE, iv (3 : Int32), iv (i2.toInt8.toInt32), iv ((i2 >>> ((8 : Int32) &&& 31)).toInt8.toInt32), iv ((i2 >>> ((16 : Int32) &&& 31)).toInt8.toInt32), .unset, .unset, .unset, .unset, .unset] [(.int i3)] _
    refine XS.iconst X1.here hx rfl (hb hby at_64) ?_
    show St p e below T1 m 65 #[iv i0, iv i1, iv i2, iv i3, iv (2 : Int32), rv wKind_FINAL_FAILURE, iv (3 : Int32), iv (i2.toInt8.toInt32), iv ((i2 >>> ((8 : Int32) &&& 31)).toInt8.toInt32), iv ((i2 >>> ((16 : Int32) &&& 31)).toInt8.toInt32), .unset, .unset, .unset, .unset, .unset] [(.int (1 : Int32)), (.int i3)] _
    refine XS.ior X1.here hx rfl (hb hby at_65) rfl ?_
    show St p e below T1 m 66 #[iv i0, iv i1, iv i2, iv i3, iv (2 : Int32), rv wKind_FINAL_FAILURE, iv (3 : Int32), iv (i2.toInt8.toInt32), iv ((i2 >>> ((8 : Int32) &&& 31)).toInt8.toInt32), iv ((i2 >>> ((16 : Int32) &&& 31)).toInt8.toInt32), .unset, .unset, .unset, .unset, .unset] [(.int (i3 ||| (1 : Int32)))] _
    refine XS.i2b X1.here hx rfl (hb hby at_66) rfl ?_
    show St p e below T1 m 67 #[iv i0, iv i1, iv i2, iv i3, iv (2 : Int32), rv wKind_FINAL_FAILURE, iv (3 : Int32), iv (i2.toInt8.toInt32), iv ((i2 >>> ((8 : Int32) &&& 31)).toInt8.toInt32), iv ((i2 >>> ((16 : Int32) &&& 31)).toInt8.toInt32), .unset, .unset, .unset, .unset, .unset] [(.int ((i3 ||| (1 : Int32)).toInt8.toInt32))] _
    refine XS.istore X1.here hx rfl (hb hby at_67) rfl (l' := #[iv i0, iv i1, iv i2, iv i3, iv (2 : Int32), rv wKind_FINAL_FAILURE, iv (3 : Int32), iv (i2.toInt8.toInt32), iv ((i2 >>> ((8 : Int32) &&& 31)).toInt8.toInt32), iv ((i2 >>> ((16 : Int32) &&& 31)).toInt8.toInt32), iv ((i3 ||| (1 : Int32)).toInt8.toInt32), .unset, .unset, .unset, .unset]) rfl ?_
    refine st2 _ ?_
    refine st7 _ ?_
    show St p e below T7 m 281 #[iv i0, iv i1, iv i2, iv i3, iv (2 : Int32), rv wKind_FINAL_FAILURE, iv (3 : Int32), iv (i2.toInt8.toInt32), iv ((i2 >>> ((8 : Int32) &&& 31)).toInt8.toInt32), iv ((i2 >>> ((16 : Int32) &&& 31)).toInt8.toInt32), iv ((i3 ||| (1 : Int32)).toInt8.toInt32), rv b2_0, rv b7_0, rv b7_1, rv b7_2] [] _
    refine XS.aload Y7.here hx rfl (hb hby at_281) rfl rfl ?_
    show St p e below T7 m 283 #[iv i0, iv i1, iv i2, iv i3, iv (2 : Int32), rv wKind_FINAL_FAILURE, iv (3 : Int32), iv (i2.toInt8.toInt32), iv ((i2 >>> ((8 : Int32) &&& 31)).toInt8.toInt32), iv ((i2 >>> ((16 : Int32) &&& 31)).toInt8.toInt32), iv ((i3 ||| (1 : Int32)).toInt8.toInt32), rv b2_0, rv b7_0, rv b7_1, rv b7_2] [(.ref b7_0)] _
    refine st9.trans ?_
    show St p e below T9 m 286 #[iv i0, iv i1, iv i2, iv i3, iv (2 : Int32), rv wKind_FINAL_FAILURE, iv (3 : Int32), iv (i2.toInt8.toInt32), iv ((i2 >>> ((8 : Int32) &&& 31)).toInt8.toInt32), iv ((i2 >>> ((16 : Int32) &&& 31)).toInt8.toInt32), iv ((i3 ||| (1 : Int32)).toInt8.toInt32), rv b2_0, rv b7_0, rv b7_1, rv b7_2] [(.ref wKind_FINAL_FAILURE)] _
    refine XS.aload X9.here hx rfl (hb hby at_286) rfl rfl ?_
    show St p e below T9 m 288 #[iv i0, iv i1, iv i2, iv i3, iv (2 : Int32), rv wKind_FINAL_FAILURE, iv (3 : Int32), iv (i2.toInt8.toInt32), iv ((i2 >>> ((8 : Int32) &&& 31)).toInt8.toInt32), iv ((i2 >>> ((16 : Int32) &&& 31)).toInt8.toInt32), iv ((i3 ||| (1 : Int32)).toInt8.toInt32), rv b2_0, rv b7_0, rv b7_1, rv b7_2] [(.ref wKind_FINAL_FAILURE), (.ref wKind_FINAL_FAILURE)] _
    refine Jvm.RoadKit.acmp (g := (mkF m 288 #[iv i0, iv i1, iv i2, iv i3, iv (2 : Int32), rv wKind_FINAL_FAILURE, iv (3 : Int32), iv (i2.toInt8.toInt32), iv ((i2 >>> ((8 : Int32) &&& 31)).toInt8.toInt32), iv ((i2 >>> ((16 : Int32) &&& 31)).toInt8.toInt32), iv ((i3 ||| (1 : Int32)).toInt8.toInt32), rv b2_0, rv b7_0, rv b7_1, rv b7_2] [(.ref wKind_FINAL_FAILURE), (.ref wKind_FINAL_FAILURE)])) X9 hx rfl rfl rfl (pc0 := 288) (pc' := 291) (same := true) rfl (hb hby at_288) rfl (decide_eq_true rfl) (by decide) (by decide) ?_
    show St p e below T9 m 291 #[iv i0, iv i1, iv i2, iv i3, iv (2 : Int32), rv wKind_FINAL_FAILURE, iv (3 : Int32), iv (i2.toInt8.toInt32), iv ((i2 >>> ((8 : Int32) &&& 31)).toInt8.toInt32), iv ((i2 >>> ((16 : Int32) &&& 31)).toInt8.toInt32), iv ((i3 ||| (1 : Int32)).toInt8.toInt32), rv b2_0, rv b7_0, rv b7_1, rv b7_2] [] _
    refine XS.iconst X9.here hx rfl (hb hby at_291) ?_
    show St p e below T9 m 292 #[iv i0, iv i1, iv i2, iv i3, iv (2 : Int32), rv wKind_FINAL_FAILURE, iv (3 : Int32), iv (i2.toInt8.toInt32), iv ((i2 >>> ((8 : Int32) &&& 31)).toInt8.toInt32), iv ((i2 >>> ((16 : Int32) &&& 31)).toInt8.toInt32), iv ((i3 ||| (1 : Int32)).toInt8.toInt32), rv b2_0, rv b7_0, rv b7_1, rv b7_2] [(.int (1 : Int32))] _
    refine XS.goto X9.here hx rfl (pc0 := 292) (pc' := 296) rfl (hb hby at_292) (by decide) (by decide) ?_
    show St p e below T9 m 296 #[iv i0, iv i1, iv i2, iv i3, iv (2 : Int32), rv wKind_FINAL_FAILURE, iv (3 : Int32), iv (i2.toInt8.toInt32), iv ((i2 >>> ((8 : Int32) &&& 31)).toInt8.toInt32), iv ((i2 >>> ((16 : Int32) &&& 31)).toInt8.toInt32), iv ((i3 ||| (1 : Int32)).toInt8.toInt32), rv b2_0, rv b7_0, rv b7_1, rv b7_2] [(.int (1 : Int32))] _
    exact retN X9 hx (t := .boolean) Bd.returns (by simp) (hb hby at_296) hr
  · show law_12Q Z wKind_SUCCESS wKind_RETRYABLE_FAILURE wKind_FINAL_FAILURE i0 i1 i2 i3 h0 n0 _ T9.heap _
    rw [e9]
    exact ⟨rfl, N9⟩
theorem own_rem3 (x : Int32) : ((x &&& (2147483647 : Int32)) % (3 : Int32)) = (0 : Int32) ∨ ((x &&& (2147483647 : Int32)) % (3 : Int32)) = (1 : Int32) ∨ ((x &&& (2147483647 : Int32)) % (3 : Int32)) = (2 : Int32) := by
  have a := c_mask x 2147483647 31 (by decide) (by decide)
  have b := (c_irem (x &&& 2147483647) 3 3 (by decide)).1 (by omega)
  have h0 : (0 : Int32).toInt = 0 := rfl
  have h1 : (1 : Int32).toInt = 1 := rfl
  have h2 : (2 : Int32).toInt = 2 := rfl
  simp only [← Int32.toInt_inj, h0, h1, h2]
  omega
theorem own_and3 (x : Int32) : (x &&& (3 : Int32)) = (0 : Int32) ∨ (x &&& (3 : Int32)) = (1 : Int32) ∨ (x &&& (3 : Int32)) = (2 : Int32) ∨ (x &&& (3 : Int32)) = (3 : Int32) := by
  have a := c_mask x 3 2 (by decide) (by decide)
  have h0 : (0 : Int32).toInt = 0 := rfl
  have h1 : (1 : Int32).toInt = 1 := rfl
  have h2 : (2 : Int32).toInt = 2 := rfl
  have h3 : (3 : Int32).toInt = 3 := rfl
  simp only [← Int32.toInt_inj, h0, h1, h2, h3]
  omega
theorem all_roads (l : Launch) (Z : State) (a0 : Array Value) (hw : ∀ d ∈ tables_1, d.before a0 Z = true) (ws : List Jvm.Cond) (wKind_SUCCESS : Addr) (wKind_RETRYABLE_FAILURE : Addr) (wKind_FINAL_FAILURE : Addr) (B : Base Z wKind_SUCCESS wKind_RETRYABLE_FAILURE wKind_FINAL_FAILURE) (i0 : Int32) (i1 : Int32) (i2 : Int32) (i3 : Int32) (h0 : Heap) (n0 : Nat) (O0 : Old Z n0 h0) :
    MetFree l x (head1 (Jvm.Cond.code x code maxLocals ret :: ws) room_1) (fun a U => a = #[(.int i0), (.int i1), (.int i2), (.int i3)] ∧ Z.Warmed39 U.vm ∧ U.heap = h0) (fun _ _ _ _ _ => True) (fun _ U o U' => ∃ v L, o = .returned v ∧ (v = some (.int (1 : Int32)) ∧ Fr n0 L) ∧ ReturnedEndW U o U' L room_1.cells room_1.slots) := by
  rcases own_rem3 i0 with p | p | p <;> rcases own_and3 i1 with q | q | q | q
  · exact law_1 l Z a0 hw ws wKind_SUCCESS wKind_RETRYABLE_FAILURE wKind_FINAL_FAILURE B i0 i1 i2 i3 h0 n0 O0 p q
  · exact law_2 l Z a0 hw ws wKind_SUCCESS wKind_RETRYABLE_FAILURE wKind_FINAL_FAILURE B i0 i1 i2 i3 h0 n0 O0 p q (own_narb _)
  · exact law_3 l Z a0 hw ws wKind_SUCCESS wKind_RETRYABLE_FAILURE wKind_FINAL_FAILURE B i0 i1 i2 i3 h0 n0 O0 p q (own_narb _) (own_narb _)
  · exact law_4 l Z a0 hw ws wKind_SUCCESS wKind_RETRYABLE_FAILURE wKind_FINAL_FAILURE B i0 i1 i2 i3 h0 n0 O0 p q (own_narb _) (own_narb _) (own_narb _)
  · exact law_5 l Z a0 hw ws wKind_SUCCESS wKind_RETRYABLE_FAILURE wKind_FINAL_FAILURE B i0 i1 i2 i3 h0 n0 O0 p q
  · exact law_6 l Z a0 hw ws wKind_SUCCESS wKind_RETRYABLE_FAILURE wKind_FINAL_FAILURE B i0 i1 i2 i3 h0 n0 O0 p q (own_narb _)
  · exact law_7 l Z a0 hw ws wKind_SUCCESS wKind_RETRYABLE_FAILURE wKind_FINAL_FAILURE B i0 i1 i2 i3 h0 n0 O0 p q (own_narb _) (own_narb _)
  · exact law_8 l Z a0 hw ws wKind_SUCCESS wKind_RETRYABLE_FAILURE wKind_FINAL_FAILURE B i0 i1 i2 i3 h0 n0 O0 p q (own_narb _) (own_narb _) (own_narb _)
  · exact law_9 l Z a0 hw ws wKind_SUCCESS wKind_RETRYABLE_FAILURE wKind_FINAL_FAILURE B i0 i1 i2 i3 h0 n0 O0 p q
  · exact law_10 l Z a0 hw ws wKind_SUCCESS wKind_RETRYABLE_FAILURE wKind_FINAL_FAILURE B i0 i1 i2 i3 h0 n0 O0 p q (own_narb _)
  · exact law_11 l Z a0 hw ws wKind_SUCCESS wKind_RETRYABLE_FAILURE wKind_FINAL_FAILURE B i0 i1 i2 i3 h0 n0 O0 p q (own_narb _) (own_narb _)
  · exact law_12 l Z a0 hw ws wKind_SUCCESS wKind_RETRYABLE_FAILURE wKind_FINAL_FAILURE B i0 i1 i2 i3 h0 n0 O0 p q (own_narb _) (own_narb _) (own_narb _)
set_option maxRecDepth 65536 in
set_option maxHeartbeats 40000000 in
theorem comes_1 {Post : Tables → Env → Array Value → State → Outcome → State → Prop} (hpost : ∀ tb e args s v u, (limb_1_1.after args s (.returned v) u = true ∧ limb_1_2.after args s (.returned v) u = true ∧ True) → FramedW s (.returned v) u (Jvm.fieldLocs frame_1_writes args s ++ Jvm.arrayLocs frame_1_arrays args s ++ Jvm.staticLocs frame_1_statics s) 24 2176 → Post tb e args s (.returned v) u) :
    ArmFor flags0 classFile x code maxLocals ret World_1 tables_1 room_1 Calls_1 rest_1 Pre_1 Post := by
  intro l hfl _ _ p e ha hc hk s m args below hf hA hF happ hP
  obtain ⟨hcalls, hrest, hpre⟩ := hP
  obtain ⟨-, -, -, hnamed, -, -, -, hat⟩ := (Spec.applies_iff hf).mp happ
  obtain ⟨hg, hn⟩ := and_e (Cond.before_iff.mp (show (Jvm.Cond.and given_1 narrow_1).before args s = true from hpre))
  obtain ⟨gg1, gg2⟩ := and_e hg
  obtain ⟨gg3, gg4⟩ := and_e gg2
  obtain ⟨gg5, gg6⟩ := and_e gg4
  obtain ⟨gg7, gg8⟩ := and_e gg6
  obtain ⟨w0, w1, w2, w3, rfl⟩ : ∃ w0 w1 w2 w3 : Value, args = #[w0, w1, w2, w3] := by
    have hs : args.size = 4 := by simpa [Cond.value, given_1] using gg1
    obtain ⟨L⟩ := args
    match L, hs with
    | [w0, w1, w2, w3], _ => exact ⟨w0, w1, w2, w3, rfl⟩
  have hw := fun d (hd : d ∈ tables_1) => atoms_spec (ws := Jvm.Cond.code x code maxLocals ret :: tables_1) hat d (List.mem_cons_of_mem _ hd)
  have hfit : Fit s := fun {y c} hc i hi => by
    obtain ⟨ha, rfl⟩ := Array.getElem?_eq_some_iff.mp hc
    have q := List.all_eq_true.mp ((Array.all_eq_true_iff_forall_mem.mp hF) _ (Array.getElem_mem ha)) i (List.mem_range.mpr hi)
    simpa [Array.getElem?_eq_getElem hi] using q
  obtain ⟨i0, ei0⟩ := is_v gg3
  obtain rfl : w0 = (.int i0) := Option.some.inj ei0
  obtain ⟨i1, ei1⟩ := is_v gg5
  obtain rfl : w1 = (.int i1) := Option.some.inj ei1
  obtain ⟨i2, ei2⟩ := is_v gg7
  obtain rfl : w2 = (.int i2) := Option.some.inj ei2
  obtain ⟨i3, ei3⟩ := is_v gg8
  obtain rfl : w3 = (.int i3) := Option.some.inj ei3
  obtain ⟨nr1, hn⟩ := and_e hn
  obtain ⟨nr2, hn⟩ := and_e hn
  have nr3 := hn
  obtain ⟨wKind_SUCCESS, ev_wKind_SUCCESS⟩ := exa_v nr1
  obtain ⟨wKind_RETRYABLE_FAILURE, ev_wKind_RETRYABLE_FAILURE⟩ := exa_v nr2
  obtain ⟨wKind_FINAL_FAILURE, ev_wKind_FINAL_FAILURE⟩ := exa_v nr3
  have hB : Base s wKind_SUCCESS wKind_RETRYABLE_FAILURE wKind_FINAL_FAILURE := ⟨Sta.start ev_wKind_SUCCESS (Or.inr ⟨(ow hw 2 rfl), (ow hw 3 rfl)⟩), Exa.start ev_wKind_SUCCESS nr1, Sta.start ev_wKind_RETRYABLE_FAILURE (Or.inr ⟨(ow hw 2 rfl), (ow hw 59 rfl)⟩), Exa.start ev_wKind_RETRYABLE_FAILURE nr2, Sta.start ev_wKind_FINAL_FAILURE (Or.inr ⟨(ow hw 2 rfl), (ow hw 61 rfl)⟩), Exa.start ev_wKind_FINAL_FAILURE nr3⟩
  obtain ⟨n, o, h1, h2, h3, _, L, rfl, ⟨rfl, N⟩, hq⟩ := all_roads l s _ hw tables_1 wKind_SUCCESS wKind_RETRYABLE_FAILURE wKind_FINAL_FAILURE hB i0 i1 i2 i3 s.heap s.heap.size (Old.start s) p e ha hc hk s m _ below hf ((Spec.applies_iff_loose hf).mp happ).1 ⟨rfl, State.Warmed39.refl s, rfl⟩ trivial
  refine ⟨n, _, h1, h2, h3, hpost _ _ _ _ _ _ ⟨Cond.after_iff.mpr rfl, Cond.after_iff.mpr (eq_i res_at (Term.int_eval (1)) rfl), trivial⟩ ?_⟩
  exact ⟨hq.1, hq.2.1, hq.2.2.1, (hq.2.2.2.sift fun y hy => Or.inr (N y hy)).mono (by decide) (by decide)⟩
theorem main_1_1 : Claimed_1_1 := comes_1 fun _ _ _ _ _ _ h hF => ⟨h.1, hF⟩
theorem main_1_2 : Claimed_1_2 := comes_1 fun _ _ _ _ _ _ h hF => ⟨h.2.1, hF⟩
end Jvm.Pilot.@@N@@
namespace Jvm.Pilot.@@N@@
open Jvm Jvm.ClassFile Sem Op Lib Jvm.Free Jvm.Stand Jvm.Pilot.@@N@@.Jvm.D
/-! MADE BY PROGRAM (witnessworld.py) out of the Statement's table words and the real class files: 17 classes; the members and pool entries that the words name. The judged class is class 1, her method 2. -/
namespace start1
open Jvm.ClassFile
def u (s : String) : CpInfo := .utf8 (stringToUtf16 s)
/-- a pool by its gaps: so many unusable entries, then the entry; so many at the end -/
def gap : Nat → List CpInfo → List CpInfo
  | 0, r => r
  | n + 1, r => .unusable :: gap n r
def poolList (es : List (Nat × CpInfo)) (last : Nat) : List CpInfo := es.foldr (fun e r => gap e.1 (e.2 :: r)) (gap last [])
def pool (es : List (Nat × CpInfo)) (last : Nat) : Array CpInfo := ⟨poolList es last⟩
def fileOf (pool : Array CpInfo) (this : Nat) (attrs : Array Attribute := #[]) (ms : Array MethodInfo := #[]) (fl : Nat := 33) (sup : Nat := 0) (ifs : Array Nat := #[]) (fds : Array FieldInfo := #[]) : ClassFile where
  minorVersion := 0
  majorVersion := 65
  constantPool := pool
  accessFlags := fl
  thisClass := this
  superClass := sup
  interfaces := ifs
  fields := fds
  methods := ms
  attributes := attrs
def plain (name : String) (sup : Option ClassId) : Class where
  name := name
  kind := .ordinary
  loader := none
  accessFlags := 33
  super := sup
  interfaces := #[]
  cf := none
  fields := #[]
  methods := #[]
  instanceTypes := #[]
  staticTypes := #[]
  resolved := #[]
  callSites := []
  init := .initialized
  statics := none
  mirror := none

def pool0 : Array CpInfo := pool [(5, u "<init>"), (0, u "()V"), (1, .class_ 10), (1, u "java/lang/Object"), (85, u "clone"), (0, u "()Ljava/lang/Object;")] 26

def k0c0 : Code := { maxStack := 0, maxLocals := 1, code := object_method_1_code, exceptionTable := #[], attributes := #[] }
def k0m0 : Method := { name := "<init>", desc := "()V", sig := { parameters := [], returnType := none }, accessFlags := 1, code := some k0c0 }
def k0m1 : Method := { name := "clone", desc := "()Ljava/lang/Object;", sig := { parameters := [], returnType := some (.object "java/lang/Object") }, accessFlags := 260, code := none }
/-- java/lang/Object -/
def k0 : Class := { plain "java/lang/Object" none with
  accessFlags := 33
  interfaces := #[]
  cf := some (fileOf pool0 8 #[] #[{ accessFlags := 1, nameIndex := 5, descriptorIndex := 6, attributes := #[] }, { accessFlags := 260, nameIndex := 96, descriptorIndex := 97, attributes := #[] }] 33 0 #[] #[])
  fields := #[]
  methods := #[k0m0, k0m1]
  instanceTypes := #[]
  staticTypes := #[]
  resolved := Array.replicate 124 none
  statics := none }

def pool1 : Array CpInfo := pool [(2, .class_ 4), (1, u "java/lang/Object"), (0, u "<init>"), (0, u "()V"), (0, .integer 2147483647), (0, .fieldref 9 10), (0, .class_ 11), (0, .nameAndType 12 13), (0, u "com/example/nervous_key/nervouskey/Outcome$Kind"), (0, u "SUCCESS"), (0, u "Lcom/example/nervous_key/nervouskey/Outcome$Kind;"), (0, .fieldref 9 15), (0, .nameAndType 16 13), (0, u "RETRYABLE_FAILURE"), (0, .fieldref 9 18), (0, .nameAndType 19 13), (0, u "FINAL_FAILURE"), (0, .methodref 21 22), (0, .class_ 23), (0, .nameAndType 24 25), (0, u "com/example/nervous_key/nervouskey/Outcome"), (0, u "of"), (0, u "(Lcom/example/nervous_key/nervouskey/Outcome$Kind;[B)Lcom/example/nervous_key/nervouskey/Outcome;"), (0, .methodref 21 27), (0, .nameAndType 28 29), (0, u "kind"), (0, u "()Lcom/example/nervous_key/nervouskey/Outcome$Kind;"), (0, .methodref 21 31), (0, .nameAndType 32 33), (0, u "result"), (0, u "()[B"), (0, .methodref 35 36), (0, .class_ 37), (0, .nameAndType 38 39), (0, u "com/example/nervous_key/nervouskey/OutcomeOfPinLaw"), (0, u "same"), (0, u "([BIBBB)Z"), (3, u "law"), (0, u "(IIII)Z")] 6

def k1m0 : Method := { name := "<init>", desc := "()V", sig := { parameters := [], returnType := none }, accessFlags := 1, code := none }
def k1c1 : Code := { maxStack := 2, maxLocals := 5, code := method_2_code, exceptionTable := #[], attributes := #[] }
def k1m1 : Method := { name := "same", desc := "([BIBBB)Z", sig := { parameters := [(.array .byte), .int, .byte, .byte, .byte], returnType := some .boolean }, accessFlags := 10, code := some k1c1 }
def k1c2 : Code := { maxStack := 5, maxLocals := 15, code := code, exceptionTable := #[], attributes := #[] }
def k1m2 : Method := { name := "law", desc := "(IIII)Z", sig := { parameters := [.int, .int, .int, .int], returnType := some .boolean }, accessFlags := 9, code := some k1c2 }
/-- com/example/nervous_key/nervouskey/OutcomeOfPinLaw -/
def k1 : Class := { plain "com/example/nervous_key/nervouskey/OutcomeOfPinLaw" (some 0) with
  accessFlags := 49
  interfaces := #[]
  cf := some (fileOf pool1 35 #[] #[{ accessFlags := 1, nameIndex := 5, descriptorIndex := 6, attributes := #[] }, { accessFlags := 10, nameIndex := 38, descriptorIndex := 39, attributes := #[] }, { accessFlags := 9, nameIndex := 43, descriptorIndex := 44, attributes := #[] }] 49 2 #[] #[])
  fields := #[]
  methods := #[k1m0, k1m1, k1m2]
  instanceTypes := #[]
  staticTypes := #[]
  resolved := Array.replicate 51 none
  statics := none }

def pool2 : Array CpInfo := pool [(1, .class_ 2), (0, u "java/lang/constant/Constable"), (0, .class_ 4), (0, u "java/lang/Object")] 6

/-- java/lang/constant/Constable -/
def k2 : Class := { plain "java/lang/constant/Constable" (some 0) with
  accessFlags := 1537
  interfaces := #[]
  cf := some (fileOf pool2 1 #[] #[] 1537 3 #[] #[])
  fields := #[]
  methods := #[]
  instanceTypes := #[]
  staticTypes := #[]
  resolved := Array.replicate 11 none
  statics := none }

def pool3 : Array CpInfo := pool [(1, .class_ 2), (0, u "java/lang/Comparable"), (0, .class_ 4), (0, u "java/lang/Object")] 7

/-- java/lang/Comparable -/
def k3 : Class := { plain "java/lang/Comparable" (some 0) with
  accessFlags := 1537
  interfaces := #[]
  cf := some (fileOf pool3 1 #[] #[] 1537 3 #[] #[])
  fields := #[]
  methods := #[]
  instanceTypes := #[]
  staticTypes := #[]
  resolved := Array.replicate 12 none
  statics := none }

def pool4 : Array CpInfo := pool [(1, .class_ 2), (0, u "java/io/Serializable"), (0, .class_ 4), (0, u "java/lang/Object")] 2

/-- java/io/Serializable -/
def k4 : Class := { plain "java/io/Serializable" (some 0) with
  accessFlags := 1537
  interfaces := #[]
  cf := some (fileOf pool4 1 #[] #[] 1537 3 #[] #[])
  fields := #[]
  methods := #[]
  instanceTypes := #[]
  staticTypes := #[]
  resolved := Array.replicate 7 none
  statics := none }

def pool5 : Array CpInfo := pool [(2, .class_ 4), (1, u "java/lang/Enum"), (0, u "name"), (0, u "Ljava/lang/String;"), (2, u "ordinal"), (0, u "I"), (1, .class_ 14), (1, u "java/lang/Object"), (4, u "hash"), (86, .class_ 108), (1, u "java/lang/Enum$EnumDesc"), (2, .class_ 112), (0, u "java/lang/constant/Constable"), (0, .class_ 114), (0, u "java/lang/Comparable"), (0, .class_ 116), (0, u "java/io/Serializable")] 87

/-- java/lang/Enum -/
def k5 : Class := { plain "java/lang/Enum" (some 0) with
  accessFlags := 1057
  interfaces := #[2, 3, 4]
  cf := some (fileOf pool5 2 #[.nestMembers #[106]] #[] 1057 12 #[111, 113, 115] #[{ accessFlags := 18, nameIndex := 5, descriptorIndex := 6, attributes := #[] }, { accessFlags := 18, nameIndex := 9, descriptorIndex := 10, attributes := #[] }, { accessFlags := 2, nameIndex := 19, descriptorIndex := 10, attributes := #[] }])
  fields := #[{ name := "name", type := (.object "java/lang/String"), accessFlags := 18, slot := 0, constantValue := 0 }, { name := "ordinal", type := .int, accessFlags := 18, slot := 1, constantValue := 0 }, { name := "hash", type := .int, accessFlags := 2, slot := 2, constantValue := 0 }]
  methods := #[]
  instanceTypes := #[(.object "java/lang/String"), .int, .int]
  staticTypes := #[]
  resolved := Array.replicate 204 none
  statics := none }

def pool6 : Array CpInfo := pool [(1, .class_ 2), (0, u "com/example/nervous_key/nervouskey/Outcome$Kind"), (2, u "SUCCESS"), (0, u "Lcom/example/nervous_key/nervouskey/Outcome$Kind;"), (2, u "RETRYABLE_FAILURE"), (2, u "FINAL_FAILURE"), (2, u "$VALUES"), (0, u "[Lcom/example/nervous_key/nervouskey/Outcome$Kind;"), (6, .class_ 25), (1, u "java/lang/Enum"), (26, .class_ 53), (0, u "com/example/nervous_key/nervouskey/Outcome")] 2

/-- com/example/nervous_key/nervouskey/Outcome$Kind -/
def k6 : Class := { plain "com/example/nervous_key/nervouskey/Outcome$Kind" (some 5) with
  accessFlags := 16433
  interfaces := #[]
  cf := some (fileOf pool6 1 #[.nestHost 52] #[] 16433 23 #[] #[{ accessFlags := 16409, nameIndex := 5, descriptorIndex := 6, attributes := #[] }, { accessFlags := 16409, nameIndex := 9, descriptorIndex := 6, attributes := #[] }, { accessFlags := 16409, nameIndex := 12, descriptorIndex := 6, attributes := #[] }, { accessFlags := 4122, nameIndex := 15, descriptorIndex := 16, attributes := #[] }])
  fields := #[{ name := "SUCCESS", type := (.object "com/example/nervous_key/nervouskey/Outcome$Kind"), accessFlags := 16409, slot := 0, constantValue := 0 }, { name := "RETRYABLE_FAILURE", type := (.object "com/example/nervous_key/nervouskey/Outcome$Kind"), accessFlags := 16409, slot := 1, constantValue := 0 }, { name := "FINAL_FAILURE", type := (.object "com/example/nervous_key/nervouskey/Outcome$Kind"), accessFlags := 16409, slot := 2, constantValue := 0 }, { name := "$VALUES", type := (.array (.object "com/example/nervous_key/nervouskey/Outcome$Kind")), accessFlags := 4122, slot := 3, constantValue := 0 }]
  methods := #[]
  instanceTypes := #[(.object "java/lang/String"), .int, .int]
  staticTypes := #[(.object "com/example/nervous_key/nervouskey/Outcome$Kind"), (.object "com/example/nervous_key/nervouskey/Outcome$Kind"), (.object "com/example/nervous_key/nervouskey/Outcome$Kind"), (.array (.object "com/example/nervous_key/nervouskey/Outcome$Kind"))]
  resolved := Array.replicate 56 none
  statics := some 0 }

def pool7 : Array CpInfo := pool [(1, .methodref 2 3), (0, .class_ 4), (0, .nameAndType 5 6), (0, u "java/lang/Object"), (0, u "<init>"), (0, u "()V"), (0, .fieldref 8 9), (0, .class_ 10), (0, .nameAndType 11 12), (0, u "com/example/nervous_key/nervouskey/Outcome"), (0, u "kind"), (0, u "Lcom/example/nervous_key/nervouskey/Outcome$Kind;"), (0, .fieldref 8 14), (0, .nameAndType 15 16), (0, u "result"), (0, u "[B"), (1, .class_ 20), (1, u "com/example/nervous_key/nervouskey/Outcome$Kind"), (3, u "of"), (0, u "(Lcom/example/nervous_key/nervouskey/Outcome$Kind;[B)Lcom/example/nervous_key/nervouskey/Outcome;"), (6, .string 11), (0, .methodref 34 35), (0, .class_ 36), (0, .nameAndType 37 38), (0, u "java/util/Objects"), (0, u "requireNonNull"), (0, u "(Ljava/lang/Object;Ljava/lang/String;)Ljava/lang/Object;"), (0, .string 15), (0, .class_ 16), (0, .methodref 40 42), (0, .nameAndType 43 44), (0, u "clone"), (0, u "()Ljava/lang/Object;"), (0, .methodref 8 46), (0, .nameAndType 5 47), (0, u "(Lcom/example/nervous_key/nervouskey/Outcome$Kind;[B)V"), (16, u "()Lcom/example/nervous_key/nervouskey/Outcome$Kind;"), (0, u "()[B")] 21

def k7c0 : Code := { maxStack := 2, maxLocals := 3, code := prog_7_method_1_code, exceptionTable := #[], attributes := #[] }
def k7m0 : Method := { name := "<init>", desc := "(Lcom/example/nervous_key/nervouskey/Outcome$Kind;[B)V", sig := { parameters := [(.object "com/example/nervous_key/nervouskey/Outcome$Kind"), (.array .byte)], returnType := none }, accessFlags := 2, code := some k7c0 }
def k7c1 : Code := { maxStack := 5, maxLocals := 2, code := prog_7_method_5_code, exceptionTable := #[], attributes := #[] }
def k7m1 : Method := { name := "of", desc := "(Lcom/example/nervous_key/nervouskey/Outcome$Kind;[B)Lcom/example/nervous_key/nervouskey/Outcome;", sig := { parameters := [(.object "com/example/nervous_key/nervouskey/Outcome$Kind"), (.array .byte)], returnType := some (.object "com/example/nervous_key/nervouskey/Outcome") }, accessFlags := 9, code := some k7c1 }
def k7c2 : Code := { maxStack := 1, maxLocals := 1, code := prog_7_method_6_code, exceptionTable := #[], attributes := #[] }
def k7m2 : Method := { name := "kind", desc := "()Lcom/example/nervous_key/nervouskey/Outcome$Kind;", sig := { parameters := [], returnType := some (.object "com/example/nervous_key/nervouskey/Outcome$Kind") }, accessFlags := 1, code := some k7c2 }
def k7c3 : Code := { maxStack := 1, maxLocals := 1, code := prog_7_method_7_code, exceptionTable := #[], attributes := #[] }
def k7m3 : Method := { name := "result", desc := "()[B", sig := { parameters := [], returnType := some (.array .byte) }, accessFlags := 1, code := some k7c3 }
/-- com/example/nervous_key/nervouskey/Outcome -/
def k7 : Class := { plain "com/example/nervous_key/nervouskey/Outcome" (some 0) with
  accessFlags := 49
  interfaces := #[]
  cf := some (fileOf pool7 8 #[.nestMembers #[18]] #[{ accessFlags := 2, nameIndex := 5, descriptorIndex := 47, attributes := #[] }, { accessFlags := 9, nameIndex := 24, descriptorIndex := 25, attributes := #[] }, { accessFlags := 1, nameIndex := 11, descriptorIndex := 64, attributes := #[] }, { accessFlags := 1, nameIndex := 15, descriptorIndex := 65, attributes := #[] }] 49 2 #[] #[{ accessFlags := 18, nameIndex := 11, descriptorIndex := 12, attributes := #[] }, { accessFlags := 18, nameIndex := 15, descriptorIndex := 16, attributes := #[] }])
  fields := #[{ name := "kind", type := (.object "com/example/nervous_key/nervouskey/Outcome$Kind"), accessFlags := 18, slot := 0, constantValue := 0 }, { name := "result", type := (.array .byte), accessFlags := 18, slot := 1, constantValue := 0 }]
  methods := #[k7m0, k7m1, k7m2, k7m3]
  instanceTypes := #[(.object "com/example/nervous_key/nervouskey/Outcome$Kind"), (.array .byte)]
  staticTypes := #[]
  resolved := Array.replicate 87 none
  statics := none }

def pool8 : Array CpInfo := pool [(2, .class_ 4), (1, u "java/lang/CharSequence"), (42, .class_ 48), (0, u "java/lang/CharSequence$1CodePointIterator"), (10, .class_ 60), (0, u "java/lang/CharSequence$1CharIterator"), (5, .class_ 67), (0, u "java/lang/Object")] 63

/-- java/lang/CharSequence -/
def k8 : Class := { plain "java/lang/CharSequence" (some 0) with
  accessFlags := 1537
  interfaces := #[]
  cf := some (fileOf pool8 2 #[.nestMembers #[47, 59]] #[] 1537 66 #[] #[])
  fields := #[]
  methods := #[]
  instanceTypes := #[]
  staticTypes := #[]
  resolved := Array.replicate 131 none
  statics := none }

def pool9 : Array CpInfo := pool [(1, .class_ 2), (0, u "java/lang/constant/ConstantDesc"), (0, .class_ 4), (0, u "java/lang/Object")] 32

/-- java/lang/constant/ConstantDesc -/
def k9 : Class := { plain "java/lang/constant/ConstantDesc" (some 0) with
  accessFlags := 1537
  interfaces := #[]
  cf := some (fileOf pool9 1 #[] #[] 1537 3 #[] #[])
  fields := #[]
  methods := #[]
  instanceTypes := #[]
  staticTypes := #[]
  resolved := Array.replicate 37 none
  statics := none }

def pool10 : Array CpInfo := pool [(2, .class_ 4), (1, u "java/lang/Object"), (0, u "<init>"), (0, u "()V"), (3, .class_ 12), (1, u "java/lang/String"), (0, u "value"), (0, u "[B"), (2, u "coder"), (0, u "B"), (2, u "hash"), (0, u "I"), (2, u "hashIsZero"), (0, u "Z"), (13, u "COMPACT_STRINGS"), (534, .class_ 576), (0, u "java/lang/CharSequence"), (22, u "CASE_INSENSITIVE_ORDER"), (0, u "Ljava/util/Comparator;"), (500, u "serialPersistentFields"), (0, u "[Ljava/io/ObjectStreamField;"), (0, .class_ 1104), (0, u "java/lang/String$CaseInsensitiveComparator"), (1, .class_ 1107), (0, u "java/io/Serializable"), (0, .class_ 1109), (0, u "java/lang/Comparable"), (0, .class_ 1111), (0, u "java/lang/constant/Constable"), (0, .class_ 1113), (0, u "java/lang/constant/ConstantDesc"), (2, u "serialVersionUID"), (0, u "J"), (3, u "REPL"), (0, u "C"), (2, u "LATIN1"), (1, u "UTF16")] 323

def k10m0 : Method := { name := "<init>", desc := "()V", sig := { parameters := [], returnType := none }, accessFlags := 1, code := none }
/-- java/lang/String -/
def k10 : Class := { plain "java/lang/String" (some 0) with
  accessFlags := 49
  interfaces := #[4, 3, 8, 2, 9]
  cf := some (fileOf pool10 10 #[.nestMembers #[1103]] #[{ accessFlags := 1, nameIndex := 5, descriptorIndex := 6, attributes := #[] }] 49 2 #[1106, 1108, 575, 1110, 1112] #[{ accessFlags := 18, nameIndex := 13, descriptorIndex := 14, attributes := #[] }, { accessFlags := 18, nameIndex := 17, descriptorIndex := 18, attributes := #[] }, { accessFlags := 2, nameIndex := 21, descriptorIndex := 22, attributes := #[] }, { accessFlags := 2, nameIndex := 25, descriptorIndex := 26, attributes := #[] }, { accessFlags := 26, nameIndex := 1116, descriptorIndex := 1117, attributes := #[] }, { accessFlags := 24, nameIndex := 40, descriptorIndex := 26, attributes := #[] }, { accessFlags := 26, nameIndex := 1101, descriptorIndex := 1102, attributes := #[] }, { accessFlags := 26, nameIndex := 1121, descriptorIndex := 1122, attributes := #[] }, { accessFlags := 25, nameIndex := 599, descriptorIndex := 600, attributes := #[] }, { accessFlags := 24, nameIndex := 1125, descriptorIndex := 18, attributes := #[] }, { accessFlags := 24, nameIndex := 1127, descriptorIndex := 18, attributes := #[] }])
  fields := #[{ name := "value", type := (.array .byte), accessFlags := 18, slot := 0, constantValue := 0 }, { name := "coder", type := .byte, accessFlags := 18, slot := 1, constantValue := 0 }, { name := "hash", type := .int, accessFlags := 2, slot := 2, constantValue := 0 }, { name := "hashIsZero", type := .boolean, accessFlags := 2, slot := 3, constantValue := 0 }, { name := "serialVersionUID", type := .long, accessFlags := 26, slot := 0, constantValue := 0 }, { name := "COMPACT_STRINGS", type := .boolean, accessFlags := 24, slot := 1, constantValue := 0 }, { name := "serialPersistentFields", type := (.array (.object "java/io/ObjectStreamField")), accessFlags := 26, slot := 2, constantValue := 0 }, { name := "REPL", type := .char, accessFlags := 26, slot := 3, constantValue := 0 }, { name := "CASE_INSENSITIVE_ORDER", type := (.object "java/util/Comparator"), accessFlags := 25, slot := 4, constantValue := 0 }, { name := "LATIN1", type := .byte, accessFlags := 24, slot := 5, constantValue := 0 }, { name := "UTF16", type := .byte, accessFlags := 24, slot := 6, constantValue := 0 }]
  methods := #[k10m0]
  instanceTypes := #[(.array .byte), .byte, .int, .boolean]
  staticTypes := #[.long, .boolean, (.array (.object "java/io/ObjectStreamField")), .char, (.object "java/util/Comparator"), .byte, .byte]
  resolved := Array.replicate 1451 none
  statics := none }

def pool11 : Array CpInfo := pool [(2, .class_ 4), (1, u "java/lang/Object"), (0, u "<init>"), (0, u "()V"), (35, .class_ 44), (1, u "java/util/Objects"), (0, u "requireNonNull"), (48, u "(Ljava/lang/Object;Ljava/lang/String;)Ljava/lang/Object;")] 89

def k11m0 : Method := { name := "<init>", desc := "()V", sig := { parameters := [], returnType := none }, accessFlags := 2, code := none }
def k11c1 : Code := { maxStack := 3, maxLocals := 2, code := jdk_31_method_11_code, exceptionTable := #[], attributes := #[] }
def k11m1 : Method := { name := "requireNonNull", desc := "(Ljava/lang/Object;Ljava/lang/String;)Ljava/lang/Object;", sig := { parameters := [(.object "java/lang/Object"), (.object "java/lang/String")], returnType := some (.object "java/lang/Object") }, accessFlags := 9, code := some k11c1 }
/-- java/util/Objects -/
def k11 : Class := { plain "java/util/Objects" (some 0) with
  accessFlags := 49
  interfaces := #[]
  cf := some (fileOf pool11 42 #[] #[{ accessFlags := 2, nameIndex := 5, descriptorIndex := 6, attributes := #[] }, { accessFlags := 9, nameIndex := 45, descriptorIndex := 94, attributes := #[] }] 49 2 #[] #[])
  fields := #[]
  methods := #[k11m0, k11m1]
  instanceTypes := #[]
  staticTypes := #[]
  resolved := Array.replicate 184 none
  statics := none }

def pool12 : Array CpInfo := pool [(1, .class_ 2), (0, u "java/lang/Cloneable"), (0, .class_ 4), (0, u "java/lang/Object")] 2

/-- java/lang/Cloneable -/
def k12 : Class := { plain "java/lang/Cloneable" (some 0) with
  accessFlags := 1537
  interfaces := #[]
  cf := some (fileOf pool12 1 #[] #[] 1537 3 #[] #[])
  fields := #[]
  methods := #[]
  instanceTypes := #[]
  staticTypes := #[]
  resolved := Array.replicate 7 none
  statics := none }

/-- the primitive byte -/
def k13 : Class := { plain "byte" none with kind := .primitive 'B', accessFlags := 0x411 }
/-- [B -/
def k14 : Class := { plain "[B" (some 0) with kind := .array 13 .byte, interfaces := #[12, 4], accessFlags := 1041 }

/-- the primitive int -/
def k15 : Class := { plain "int" none with kind := .primitive 'I', accessFlags := 0x411 }
/-- [I -/
def k16 : Class := { plain "[I" (some 0) with kind := .array 15 .int, interfaces := #[12, 4], accessFlags := 1041 }

def heap : Heap := #[{ cls := 6, slots := #[.ref 1, .ref 2, .ref 3, .null], vm := .statics 6 },
  { cls := 6, slots := #[.null, .int 0, .int 0], vm := .none },
  { cls := 6, slots := #[.null, .int 1, .int 0], vm := .none },
  { cls := 6, slots := #[.null, .int 2, .int 0], vm := .none }]
def classes : Array Class := #[k0, k1, k2, k3, k4, k5, k6, k7, k8, k9, k10, k11, k12, k13, k14, k15, k16]
def interned : List (Array UInt16 × Addr) := []
def slotsUsed : Nat := 13
def theMethod : MethodId := ⟨1, 2⟩
def args0 : Array Value := #[.int 4, .int 2, .int 77, .int 9]
def aboutOver (below : List Frame) : State where
  vm := { classes := classes, interned := interned.toArray }
  heap := heap
  slotsUsed := slotsUsed
  threads := #[{ frames := .invoking theMethod args0 :: below }]
def below0 : List Frame := [.native { method := ⟨0, 0⟩, args := #[] }]
def about1 : State := aboutOver below0
def p0 : Program := .bare "" "" ""
def e0 : Env := launch0.env 0 0 0
theorem w_frames : about1.frames = Frame.invoking theMethod args0 :: below0 := rfl
set_option maxRecDepth 65536 in
theorem w_args : argsFit about1.vm theMethod args0 = true := by decide +kernel
set_option maxRecDepth 65536 in
theorem w_heap : heapFits about1 = true := by decide +kernel
set_option maxRecDepth 65536 in
theorem w_runnable : about1.curStatus? = some .runnable := by decide +kernel
set_option maxRecDepth 65536 in
theorem w_alone : about1.alone = true := by decide +kernel
set_option maxRecDepth 65536 in
theorem w_named : about1.methodNamed? x = some theMethod := by decide +kernel
set_option maxRecDepth 65536 in
theorem w_hears : about1.hears theMethod below0 = true := by decide +kernel
set_option maxRecDepth 65536 in
theorem w_ripe : about1.ripe theMethod args0 below0 = true := by decide +kernel
theorem w_running : about1.status = .running := rfl
set_option maxRecDepth 65536 in
theorem w_room : about1.hasRoom e0.platform room_1 = true :=
  launch0.hasRoom_least _ room_1 (by decide +kernel) (by decide +kernel) (by decide +kernel) (by decide +kernel) (by decide +kernel) (by decide +kernel)
theorem allAtoms_all (ts : List Jvm.Cond) (a : Array Jvm.Value) (st : Jvm.State) : (allAtoms ts).before a st = ts.all (fun c => c.before a st) := by
  induction ts with
  | nil => rfl
  | cons c t ih =>
    show (Jvm.Cond.and c (allAtoms t)).before a st = _
    rw [Jvm.Cond.before_and, ih, List.all_cons]
def words1 : List Jvm.Cond := Jvm.Cond.code x code maxLocals ret :: tables_1
/-- a 'code' word, met by the world's own term for the bytes: nothing is compared byte by byte -/
theorem code_word {y : MethodName} {bytes : ByteArray} {mx : Nat} {rt : Option FieldType} {a : Array Value} {s : State} {m : MethodId} {meth : Method} {c : Code} (h1 : s.methodNamed? y = some m) (h2 : s.vm.method? m = some meth) (h3 : meth.code = some c) (h4 : c.code = bytes)
    (h5 : (c.maxLocals == mx && c.exceptionTable.isEmpty && decide (c.maxStack ≤ mostOperands) && decide (meth.sig.returnType = rt) && !meth.locks && decide (parseMethodDescriptor y.desc = some meth.sig)) = true) : (Jvm.Cond.code y bytes mx rt).before a s = true := by
  simp only [Bool.and_eq_true, beq_iff_eq, Bool.not_eq_true', decide_eq_true_eq] at h5
  obtain ⟨⟨⟨⟨⟨g1, g2⟩, g3⟩, g4⟩, g5⟩, g6⟩ := h5
  simp [Cond.before, Cond.holds, Cond.value, h1, h2, h3, h4, g1, g2, g3, g4, g5, g6]
def isCode : Jvm.Cond → Bool
  | .code _ _ _ _ => true
  | _ => false
theorem all_split {L : List Jvm.Cond} {P : Jvm.Cond → Bool} (h1 : L.all (fun c => isCode c || P c) = true) (h2 : ∀ c ∈ L.filter isCode, P c = true) : L.all P = true := by
  refine List.all_eq_true.mpr fun c hc => ?_
  have h := List.all_eq_true.mp h1 c hc
  rcases Bool.eq_false_or_eq_true (isCode c) with hi | hi
  · exact h2 c (List.mem_filter.mpr ⟨hc, hi⟩)
  · simpa [hi] using h
set_option maxRecDepth 65536 in
theorem w_c0 : (Jvm.Cond.code x code maxLocals ret).before args0 about1 = true := code_word (m := ⟨1, 2⟩) (meth := k1m2) (c := k1c2) (by decide +kernel) rfl rfl rfl (by decide +kernel)
set_option maxRecDepth 65536 in
theorem w_c1 : (Jvm.Cond.code ({ cls := "com/example/nervous_key/nervouskey/Outcome", name := "of", desc := "(Lcom/example/nervous_key/nervouskey/Outcome$Kind;[B)Lcom/example/nervous_key/nervouskey/Outcome;" } : Jvm.MethodName) prog_7_method_5_code (2 : Nat) (Option.some (Jvm.ClassFile.FieldType.object "com/example/nervous_key/nervouskey/Outcome"))).before args0 about1 = true := code_word (m := ⟨7, 1⟩) (meth := k7m1) (c := k7c1) (by decide +kernel) rfl rfl rfl (by decide +kernel)
set_option maxRecDepth 65536 in
theorem w_c2 : (Jvm.Cond.code ({ cls := "java/util/Objects", name := "requireNonNull", desc := "(Ljava/lang/Object;Ljava/lang/String;)Ljava/lang/Object;" } : Jvm.MethodName) jdk_31_method_11_code (2 : Nat) (Option.some (Jvm.ClassFile.FieldType.object "java/lang/Object"))).before args0 about1 = true := code_word (m := ⟨11, 1⟩) (meth := k11m1) (c := k11c1) (by decide +kernel) rfl rfl rfl (by decide +kernel)
set_option maxRecDepth 65536 in
theorem w_c3 : (Jvm.Cond.code ({ cls := "com/example/nervous_key/nervouskey/Outcome", name := "<init>", desc := "(Lcom/example/nervous_key/nervouskey/Outcome$Kind;[B)V" } : Jvm.MethodName) prog_7_method_1_code (3 : Nat) (Option.none : Option Jvm.ClassFile.FieldType)).before args0 about1 = true := code_word (m := ⟨7, 0⟩) (meth := k7m0) (c := k7c0) (by decide +kernel) rfl rfl rfl (by decide +kernel)
set_option maxRecDepth 65536 in
theorem w_c4 : (Jvm.Cond.code ({ cls := "java/lang/Object", name := "<init>", desc := "()V" } : Jvm.MethodName) object_method_1_code (1 : Nat) (Option.none : Option Jvm.ClassFile.FieldType)).before args0 about1 = true := code_word (m := ⟨0, 0⟩) (meth := k0m0) (c := k0c0) (by decide +kernel) rfl rfl rfl (by decide +kernel)
set_option maxRecDepth 65536 in
theorem w_c5 : (Jvm.Cond.code ({ cls := "com/example/nervous_key/nervouskey/Outcome", name := "kind", desc := "()Lcom/example/nervous_key/nervouskey/Outcome$Kind;" } : Jvm.MethodName) prog_7_method_6_code (1 : Nat) (Option.some (Jvm.ClassFile.FieldType.object "com/example/nervous_key/nervouskey/Outcome$Kind"))).before args0 about1 = true := code_word (m := ⟨7, 2⟩) (meth := k7m2) (c := k7c2) (by decide +kernel) rfl rfl rfl (by decide +kernel)
set_option maxRecDepth 65536 in
theorem w_c6 : (Jvm.Cond.code ({ cls := "com/example/nervous_key/nervouskey/Outcome", name := "result", desc := "()[B" } : Jvm.MethodName) prog_7_method_7_code (1 : Nat) (Option.some (Jvm.ClassFile.FieldType.array Jvm.ClassFile.FieldType.byte))).before args0 about1 = true := code_word (m := ⟨7, 3⟩) (meth := k7m3) (c := k7c3) (by decide +kernel) rfl rfl rfl (by decide +kernel)
set_option maxRecDepth 65536 in
theorem w_c7 : (Jvm.Cond.code ({ cls := "com/example/nervous_key/nervouskey/OutcomeOfPinLaw", name := "same", desc := "([BIBBB)Z" } : Jvm.MethodName) method_2_code (5 : Nat) (Option.some Jvm.ClassFile.FieldType.boolean)).before args0 about1 = true := code_word (m := ⟨1, 1⟩) (meth := k1m1) (c := k1c1) (by decide +kernel) rfl rfl rfl (by decide +kernel)
def codes1 : List Jvm.Cond := [Jvm.Cond.code x code maxLocals ret, Jvm.Cond.code ({ cls := "com/example/nervous_key/nervouskey/Outcome", name := "of", desc := "(Lcom/example/nervous_key/nervouskey/Outcome$Kind;[B)Lcom/example/nervous_key/nervouskey/Outcome;" } : Jvm.MethodName) prog_7_method_5_code (2 : Nat) (Option.some (Jvm.ClassFile.FieldType.object "com/example/nervous_key/nervouskey/Outcome")), Jvm.Cond.code ({ cls := "java/util/Objects", name := "requireNonNull", desc := "(Ljava/lang/Object;Ljava/lang/String;)Ljava/lang/Object;" } : Jvm.MethodName) jdk_31_method_11_code (2 : Nat) (Option.some (Jvm.ClassFile.FieldType.object "java/lang/Object")), Jvm.Cond.code ({ cls := "com/example/nervous_key/nervouskey/Outcome", name := "<init>", desc := "(Lcom/example/nervous_key/nervouskey/Outcome$Kind;[B)V" } : Jvm.MethodName) prog_7_method_1_code (3 : Nat) (Option.none : Option Jvm.ClassFile.FieldType), Jvm.Cond.code ({ cls := "java/lang/Object", name := "<init>", desc := "()V" } : Jvm.MethodName) object_method_1_code (1 : Nat) (Option.none : Option Jvm.ClassFile.FieldType), Jvm.Cond.code ({ cls := "com/example/nervous_key/nervouskey/Outcome", name := "kind", desc := "()Lcom/example/nervous_key/nervouskey/Outcome$Kind;" } : Jvm.MethodName) prog_7_method_6_code (1 : Nat) (Option.some (Jvm.ClassFile.FieldType.object "com/example/nervous_key/nervouskey/Outcome$Kind")), Jvm.Cond.code ({ cls := "com/example/nervous_key/nervouskey/Outcome", name := "result", desc := "()[B" } : Jvm.MethodName) prog_7_method_7_code (1 : Nat) (Option.some (Jvm.ClassFile.FieldType.array Jvm.ClassFile.FieldType.byte)), Jvm.Cond.code ({ cls := "com/example/nervous_key/nervouskey/OutcomeOfPinLaw", name := "same", desc := "([BIBBB)Z" } : Jvm.MethodName) method_2_code (5 : Nat) (Option.some Jvm.ClassFile.FieldType.boolean)]
set_option maxRecDepth 65536 in
theorem codes_eq : words1.filter isCode = codes1 := rfl
theorem w_codes : ∀ c ∈ words1.filter isCode, c.before args0 about1 = true := by
  rw [codes_eq]
  intro c hc
  simp only [codes1, List.mem_cons, List.not_mem_nil, or_false] at hc
  rcases hc with rfl | rfl | rfl | rfl | rfl | rfl | rfl | rfl
  · exact w_c0
  · exact w_c1
  · exact w_c2
  · exact w_c3
  · exact w_c4
  · exact w_c5
  · exact w_c6
  · exact w_c7
set_option maxRecDepth 65536 in
theorem w_t1 : (words1.take 24).all (fun c => isCode c || c.before args0 about1) = true := by decide +kernel
set_option maxRecDepth 65536 in
theorem w_t2 : ((words1.drop 24).take 24).all (fun c => isCode c || c.before args0 about1) = true := by decide +kernel
set_option maxRecDepth 65536 in
theorem w_t3 : ((words1.drop 24).drop 24).all (fun c => isCode c || c.before args0 about1) = true := by decide +kernel
theorem w_tables : (allAtoms (Jvm.Cond.code x code maxLocals ret :: tables_1)).before args0 about1 = true := by
  rw [allAtoms_all]
  show words1.all (fun c => c.before args0 about1) = true
  refine all_split ?_ w_codes
  rw [← List.take_append_drop 24 words1, List.all_append, w_t1, ← List.take_append_drop 24 (words1.drop 24), List.all_append, w_t2, w_t3]
  rfl
set_option maxRecDepth 65536 in
theorem w_case : (Jvm.Cond.and given_1 narrow_1).before args0 about1 = true := by decide +kernel
theorem w_applies : (headSpec (Jvm.Cond.code x code maxLocals ret :: tables_1) room_1).applies x e0.platform about1 = true :=
  (Spec.applies_iff w_frames).mpr ⟨w_running, w_runnable, w_alone, w_named, w_hears, w_ripe, w_room, w_tables⟩
theorem atStart : AtStart classFile x code maxLocals ret World_1 tables_1 room_1 Calls_1 rest_1 Pre_1 launch0 p0 e0 about1 theMethod args0 below0 :=
  ⟨lists_1, trivial, launch0.admits_env _ _ _, launch0.least_env, fairChoices_fair.cas, fairChoices_fair.clock, w_frames, w_args, w_heap, w_applies, trivial, trivial, w_case⟩
end start1
theorem witness_1 : WitnessClaimed_1 := ⟨start1.p0, start1.e0, start1.about1, start1.theMethod, start1.args0, start1.below0, start1.atStart⟩
end Jvm.Pilot.@@N@@
