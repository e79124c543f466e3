import JvmDerived
import JvmDerived.Pilot.@@N@@Statement
import JvmDerived.Pilot.@@N@@Code
set_option linter.unusedVariables false
set_option linter.unusedSimpArgs false
namespace Jvm.RoadKit
open Sem ClassFile Op Lib Jvm.Stand Jvm.Free Jvm.LawKit
section New
variable {p : Program} {l : Launch} {e : Env} {R : Room} {s : State} {m : MethodId} {args : Array Value} {below : List Frame} {meth : Method} {c : Code} {T : State} {locs : List Loc} {cells slots : Nat}
theorem retI (X : Stand p l e R s m args below meth c T locs cells slots) (hx : p.tables.exec = Jvm.exec) {pc : Nat} {Ls : Array Slot} {z : Int32} {rest : List Value} (hret : meth.sig.returnType = some .int) (hd : decode c.code pc = .ok (.ireturn, 1)) {fs : List Frame}
    (hl : ∀ (f : JFrame) (acts : List Action), f.method = m → f.locked = none → f.entered = [] → (doReturn e (T.setTop f) acts (some (.int z))).1 = T.setFrames fs) : Steps p.tables e below (T.setTop (mkF m pc Ls (.int z :: rest))) (T.setFrames fs) := by
  have hm' : T.vm.method? m = some meth := X.method'
  have hn : narrow .int (.int z) = .int z := rfl
  show Steps p.tables e below (T.setTop { method := m, pc := pc, locals := Ls, stack := _ :: rest, locked := none }) _
  jvm_step X.here [X.here.top, hx, hd, hm', hret, hn]
  first | (intro acts; rw [hl _ acts rfl rfl rfl]) | rw [hl _ _ rfl rfl rfl]
  exact Steps.refl _
end New
end Jvm.RoadKit
namespace Jvm.Pilot.@@N@@
open Jvm Jvm.ClassFile Sem Op Lib Jvm.Free Jvm.Stand Jvm.LawKit Jvm.RoadKit Bundle Jvm.Pilot.@@N@@.Jvm.D
theorem ow {Z : State} {a0 : Array Value} (hw : ∀ d ∈ tables_1, d.before a0 Z = true) (i : Nat) {d : Jvm.Cond} (h : tables_1[i]? = some d) : d.before a0 Z = true := hw d (List.mem_of_getElem? h)
abbrev HW (a0 : Array Value) (Z : State) : Prop := ∀ d ∈ tables_1, d.before a0 Z = true
abbrev MF (l : Launch) (y : MethodName) (bytes : ByteArray) (ml : Nat) (ret : Option FieldType) (ws : List Jvm.Cond) (rm : Room) (Z : State) (as : Array Value) (h0 : Heap) (Q : Option Value → Heap → List Loc → Prop) : Prop := MetFree l y (head1 (Jvm.Cond.code y bytes ml ret :: ws) rm) (fun a U => a = as ∧ Z.Warmed39 U.vm ∧ U.heap = h0) (fun _ _ _ _ _ => True) (fun _ U o U' => ∃ v L, o = .returned v ∧ Q v U'.heap L ∧ FrameEnd U o U' L rm.cells rm.slots)
abbrev St (p : Program) (e : Env) (below : List Frame) (T : State) (m : MethodId) (pc : Nat) (Ls : Array Slot) (st : List Value) (t : State) : Prop := Steps p.tables e below (T.setTop (mkF m pc Ls st)) t
theorem own_ord {args : Array Value} {s : State} {t : Term} {C n d : String} {k : Int32} {a : Addr} (ev : t.eval args s none [] s = some (.ref a)) (h : (Jvm.Cond.eq (Term.field t C n d) (Term.int k)).value args s none s [] = some true) : Fld s s.heap a C n d (.int k) := by
  refine Fld.start ?_
  obtain ⟨x, y, h1, h2, h3, h4⟩ := cmp_v (Or.inl h)
  have h5 := h1
  rw [fld_at ev] at h1
  have e2 : y = .int k := (Option.some.inj ((Term.int_eval k).symm.trans h2)).symm
  subst e2
  obtain ⟨z, rfl⟩ := h4
  have q := gotT (Cond.eq_ints h5 h2) h
  rw [h1, q]
theorem own_sti {args : Array Value} {s : State} {t : Term} {k : Int32} (h : (Jvm.Cond.eq t (Term.int k)).value args s none s [] = some true) : t.eval args s none [] s = some (.int k) := by
  obtain ⟨x, y, h1, h2, h3, h4⟩ := cmp_v (Or.inl h)
  have e2 : y = .int k := (Option.some.inj ((Term.int_eval k).symm.trans h2)).symm
  subst e2
  obtain ⟨z, rfl⟩ := h4
  rw [h1, gotT (Cond.eq_ints h1 h2) h]
theorem own_len {args : Array Value} {s : State} {t : Term} {a : Addr} {cl : Cell} {ty : FieldType} {n : Int32} (ev : t.eval args s none [] s = some (.ref a)) (A : Arr s s.heap a cl ty) (h : (Jvm.Cond.eq (Term.length t) (Term.int n)).value args s none s [] = some true) : cl.slots.size < 2 ^ 31 ∧ cl.slots.size.toInt32 = n := by
  have e := own_sti h
  have q := A.fin (Vm.Alike.refl _)
  have l := SBG.length_lt ev q e
  rw [len_f ev q l] at e
  exact ⟨l, Value.int.inj (Option.some.inj e)⟩
theorem own_eqR {args : Array Value} {s : State} {t u : Term} {w : Addr} (h : (Jvm.Cond.eq t u).value args s none s [] = some true) (hu : u.eval args s none [] s = some (.ref w)) : t.eval args s none [] s = some (.ref w) := by
  obtain ⟨x, y, h1, h2, h3, h4⟩ := cmp_v (Or.inl h)
  obtain rfl : y = .ref w := Option.some.inj (h2.symm.trans hu)
  have hx : x.isRef = true := h4.2
  rw [h1, gotT (eq_R h1 h2 hx rfl) h]
def Base (Z : State) (wMultiplexing_FIFO : Addr) (wAnalysis__VALUES : Addr) (wAnalysis_FIFO : Addr) (wAnalysis_SFA : Addr) (wAnalysis_PMOO : Addr) (wAnalysis_PRIORITY : Addr) (wMultiplexing_ARBITRARY : Addr) (wMultiplexing_PRIORITY : Addr) (wArrayList_EMPTY_ELEMENTDATA : Addr) (wArrayList_DEFAULTCAPACITY_EMPTY_ELEMENTDATA : Addr) (k_wAnalysis__VALUES : ClassId) (k_wArrayList_EMPTY_ELEMENTDATA : ClassId) (k_wArrayList_DEFAULTCAPACITY_EMPTY_ELEMENTDATA : ClassId) : Prop := Sta Z Z.heap "com/example/virtaus/virtaus/network/Multiplexing" "FIFO" "Lcom/example/virtaus/virtaus/network/Multiplexing;" (.ref wMultiplexing_FIFO) ∧ Exa Z Z.heap wMultiplexing_FIFO "com/example/virtaus/virtaus/network/Multiplexing" ∧ Sta Z Z.heap "com/example/virtaus/virtaus/analysis/Analysis" "$VALUES" "[Lcom/example/virtaus/virtaus/analysis/Analysis;" (.ref wAnalysis__VALUES) ∧ Exa Z Z.heap wAnalysis__VALUES "[Lcom/example/virtaus/virtaus/analysis/Analysis;" ∧ Sta Z Z.heap "com/example/virtaus/virtaus/analysis/Analysis" "FIFO" "Lcom/example/virtaus/virtaus/analysis/Analysis;" (.ref wAnalysis_FIFO) ∧ Exa Z Z.heap wAnalysis_FIFO "com/example/virtaus/virtaus/analysis/Analysis" ∧ Sta Z Z.heap "com/example/virtaus/virtaus/analysis/Analysis" "SFA" "Lcom/example/virtaus/virtaus/analysis/Analysis;" (.ref wAnalysis_SFA) ∧ Exa Z Z.heap wAnalysis_SFA "com/example/virtaus/virtaus/analysis/Analysis" ∧ Sta Z Z.heap "com/example/virtaus/virtaus/analysis/Analysis" "PMOO" "Lcom/example/virtaus/virtaus/analysis/Analysis;" (.ref wAnalysis_PMOO) ∧ Exa Z Z.heap wAnalysis_PMOO "com/example/virtaus/virtaus/analysis/Analysis" ∧ Sta Z Z.heap "com/example/virtaus/virtaus/analysis/Analysis" "PRIORITY" "Lcom/example/virtaus/virtaus/analysis/Analysis;" (.ref wAnalysis_PRIORITY) ∧ Exa Z Z.heap wAnalysis_PRIORITY "com/example/virtaus/virtaus/analysis/Analysis" ∧ Sta Z Z.heap "com/example/virtaus/virtaus/network/Multiplexing" "ARBITRARY" "Lcom/example/virtaus/virtaus/network/Multiplexing;" (.ref wMultiplexing_ARBITRARY) ∧ Exa Z Z.heap wMultiplexing_ARBITRARY "com/example/virtaus/virtaus/network/Multiplexing" ∧ Sta Z Z.heap "com/example/virtaus/virtaus/network/Multiplexing" "PRIORITY" "Lcom/example/virtaus/virtaus/network/Multiplexing;" (.ref wMultiplexing_PRIORITY) ∧ Exa Z Z.heap wMultiplexing_PRIORITY "com/example/virtaus/virtaus/network/Multiplexing" ∧ Sta Z Z.heap "java/util/ArrayList" "EMPTY_ELEMENTDATA" "[Ljava/lang/Object;" (.ref wArrayList_EMPTY_ELEMENTDATA) ∧ Exa Z Z.heap wArrayList_EMPTY_ELEMENTDATA "[Ljava/lang/Object;" ∧ Sta Z Z.heap "java/util/ArrayList" "DEFAULTCAPACITY_EMPTY_ELEMENTDATA" "[Ljava/lang/Object;" (.ref wArrayList_DEFAULTCAPACITY_EMPTY_ELEMENTDATA) ∧ Exa Z Z.heap wArrayList_DEFAULTCAPACITY_EMPTY_ELEMENTDATA "[Ljava/lang/Object;" ∧ Fld Z Z.heap wMultiplexing_ARBITRARY "java/lang/Enum" "ordinal" "I" (.int (1 : Int32)) ∧ Fld Z Z.heap wMultiplexing_FIFO "java/lang/Enum" "ordinal" "I" (.int (0 : Int32)) ∧ Fld Z Z.heap wMultiplexing_PRIORITY "java/lang/Enum" "ordinal" "I" (.int (2 : Int32)) ∧ Fld Z Z.heap wAnalysis_FIFO "com/example/virtaus/virtaus/analysis/Analysis" "multiplexing" "Lcom/example/virtaus/virtaus/network/Multiplexing;" (.ref wMultiplexing_FIFO) ∧ Fld Z Z.heap wAnalysis_SFA "com/example/virtaus/virtaus/analysis/Analysis" "multiplexing" "Lcom/example/virtaus/virtaus/network/Multiplexing;" (.ref wMultiplexing_ARBITRARY) ∧ Fld Z Z.heap wAnalysis_PMOO "com/example/virtaus/virtaus/analysis/Analysis" "multiplexing" "Lcom/example/virtaus/virtaus/network/Multiplexing;" (.ref wMultiplexing_ARBITRARY) ∧ Fld Z Z.heap wAnalysis_PRIORITY "com/example/virtaus/virtaus/analysis/Analysis" "multiplexing" "Lcom/example/virtaus/virtaus/network/Multiplexing;" (.ref wMultiplexing_PRIORITY) ∧ Arv Z Z.heap wAnalysis__VALUES k_wAnalysis__VALUES (.object "com/example/virtaus/virtaus/analysis/Analysis") (4 : Int32) [(.ref wAnalysis_FIFO), (.ref wAnalysis_SFA), (.ref wAnalysis_PMOO), (.ref wAnalysis_PRIORITY)] .null ∧ Arv Z Z.heap wArrayList_EMPTY_ELEMENTDATA k_wArrayList_EMPTY_ELEMENTDATA (.object "java/lang/Object") (0 : Int32) [] .null ∧ Arv Z Z.heap wArrayList_DEFAULTCAPACITY_EMPTY_ELEMENTDATA k_wArrayList_DEFAULTCAPACITY_EMPTY_ELEMENTDATA (.object "java/lang/Object") (0 : Int32) [] .null ∧ wMultiplexing_FIFO ≠ wAnalysis__VALUES ∧ wMultiplexing_FIFO ≠ wAnalysis_FIFO ∧ wMultiplexing_FIFO ≠ wAnalysis_SFA ∧ wMultiplexing_FIFO ≠ wAnalysis_PMOO ∧ wMultiplexing_FIFO ≠ wAnalysis_PRIORITY ∧ wMultiplexing_FIFO ≠ wMultiplexing_ARBITRARY ∧ wMultiplexing_FIFO ≠ wMultiplexing_PRIORITY ∧ wMultiplexing_FIFO ≠ wArrayList_EMPTY_ELEMENTDATA ∧ wMultiplexing_FIFO ≠ wArrayList_DEFAULTCAPACITY_EMPTY_ELEMENTDATA ∧ wAnalysis__VALUES ≠ wAnalysis_FIFO ∧ wAnalysis__VALUES ≠ wAnalysis_SFA ∧ wAnalysis__VALUES ≠ wAnalysis_PMOO ∧ wAnalysis__VALUES ≠ wAnalysis_PRIORITY ∧ wAnalysis__VALUES ≠ wMultiplexing_ARBITRARY ∧ wAnalysis__VALUES ≠ wMultiplexing_PRIORITY ∧ wAnalysis__VALUES ≠ wArrayList_EMPTY_ELEMENTDATA ∧ wAnalysis__VALUES ≠ wArrayList_DEFAULTCAPACITY_EMPTY_ELEMENTDATA ∧ wAnalysis_FIFO ≠ wMultiplexing_ARBITRARY ∧ wAnalysis_FIFO ≠ wMultiplexing_PRIORITY ∧ wAnalysis_FIFO ≠ wArrayList_EMPTY_ELEMENTDATA ∧ wAnalysis_FIFO ≠ wArrayList_DEFAULTCAPACITY_EMPTY_ELEMENTDATA ∧ wAnalysis_SFA ≠ wMultiplexing_ARBITRARY ∧ wAnalysis_SFA ≠ wMultiplexing_PRIORITY ∧ wAnalysis_SFA ≠ wArrayList_EMPTY_ELEMENTDATA ∧ wAnalysis_SFA ≠ wArrayList_DEFAULTCAPACITY_EMPTY_ELEMENTDATA ∧ wAnalysis_PMOO ≠ wMultiplexing_ARBITRARY ∧ wAnalysis_PMOO ≠ wMultiplexing_PRIORITY ∧ wAnalysis_PMOO ≠ wArrayList_EMPTY_ELEMENTDATA ∧ wAnalysis_PMOO ≠ wArrayList_DEFAULTCAPACITY_EMPTY_ELEMENTDATA ∧ wAnalysis_PRIORITY ≠ wMultiplexing_ARBITRARY ∧ wAnalysis_PRIORITY ≠ wMultiplexing_PRIORITY ∧ wAnalysis_PRIORITY ≠ wArrayList_EMPTY_ELEMENTDATA ∧ wAnalysis_PRIORITY ≠ wArrayList_DEFAULTCAPACITY_EMPTY_ELEMENTDATA ∧ wMultiplexing_ARBITRARY ≠ wMultiplexing_PRIORITY ∧ wMultiplexing_ARBITRARY ≠ wArrayList_EMPTY_ELEMENTDATA ∧ wMultiplexing_ARBITRARY ≠ wArrayList_DEFAULTCAPACITY_EMPTY_ELEMENTDATA ∧ wMultiplexing_PRIORITY ≠ wArrayList_EMPTY_ELEMENTDATA ∧ wMultiplexing_PRIORITY ≠ wArrayList_DEFAULTCAPACITY_EMPTY_ELEMENTDATA
theorem d0_0 : decode prog_2_method_7_code 0 = .ok (.new 71, 3) := by decide +kernel
theorem d0_3 : decode prog_2_method_7_code 3 = .ok (.dup, 1) := by decide +kernel
theorem d0_4 : decode prog_2_method_7_code 4 = .ok (.invokespecial 73, 3) := by decide +kernel
theorem d1_0 : decode jdk_38_method_2_code 0 = .ok (.aload_n 0, 1) := by decide +kernel
theorem d1_1 : decode jdk_38_method_2_code 1 = .ok (.invokespecial 1, 3) := by decide +kernel
theorem d2_0 : decode jdk_39_method_1_code 0 = .ok (.aload_n 0, 1) := by decide +kernel
theorem d2_1 : decode jdk_39_method_1_code 1 = .ok (.invokespecial 1, 3) := by decide +kernel
theorem d3_0 : decode jdk_22_method_1_code 0 = .ok (.aload_n 0, 1) := by decide +kernel
theorem d3_1 : decode jdk_22_method_1_code 1 = .ok (.invokespecial 1, 3) := by decide +kernel
theorem d3_4 : decode jdk_22_method_1_code 4 = .ok (.return_, 1) := by decide +kernel
abbrev y3 : MethodName := ⟨"java/util/AbstractCollection", "<init>", "()V"⟩
theorem pn_java_util_AbstractCollection : plainName "java/util/AbstractCollection" = true := by first | (simp [plainName, overriddenIn]; done) | decide +kernel
def r3_1Q (Z : State) (a1 : Addr) (h0 : Heap) (n0 : Nat) (v : Option Value) (h : Heap) (L : List Loc) : Prop := v = none ∧ Fr n0 L ∧ h = h0
theorem r3_1e (m : MethodId) (a1 : Addr) : entryFrame m #[(.ref a1)] 1 = mkF m 0 #[rv a1] [] := by first | (simp [entryFrame, mkF, argsToLocals, Value.category]; done) | rfl
set_option maxRecDepth 65536 in
set_option maxHeartbeats 40000000 in
theorem r3_1 (l : Launch) (Z : State) (a0 : Array Value) (hw : HW a0 Z) (ws : List Jvm.Cond) (a1 : Addr) (h0 : Heap) (n0 : Nat) (O0 : Old Z n0 h0) :
    MF l y3 jdk_22_method_1_code 1 none ws ({ frames := 1, cells := 0, slots := 0, locals := 12 } : Room) Z #[(.ref a1)] h0 (r3_1Q Z a1 h0 n0) := by
  refine MetFree.of_bodySF (plainFor_of_name pn_java_util_AbstractCollection) hisR ?_
  intro p e s m args below meth c s₁ Bd hml0 hP hK
  obtain ⟨rfl, hZ, hh⟩ := hP
  have hx := Bd.exec
  have hby := Bd.bytes
  have hml : c.maxLocals = 1 := hml0
  have hown : s.vm.findClass "java/util/AbstractCollection" = some m.cls := findClass_of_methodNamed Bd.named
  have hnm := (name_of_methodNamed Bd.named Bd.method).1
  have X0 : Stand p l e ({ frames := 1, cells := 0, slots := 0, locals := 12 } : Room) s m #[(.ref a1)] below meth c s₁ [] 0 0 := Stand.of_body Bd
  have e0 : s₁.heap = h0 := by rw [← hh, Bd.state]; rfl
  have N0 := Fr.nil n0
  have pre0 : ∀ t, Steps p.tables e below (s₁.setTop (mkF m 0 #[rv a1] [])) t → Steps p.tables e below (s₁.setTop (entryFrame m #[(.ref a1)] 1)) t := fun t k => castTop (r3_1e m a1) k
  obtain ⟨T2, X2, e2, st2⟩ := initO X0 hx hZ hown (ow hw 26 rfl) (ow hw 27 rfl) (ow hw 28 rfl) e0 (g := (mkF m 1 #[rv a1] [(.ref a1)])) rfl (by rw [hml]; rfl) rfl (hb hby d3_1) (by decide) (W := 0) (by show 2 * 0 + _ ≤ _; exact Nat.le_of_eq rfl) (by decide)
  obtain ⟨fs, hr, hrun, hended, hW, hsame⟩ := X2.leave (v := none) (fun _ => rfl)
  refine ⟨_, _, pre0 _ ?_, hrun, hended, _, _, rfl, ?_, ⟨_, rfl⟩, hW, hsame.mono (by decide) (by decide)⟩
  · show St p e below s₁ m 0 #[rv a1] [] _
    refine XS.aloadN X0.here hx rfl (hb hby d3_0) rfl rfl ?_
    show St p e below s₁ m 1 #[rv a1] [(.ref a1)] _
    refine st2 _ ?_
    show St p e below T2 m 4 #[rv a1] [] _
    exact X2.returnOut hx Bd.returns (hb hby d3_4) hr
  · show r3_1Q Z a1 h0 n0 _ T2.heap _
    rw [e2]
    exact ⟨rfl, N0, rfl⟩
theorem pd___V : parseMethodDescriptor "()V" = some ⟨[], none⟩ := by decide +kernel
theorem d2_4 : decode jdk_39_method_1_code 4 = .ok (.aload_n 0, 1) := by decide +kernel
theorem d2_5 : decode jdk_39_method_1_code 5 = .ok (.iconst 0, 1) := by decide +kernel
theorem d2_6 : decode jdk_39_method_1_code 6 = .ok (.putfield 7, 3) := by decide +kernel
theorem d2_9 : decode jdk_39_method_1_code 9 = .ok (.return_, 1) := by decide +kernel
abbrev y2 : MethodName := ⟨"java/util/AbstractList", "<init>", "()V"⟩
theorem pn_java_util_AbstractList : plainName "java/util/AbstractList" = true := by first | (simp [plainName, overriddenIn]; done) | decide +kernel
def r2_1Q (Z : State) (a1 : Addr) (h0 : Heap) (n0 : Nat) (v : Option Value) (h : Heap) (L : List Loc) : Prop := v = none ∧ Fr n0 L ∧ Keep h0 h [a1] ∧ Fld Z h a1 "java/util/AbstractList" "modCount" "I" (.int (0 : Int32)) ∧ Exa Z h a1 "java/util/ArrayList" ∧ Fld Z h a1 "java/util/ArrayList" "elementData" "[Ljava/lang/Object;" .null ∧ Fld Z h a1 "java/util/ArrayList" "size" "I" (.int (0 : Int32))
theorem r2_1e (m : MethodId) (a1 : Addr) : entryFrame m #[(.ref a1)] 1 = mkF m 0 #[rv a1] [] := by first | (simp [entryFrame, mkF, argsToLocals, Value.category]; done) | rfl
set_option maxRecDepth 65536 in
set_option maxHeartbeats 40000000 in
theorem r2_1 (l : Launch) (Z : State) (a0 : Array Value) (hw : HW a0 Z) (ws : List Jvm.Cond) (a1 : Addr) (h0 : Heap) (n0 : Nat) (O0 : Old Z n0 h0) (H3 : Fld Z h0 a1 "java/util/AbstractList" "modCount" "I" (.int (0 : Int32))) (H4 : Exa Z h0 a1 "java/util/ArrayList") (H6 : n0 ≤ a1) (H9 : Fld Z h0 a1 "java/util/ArrayList" "elementData" "[Ljava/lang/Object;" .null) (H12 : Fld Z h0 a1 "java/util/ArrayList" "size" "I" (.int (0 : Int32))) :
    MF l y2 jdk_39_method_1_code 1 none ws ({ frames := 2, cells := 0, slots := 0, locals := 24 } : Room) Z #[(.ref a1)] h0 (r2_1Q Z a1 h0 n0) := by
  refine MetFree.of_bodySF (plainFor_of_name pn_java_util_AbstractList) hisR ?_
  intro p e s m args below meth c s₁ Bd hml0 hP hK
  obtain ⟨rfl, hZ, hh⟩ := hP
  have hx := Bd.exec
  have hby := Bd.bytes
  have hml : c.maxLocals = 1 := hml0
  have hown : s.vm.findClass "java/util/AbstractList" = some m.cls := findClass_of_methodNamed Bd.named
  have hnm := (name_of_methodNamed Bd.named Bd.method).1
  have X0 : Stand p l e ({ frames := 2, cells := 0, slots := 0, locals := 24 } : Room) s m #[(.ref a1)] below meth c s₁ [] 0 0 := Stand.of_body Bd
  have e0 : s₁.heap = h0 := by rw [← hh, Bd.state]; rfl
  have N0 := Fr.nil n0
  have pre0 : ∀ t, Steps p.tables e below (s₁.setTop (mkF m 0 #[rv a1] [])) t → Steps p.tables e below (s₁.setTop (entryFrame m #[(.ref a1)] 1)) t := fun t k => castTop (r2_1e m a1) k
  obtain ⟨_, _, ⟨T2, L2, k2, n2⟩, -, X2, ⟨Lc2, hQ2, l2, y2, z2⟩, st2⟩ := X0.specialBack hx (y := y3) rfl hown (mvT hZ (ow hw 20 rfl)) (mvT hZ (ow hw 21 rfl)) (mvT hZ (ow hw 25 rfl)) (by decide) (backOf (W := 0) (r3_1 l Z a0 hw [] a1 h0 n0 O0) hZ (ow hw 25 rfl) (ow hw 24 rfl) (by decide) (by decide)) (g := (mkF m 1 #[rv a1] [(.ref a1)])) rfl (by rw [hml]; rfl) (Steps.refl _) (a := a1) (argsL := []) (rest := []) (lenOf pd___V rfl) rfl (by show 2 * 0 + _ ≤ _; exact Nat.le_of_eq rfl) (hb hby d2_1) (fun _ _ => ⟨rfl, e0, (by decide : 0 + 0 ≤ _), (by decide : 0 + 0 ≤ _)⟩)
  dsimp only [Pt.U, Pt.locs, Pt.cells, Pt.slots] at X2 l2 y2 z2 st2 hQ2
  subst l2 y2 z2
  obtain ⟨rfl, N2q, e2⟩ := hQ2
  have N2 := Fr.app N0 N2q
  obtain ⟨T5, h5, X5, e5, W5, st5⟩ := putF X2 hx hZ hown (host := "") (Or.inl (ow hw 29 rfl)) Via.refl e2 H3 H4 (Or.inl (ow hw 30 rfl)) (ow hw 9 rfl) (ty := .int) (by decide) rfl rfl (g := (mkF m 6 #[rv a1] [(.int (0 : Int32)), (.ref a1)])) rfl rfl (hb hby d2_6)
  have O_W5 : Old Z n0 h5 := O0.wr W5 H6
  have Kp_W5 : Keep h0 h5 [a1] := (Keep.refl h0 [a1]).wr W5 (Or.inl (List.mem_of_getElem? (i := 0) rfl))
  have N7 := Fr.snoc X5 N2 H6
  have f8 := H3.same W5
  have f10 := (H4.wr W5)
  have f11 := (H9.other W5 (Or.inr (slot_ne (Or.inl (ow hw 33 rfl)) (Or.inl (ow hw 30 rfl)) (by decide) (t := (.array (.object "java/lang/Object"))) (t' := .int) (by decide) (by decide))))
  have f13 := (H12.other W5 (Or.inr (slot_ne (Or.inl (ow hw 67 rfl)) (Or.inl (ow hw 30 rfl)) (by decide) (t := .int) (t' := .int) (by decide) (by decide))))
  obtain ⟨fs, hr, hrun, hended, hW, hsame⟩ := X5.leave (v := none) (fun _ => rfl)
  refine ⟨_, _, pre0 _ ?_, hrun, hended, _, _, rfl, ?_, ⟨_, rfl⟩, hW, hsame.mono (by decide) (by decide)⟩
  · show St p e below s₁ m 0 #[rv a1] [] _
    refine XS.aloadN X0.here hx rfl (hb hby d2_0) rfl rfl ?_
    show St p e below s₁ m 1 #[rv a1] [(.ref a1)] _
    refine st2.trans ?_
    show St p e below T2 m 4 #[rv a1] [] _
    refine XS.aloadN X2.here hx rfl (hb hby d2_4) rfl rfl ?_
    show St p e below T2 m 5 #[rv a1] [(.ref a1)] _
    refine XS.iconst X2.here hx rfl (hb hby d2_5) ?_
    show St p e below T2 m 6 #[rv a1] [(.int (0 : Int32)), (.ref a1)] _
    refine st5 _ ?_
    show St p e below T5 m 9 #[rv a1] [] _
    exact X5.returnOut hx Bd.returns (hb hby d2_9) hr
  · show r2_1Q Z a1 h0 n0 _ T5.heap _
    rw [e5]
    exact ⟨rfl, N7, Kp_W5, f8, f10, f11, f13⟩
theorem d1_4 : decode jdk_38_method_2_code 4 = .ok (.aload_n 0, 1) := by decide +kernel
theorem d1_5 : decode jdk_38_method_2_code 5 = .ok (.getstatic 39, 3) := by decide +kernel
theorem d1_8 : decode jdk_38_method_2_code 8 = .ok (.putfield 9, 3) := by decide +kernel
theorem d1_11 : decode jdk_38_method_2_code 11 = .ok (.return_, 1) := by decide +kernel
abbrev y1 : MethodName := ⟨"java/util/ArrayList", "<init>", "()V"⟩
theorem pn_java_util_ArrayList : plainName "java/util/ArrayList" = true := by first | (simp [plainName, overriddenIn]; done) | decide +kernel
def r1_1Q (Z : State) (a1 : Addr) (a8 : Addr) (h0 : Heap) (n0 : Nat) (v : Option Value) (h : Heap) (L : List Loc) : Prop := v = none ∧ Fr n0 L ∧ Keep h0 h [a1] ∧ Fld Z h a1 "java/util/AbstractList" "modCount" "I" (.int (0 : Int32)) ∧ Exa Z h a1 "java/util/ArrayList" ∧ Fld Z h a1 "java/util/ArrayList" "elementData" "[Ljava/lang/Object;" (.ref a8) ∧ Fld Z h a1 "java/util/ArrayList" "size" "I" (.int (0 : Int32))
theorem r1_1e (m : MethodId) (a1 : Addr) (a8 : Addr) : entryFrame m #[(.ref a1)] 1 = mkF m 0 #[rv a1] [] := by first | (simp [entryFrame, mkF, argsToLocals, Value.category]; done) | rfl
set_option maxRecDepth 65536 in
set_option maxHeartbeats 40000000 in
theorem r1_1 (l : Launch) (Z : State) (a0 : Array Value) (hw : HW a0 Z) (ws : List Jvm.Cond) (a1 : Addr) (a8 : Addr) (h0 : Heap) (n0 : Nat) (O0 : Old Z n0 h0) (H2 : Fld Z h0 a1 "java/util/AbstractList" "modCount" "I" (.int (0 : Int32))) (H3 : Exa Z h0 a1 "java/util/ArrayList") (H4 : n0 ≤ a1) (H5 : Fld Z h0 a1 "java/util/ArrayList" "elementData" "[Ljava/lang/Object;" .null) (H6 : Fld Z h0 a1 "java/util/ArrayList" "size" "I" (.int (0 : Int32))) (H9 : Sta Z Z.heap "java/util/ArrayList" "DEFAULTCAPACITY_EMPTY_ELEMENTDATA" "[Ljava/lang/Object;" (.ref a8)) :
    MF l y1 jdk_38_method_2_code 1 none ws ({ frames := 3, cells := 0, slots := 0, locals := 36 } : Room) Z #[(.ref a1)] h0 (r1_1Q Z a1 a8 h0 n0) := by
  refine MetFree.of_bodySF (plainFor_of_name pn_java_util_ArrayList) hisR ?_
  intro p e s m args below meth c s₁ Bd hml0 hP hK
  obtain ⟨rfl, hZ, hh⟩ := hP
  have hx := Bd.exec
  have hby := Bd.bytes
  have hml : c.maxLocals = 1 := hml0
  have hown : s.vm.findClass "java/util/ArrayList" = some m.cls := findClass_of_methodNamed Bd.named
  have hnm := (name_of_methodNamed Bd.named Bd.method).1
  have X0 : Stand p l e ({ frames := 3, cells := 0, slots := 0, locals := 36 } : Room) s m #[(.ref a1)] below meth c s₁ [] 0 0 := Stand.of_body Bd
  have e0 : s₁.heap = h0 := by rw [← hh, Bd.state]; rfl
  have N0 := Fr.nil n0
  have pre0 : ∀ t, Steps p.tables e below (s₁.setTop (mkF m 0 #[rv a1] [])) t → Steps p.tables e below (s₁.setTop (entryFrame m #[(.ref a1)] 1)) t := fun t k => castTop (r1_1e m a1 a8) k
  obtain ⟨_, _, ⟨T7, L7, k7, n7⟩, -, X7, ⟨Lc7, hQ7, l7, y7, z7⟩, st7⟩ := X0.specialBack hx (y := y2) rfl hown (mvT hZ (ow hw 14 rfl)) (mvT hZ (ow hw 15 rfl)) (mvT hZ (ow hw 19 rfl)) (by decide) (backOf (W := 0) (r2_1 l Z a0 hw [] a1 h0 n0 O0 H2 H3 H4 H5 H6) hZ (ow hw 19 rfl) (ow hw 18 rfl) (by decide) (by decide)) (g := (mkF m 1 #[rv a1] [(.ref a1)])) rfl (by rw [hml]; rfl) (Steps.refl _) (a := a1) (argsL := []) (rest := []) (lenOf pd___V rfl) rfl (by show 2 * 0 + _ ≤ _; exact Nat.le_of_eq rfl) (hb hby d1_1) (fun _ _ => ⟨rfl, e0, (by decide : 0 + 0 ≤ _), (by decide : 0 + 0 ≤ _)⟩)
  dsimp only [Pt.U, Pt.locs, Pt.cells, Pt.slots] at X7 l7 y7 z7 st7 hQ7
  subst l7 y7 z7
  obtain ⟨rfl, N7q, K7, f7_1, f7_2, f7_3, f7_4⟩ := hQ7
  have N7 := Fr.app N0 N7q
  have O_K7 : Old Z n0 T7.heap := O0.keep K7 (allS H4 all0)
  have Kp_K7 : Keep h0 T7.heap [a1] := (Keep.refl h0 [a1]).trans K7 (allS (Or.inl (List.mem_of_getElem? (i := 0) rfl)) all0)
  obtain ⟨T10, X10, e10, st10⟩ := getS2 X7 hx hZ hown (host := "") (Or.inl (ow hw 31 rfl)) Via.refl rfl (H9.ext O_K7.2) (g := (mkF m 5 #[rv a1] [(.ref a1)])) rfl (hb hby d1_5)
  obtain ⟨T11, h11, X11, e11, W11, st11⟩ := putF X10 hx hZ hown (host := "") (Or.inl (ow hw 32 rfl)) Via.refl e10 f7_3 f7_2 (Or.inl (ow hw 33 rfl)) (ow hw 9 rfl) (ty := (.array (.object "java/lang/Object"))) (by decide) rfl rfl (g := (mkF m 8 #[rv a1] [(.ref a8), (.ref a1)])) rfl rfl (hb hby d1_8)
  have O_W11 : Old Z n0 h11 := O_K7.wr W11 H4
  have Kp_W11 : Keep h0 h11 [a1] := Kp_K7.wr W11 (Or.inl (List.mem_of_getElem? (i := 0) rfl))
  have N12 := Fr.snoc X11 N7 H4
  have f13 := f7_3.same W11
  have f14 := (f7_2.wr W11)
  have f15 := (f7_1.other W11 (Or.inr (slot_ne (Or.inl (ow hw 30 rfl)) (Or.inl (ow hw 33 rfl)) (by decide) (t := .int) (t' := (.array (.object "java/lang/Object"))) (by decide) (by decide))))
  have f16 := (f7_4.other W11 (Or.inr (slot_ne (Or.inl (ow hw 67 rfl)) (Or.inl (ow hw 33 rfl)) (by decide) (t := .int) (t' := (.array (.object "java/lang/Object"))) (by decide) (by decide))))
  obtain ⟨fs, hr, hrun, hended, hW, hsame⟩ := X11.leave (v := none) (fun _ => rfl)
  refine ⟨_, _, pre0 _ ?_, hrun, hended, _, _, rfl, ?_, ⟨_, rfl⟩, hW, hsame.mono (by decide) (by decide)⟩
  · show St p e below s₁ m 0 #[rv a1] [] _
    refine XS.aloadN X0.here hx rfl (hb hby d1_0) rfl rfl ?_
    show St p e below s₁ m 1 #[rv a1] [(.ref a1)] _
    refine st7.trans ?_
    show St p e below T7 m 4 #[rv a1] [] _
    refine XS.aloadN X7.here hx rfl (hb hby d1_4) rfl rfl ?_
    show St p e below T7 m 5 #[rv a1] [(.ref a1)] _
    refine st10 _ ?_
    show St p e below T10 m 8 #[rv a1] [(.ref a8), (.ref a1)] _
    refine st11 _ ?_
    show St p e below T11 m 11 #[rv a1] [] _
    exact X11.returnOut hx Bd.returns (hb hby d1_11) hr
  · show r1_1Q Z a1 a8 h0 n0 _ T11.heap _
    rw [e11]
    exact ⟨rfl, N12, Kp_W11, f15, f14, f13, f16⟩
theorem d0_7 : decode prog_2_method_7_code 7 = .ok (.astore_n 1, 1) := by decide +kernel
theorem d0_8 : decode prog_2_method_7_code 8 = .ok (.invokestatic 76, 3) := by decide +kernel
theorem d4_0 : decode prog_2_method_1_code 0 = .ok (.getstatic 16, 3) := by decide +kernel
theorem d4_3 : decode prog_2_method_1_code 3 = .ok (.invokevirtual 20, 3) := by decide +kernel
theorem d4_6 : decode prog_2_method_1_code 6 = .ok (.checkcast 21, 3) := by decide +kernel
theorem d4_9 : decode prog_2_method_1_code 9 = .ok (.areturn, 1) := by decide +kernel
abbrev y4 : MethodName := ⟨"com/example/virtaus/virtaus/analysis/Analysis", "values", "()[Lcom/example/virtaus/virtaus/analysis/Analysis;"⟩
theorem pn_com_example_virtaus_virtaus_analysis_Analysis : plainName "com/example/virtaus/virtaus/analysis/Analysis" = true := by first | (simp [plainName, overriddenIn]; done) | decide +kernel
def r4_1Q (Z : State) (a1 : Addr) (k4 : ClassId) (a5 : Addr) (a6 : Addr) (a7 : Addr) (a8 : Addr) (h0 : Heap) (n0 : Nat) (v : Option Value) (h : Heap) (L : List Loc) : Prop := ∃ (b11 : Addr), v = some (.ref b11) ∧ Fr n0 L ∧ Keep h0 h [] ∧ h0.size ≤ b11 ∧ Arv Z h b11 k4 (.object "com/example/virtaus/virtaus/analysis/Analysis") (4 : Int32) [(.ref a5), (.ref a6), (.ref a7), (.ref a8)] .null ∧ Exa Z h b11 "[Lcom/example/virtaus/virtaus/analysis/Analysis;"
theorem r4_1e (m : MethodId) (a1 : Addr) (k4 : ClassId) (a5 : Addr) (a6 : Addr) (a7 : Addr) (a8 : Addr) : entryFrame m #[] 0 = mkF m 0 #[] [] := by first | (simp [entryFrame, mkF, argsToLocals, Value.category]; done) | rfl
set_option maxRecDepth 65536 in
set_option maxHeartbeats 40000000 in
theorem r4_1 (l : Launch) (Z : State) (a0 : Array Value) (hw : HW a0 Z) (ws : List Jvm.Cond) (a1 : Addr) (k4 : ClassId) (a5 : Addr) (a6 : Addr) (a7 : Addr) (a8 : Addr) (h0 : Heap) (n0 : Nat) (O0 : Old Z n0 h0) (H2 : Sta Z Z.heap "com/example/virtaus/virtaus/analysis/Analysis" "$VALUES" "[Lcom/example/virtaus/virtaus/analysis/Analysis;" (.ref a1)) (H9 : Arv Z Z.heap a1 k4 (.object "com/example/virtaus/virtaus/analysis/Analysis") (4 : Int32) [(.ref a5), (.ref a6), (.ref a7), (.ref a8)] .null) (H10 : Exa Z Z.heap a1 "[Lcom/example/virtaus/virtaus/analysis/Analysis;") :
    MF l y4 prog_2_method_1_code 0 (some (.array (.object "com/example/virtaus/virtaus/analysis/Analysis"))) ws ({ frames := 1, cells := 1, slots := 4, locals := 14 } : Room) Z #[] h0 (r4_1Q Z a1 k4 a5 a6 a7 a8 h0 n0) := by
  refine MetFree.of_bodySF (plainFor_of_name pn_com_example_virtaus_virtaus_analysis_Analysis) hisR ?_
  intro p e s m args below meth c s₁ Bd hml0 hP hK
  obtain ⟨rfl, hZ, hh⟩ := hP
  have hx := Bd.exec
  have hby := Bd.bytes
  have hml : c.maxLocals = 0 := hml0
  have hown : s.vm.findClass "com/example/virtaus/virtaus/analysis/Analysis" = some m.cls := findClass_of_methodNamed Bd.named
  have hnm := (name_of_methodNamed Bd.named Bd.method).1
  have X0 : Stand p l e ({ frames := 1, cells := 1, slots := 4, locals := 14 } : Room) s m #[] below meth c s₁ [] 0 0 := Stand.of_body Bd
  have e0 : s₁.heap = h0 := by rw [← hh, Bd.state]; rfl
  have N0 := Fr.nil n0
  have pre0 : ∀ t, Steps p.tables e below (s₁.setTop (mkF m 0 #[] [])) t → Steps p.tables e below (s₁.setTop (entryFrame m #[] 0)) t := fun t k => castTop (r4_1e m a1 k4 a5 a6 a7 a8) k
  obtain ⟨T3, X3, e3, st3⟩ := getS2 X0 hx hZ hown (host := "") (Or.inl (ow hw 37 rfl)) Via.refl e0 (H2.ext O0.2) (g := (mkF m 0 #[] [])) rfl (hb hby d4_0)
  obtain ⟨T11, h11, X11, e11, E11, A11, C11, st11⟩ := cloneH X3 hx hZ hown (ow hw 39 rfl) (ow hw 40 rfl) (ow hw 44 rfl) (ow hw 42 rfl) (ow hw 43 rfl) (ow hw 45 rfl) e3 (Arv.arh (H9.ext O0.2)) (H10.ext O0.2) (g := (mkF m 3 #[] [(.ref a1)])) rfl (by rw [hml]; rfl) rfl (hb hby d4_3) (by decide) (W := 0) (cap := 4) (by show 2 * 0 + _ ≤ _; exact Nat.le_of_eq rfl) (by decide) (by decide) (by decide) (by decide)
  obtain ⟨b11, g11⟩ : ∃ z, z = h0.size := ⟨_, rfl⟩
  rw [← g11] at A11 C11 st11
  have O_E11 : Old Z n0 h11 := O0.ext E11
  have Kp_E11 : Keep h0 h11 [] := (Keep.refl h0 []).ext E11
  have V11 : Arv Z h11 b11 k4 (.object "com/example/virtaus/virtaus/analysis/Analysis") (4 : Int32) [(.ref a5), (.ref a6), (.ref a7), (.ref a8)] .null := A11
  obtain ⟨T12, X12, e12, st12⟩ := castY X11 hx hZ hown (ow hw 51 rfl) e11 (Ins.self C11) (g := (mkF m 6 #[] [(.ref b11)])) rfl rfl (hb hby d4_6)
  have z13 : h0.size ≤ b11 := Nat.le_trans (Keep.refl h0 []).1 (Nat.le_of_eq g11.symm)
  obtain ⟨fs, hr, hrun, hended, hW, hsame⟩ := X12.leave (v := some (.ref b11)) (fun h => by rw [Bd.returns] at h; cases h)
  refine ⟨_, _, pre0 _ ?_, hrun, hended, _, _, rfl, ?_, ⟨_, rfl⟩, hW, hsame.mono (by decide) (by decide)⟩
  · show St p e below s₁ m 0 #[] [] _
    refine st3 _ ?_
    show St p e below T3 m 3 #[] [(.ref a1)] _
    refine st11 _ ?_
    show St p e below T11 m 6 #[] [(.ref b11)] _
    refine st12 _ ?_
    show St p e below T12 m 9 #[] [(.ref b11)] _
    jvm_step X12.here [X12.here.top, hx, (hb hby d4_9), X12.method', Bd.returns, Value.isRef, FieldType.isReference]
    first | (intro acts; rw [hr _ acts rfl rfl rfl]) | rw [hr _ _ rfl rfl rfl]
    exact Steps.refl _
  · show r4_1Q Z a1 k4 a5 a6 a7 a8 h0 n0 _ T12.heap _
    rw [e12]
    exact ⟨b11, rfl, N0, Kp_E11, z13, V11, C11⟩
theorem pd____Lcom_example_virtaus_virtaus_analysis_Analysis_ : parseMethodDescriptor "()[Lcom/example/virtaus/virtaus/analysis/Analysis;" = some ⟨[], some (.array (.object "com/example/virtaus/virtaus/analysis/Analysis"))⟩ := by decide +kernel
theorem d0_11 : decode prog_2_method_7_code 11 = .ok (.astore_n 2, 1) := by decide +kernel
theorem d0_12 : decode prog_2_method_7_code 12 = .ok (.aload_n 2, 1) := by decide +kernel
theorem d0_13 : decode prog_2_method_7_code 13 = .ok (.arraylength, 1) := by decide +kernel
theorem d0_14 : decode prog_2_method_7_code 14 = .ok (.istore_n 3, 1) := by decide +kernel
theorem d0_15 : decode prog_2_method_7_code 15 = .ok (.iconst 0, 1) := by decide +kernel
theorem d0_16 : decode prog_2_method_7_code 16 = .ok (.istore 4, 2) := by decide +kernel
theorem d0_18 : decode prog_2_method_7_code 18 = .ok (.iload 4, 2) := by decide +kernel
theorem d0_20 : decode prog_2_method_7_code 20 = .ok (.iload_n 3, 1) := by decide +kernel
theorem d0_21 : decode prog_2_method_7_code 21 = .ok (.if_icmp .ge 33, 3) := by decide +kernel
theorem d0_24 : decode prog_2_method_7_code 24 = .ok (.aload_n 2, 1) := by decide +kernel
theorem d0_25 : decode prog_2_method_7_code 25 = .ok (.iload 4, 2) := by decide +kernel
theorem d0_27 : decode prog_2_method_7_code 27 = .ok (.aaload, 1) := by decide +kernel
theorem d0_28 : decode prog_2_method_7_code 28 = .ok (.astore 5, 2) := by decide +kernel
theorem d0_30 : decode prog_2_method_7_code 30 = .ok (.aload 5, 2) := by decide +kernel
theorem d0_32 : decode prog_2_method_7_code 32 = .ok (.getfield 39, 3) := by decide +kernel
theorem d0_35 : decode prog_2_method_7_code 35 = .ok (.aload_n 0, 1) := by decide +kernel
theorem d0_36 : decode prog_2_method_7_code 36 = .ok (.if_acmp .ne 12, 3) := by decide +kernel
theorem d0_39 : decode prog_2_method_7_code 39 = .ok (.aload_n 1, 1) := by decide +kernel
theorem d0_40 : decode prog_2_method_7_code 40 = .ok (.aload 5, 2) := by decide +kernel
theorem d0_42 : decode prog_2_method_7_code 42 = .ok (.invokeinterface 80 2, 5) := by decide +kernel
theorem d5_0 : decode jdk_38_method_25_code 0 = .ok (.aload_n 0, 1) := by decide +kernel
theorem d5_1 : decode jdk_38_method_25_code 1 = .ok (.dup, 1) := by decide +kernel
theorem d5_2 : decode jdk_38_method_25_code 2 = .ok (.getfield 63, 3) := by decide +kernel
theorem d5_5 : decode jdk_38_method_25_code 5 = .ok (.iconst 1, 1) := by decide +kernel
theorem d5_6 : decode jdk_38_method_25_code 6 = .ok (.iadd, 1) := by decide +kernel
theorem d5_7 : decode jdk_38_method_25_code 7 = .ok (.putfield 63, 3) := by decide +kernel
theorem d5_10 : decode jdk_38_method_25_code 10 = .ok (.aload_n 0, 1) := by decide +kernel
theorem d5_11 : decode jdk_38_method_25_code 11 = .ok (.aload_n 1, 1) := by decide +kernel
theorem d5_12 : decode jdk_38_method_25_code 12 = .ok (.aload_n 0, 1) := by decide +kernel
theorem d5_13 : decode jdk_38_method_25_code 13 = .ok (.getfield 9, 3) := by decide +kernel
theorem d5_16 : decode jdk_38_method_25_code 16 = .ok (.aload_n 0, 1) := by decide +kernel
theorem d5_17 : decode jdk_38_method_25_code 17 = .ok (.getfield 48, 3) := by decide +kernel
theorem d5_20 : decode jdk_38_method_25_code 20 = .ok (.invokevirtual 131, 3) := by decide +kernel
theorem d6_0 : decode jdk_38_method_24_code 0 = .ok (.iload_n 3, 1) := by decide +kernel
theorem d6_1 : decode jdk_38_method_24_code 1 = .ok (.aload_n 2, 1) := by decide +kernel
theorem d6_2 : decode jdk_38_method_24_code 2 = .ok (.arraylength, 1) := by decide +kernel
theorem d6_3 : decode jdk_38_method_24_code 3 = .ok (.if_icmp .ne 8, 3) := by decide +kernel
theorem d6_6 : decode jdk_38_method_24_code 6 = .ok (.aload_n 0, 1) := by decide +kernel
theorem d6_7 : decode jdk_38_method_24_code 7 = .ok (.invokevirtual 129, 3) := by decide +kernel
theorem d7_0 : decode jdk_38_method_7_code 0 = .ok (.aload_n 0, 1) := by decide +kernel
theorem d7_1 : decode jdk_38_method_7_code 1 = .ok (.aload_n 0, 1) := by decide +kernel
theorem d7_2 : decode jdk_38_method_7_code 2 = .ok (.getfield 48, 3) := by decide +kernel
theorem d7_5 : decode jdk_38_method_7_code 5 = .ok (.iconst 1, 1) := by decide +kernel
theorem d7_6 : decode jdk_38_method_7_code 6 = .ok (.iadd, 1) := by decide +kernel
theorem d7_7 : decode jdk_38_method_7_code 7 = .ok (.invokevirtual 69, 3) := by decide +kernel
theorem d8_0 : decode jdk_38_method_6_code 0 = .ok (.aload_n 0, 1) := by decide +kernel
theorem d8_1 : decode jdk_38_method_6_code 1 = .ok (.getfield 9, 3) := by decide +kernel
theorem d8_4 : decode jdk_38_method_6_code 4 = .ok (.arraylength, 1) := by decide +kernel
theorem d8_5 : decode jdk_38_method_6_code 5 = .ok (.istore_n 2, 1) := by decide +kernel
theorem d8_6 : decode jdk_38_method_6_code 6 = .ok (.iload_n 2, 1) := by decide +kernel
theorem d8_7 : decode jdk_38_method_6_code 7 = .ok (.ifCond .gt 13, 3) := by decide +kernel
theorem d8_10 : decode jdk_38_method_6_code 10 = .ok (.aload_n 0, 1) := by decide +kernel
theorem d8_11 : decode jdk_38_method_6_code 11 = .ok (.getfield 9, 3) := by decide +kernel
theorem d8_14 : decode jdk_38_method_6_code 14 = .ok (.getstatic 39, 3) := by decide +kernel
theorem d8_17 : decode jdk_38_method_6_code 17 = .ok (.if_acmp .eq 28, 3) := by decide +kernel
theorem d8_45 : decode jdk_38_method_6_code 45 = .ok (.aload_n 0, 1) := by decide +kernel
theorem d8_46 : decode jdk_38_method_6_code 46 = .ok (.bipush 10, 2) := by decide +kernel
theorem d8_48 : decode jdk_38_method_6_code 48 = .ok (.iload_n 1, 1) := by decide +kernel
theorem d8_49 : decode jdk_38_method_6_code 49 = .ok (.invokestatic 79, 3) := by decide +kernel
theorem d9_0 : decode jdk_29_method_65_code 0 = .ok (.iload_n 0, 1) := by decide +kernel
theorem d9_1 : decode jdk_29_method_65_code 1 = .ok (.iload_n 1, 1) := by decide +kernel
theorem d9_2 : decode jdk_29_method_65_code 2 = .ok (.if_icmp .lt 7, 3) := by decide +kernel
theorem d9_5 : decode jdk_29_method_65_code 5 = .ok (.iload_n 0, 1) := by decide +kernel
theorem d9_6 : decode jdk_29_method_65_code 6 = .ok (.goto 4, 3) := by decide +kernel
theorem d9_10 : decode jdk_29_method_65_code 10 = .ok (.ireturn, 1) := by decide +kernel
abbrev y9 : MethodName := ⟨"java/lang/Math", "max", "(II)I"⟩
def r9_1Q (Z : State) (h0 : Heap) (n0 : Nat) (v : Option Value) (h : Heap) (L : List Loc) : Prop := v = some (.int (10 : Int32)) ∧ Fr n0 L ∧ h = h0
theorem r9_1e (m : MethodId) : entryFrame m #[(.int (10 : Int32)), (.int (1 : Int32))] 2 = mkF m 0 #[iv (10 : Int32), iv (1 : Int32)] [] := by first | (simp [entryFrame, mkF, argsToLocals, Value.category]; done) | rfl
set_option maxRecDepth 65536 in
set_option maxHeartbeats 40000000 in
theorem r9_1 (l : Launch) (Z : State) (a0 : Array Value) (hw : HW a0 Z) (ws : List Jvm.Cond) (h0 : Heap) (n0 : Nat) (O0 : Old Z n0 h0) :
    MF l y9 jdk_29_method_65_code 2 (some .int) ws ({ frames := 0, cells := 0, slots := 0, locals := 0 } : Room) Z #[(.int (10 : Int32)), (.int (1 : Int32))] h0 (r9_1Q Z h0 n0) := by
  refine MetFree.of_bodySF (Jvm.Free.JP.mathPlain rfl (by decide +kernel)) hisR ?_
  intro p e s m args below meth c s₁ Bd hml0 hP hK
  obtain ⟨rfl, hZ, hh⟩ := hP
  have hx := Bd.exec
  have hby := Bd.bytes
  have hml : c.maxLocals = 2 := hml0
  have hown : s.vm.findClass "java/lang/Math" = some m.cls := findClass_of_methodNamed Bd.named
  have hnm := (name_of_methodNamed Bd.named Bd.method).1
  have X0 : Stand p l e ({ frames := 0, cells := 0, slots := 0, locals := 0 } : Room) s m #[(.int (10 : Int32)), (.int (1 : Int32))] below meth c s₁ [] 0 0 := Stand.of_body Bd
  have e0 : s₁.heap = h0 := by rw [← hh, Bd.state]; rfl
  have N0 := Fr.nil n0
  have pre0 : ∀ t, Steps p.tables e below (s₁.setTop (mkF m 0 #[iv (10 : Int32), iv (1 : Int32)] [])) t → Steps p.tables e below (s₁.setTop (entryFrame m #[(.int (10 : Int32)), (.int (1 : Int32))] 2)) t := fun t k => castTop (r9_1e m) k
  obtain ⟨fs, hr, hrun, hended, hW, hsame⟩ := X0.leave (v := some (.int (10 : Int32))) (fun h => by rw [Bd.returns] at h; cases h)
  refine ⟨_, _, pre0 _ ?_, hrun, hended, _, _, rfl, ?_, ⟨_, rfl⟩, hW, hsame.mono (by decide) (by decide)⟩
  · show St p e below s₁ m 0 #[iv (10 : Int32), iv (1 : Int32)] [] _
    refine XS.iloadN X0.here hx rfl (hb hby d9_0) rfl ?_
    show St p e below s₁ m 1 #[iv (10 : Int32), iv (1 : Int32)] [(.int (10 : Int32))] _
    refine XS.iloadN X0.here hx rfl (hb hby d9_1) rfl ?_
    show St p e below s₁ m 2 #[iv (10 : Int32), iv (1 : Int32)] [(.int (1 : Int32)), (.int (10 : Int32))] _
    refine XS.icmpNo X0.here hx rfl (hb hby d9_2) rfl (flt (by decide : ¬ ((10 : Int32) < (1 : Int32)))).1 ?_
    show St p e below s₁ m 5 #[iv (10 : Int32), iv (1 : Int32)] [] _
    refine XS.iloadN X0.here hx rfl (hb hby d9_5) rfl ?_
    show St p e below s₁ m 6 #[iv (10 : Int32), iv (1 : Int32)] [(.int (10 : Int32))] _
    refine XS.goto X0.here hx rfl (pc0 := 6) (pc' := 10) rfl (hb hby d9_6) (by decide) (by decide) ?_
    show St p e below s₁ m 10 #[iv (10 : Int32), iv (1 : Int32)] [(.int (10 : Int32))] _
    exact retI X0 hx Bd.returns (hb hby d9_10) hr
  · show r9_1Q Z h0 n0 _ s₁.heap _
    rw [e0]
    exact ⟨rfl, N0, rfl⟩
theorem pd__II_I : parseMethodDescriptor "(II)I" = some ⟨[.int, .int], some .int⟩ := by decide +kernel
theorem d8_52 : decode jdk_38_method_6_code 52 = .ok (.anewarray 7, 3) := by decide +kernel
theorem d8_55 : decode jdk_38_method_6_code 55 = .ok (.dup_x1, 1) := by decide +kernel
theorem d8_56 : decode jdk_38_method_6_code 56 = .ok (.putfield 9, 3) := by decide +kernel
theorem d8_59 : decode jdk_38_method_6_code 59 = .ok (.areturn, 1) := by decide +kernel
abbrev y8 : MethodName := ⟨"java/util/ArrayList", "grow", "(I)[Ljava/lang/Object;"⟩
def r8_1Q (Z : State) (a1 : Addr) (a2 : Addr) (k5 : ClassId) (h0 : Heap) (n0 : Nat) (v : Option Value) (h : Heap) (L : List Loc) : Prop := ∃ (b12 : Addr) (k12 : ClassId), v = some (.ref b12) ∧ Fr n0 L ∧ Keep h0 h [a1] ∧ h0.size ≤ b12 ∧ Fld Z h a1 "java/util/ArrayList" "elementData" "[Ljava/lang/Object;" (.ref b12) ∧ Exa Z h a1 "java/util/ArrayList" ∧ Fld Z h a1 "java/util/ArrayList" "size" "I" (.int (0 : Int32)) ∧ Fld Z h a1 "java/util/AbstractList" "modCount" "I" (.int (1 : Int32)) ∧ Arv Z h b12 k12 (.object "java/lang/Object") (10 : Int32) [.null, .null, .null, .null, .null, .null, .null, .null, .null, .null] .null ∧ Exa Z h b12 "[Ljava/lang/Object;" ∧ Ovr Z k12 "java/lang/Object"
theorem r8_1e (m : MethodId) (a1 : Addr) (a2 : Addr) (k5 : ClassId) : entryFrame m #[(.ref a1), (.int (1 : Int32))] 4 = mkF m 0 #[rv a1, iv (1 : Int32), .unset, .unset] [] := by first | (simp [entryFrame, mkF, argsToLocals, Value.category]; done) | rfl
set_option maxRecDepth 65536 in
set_option maxHeartbeats 40000000 in
theorem r8_1 (l : Launch) (Z : State) (a0 : Array Value) (hw : HW a0 Z) (ws : List Jvm.Cond) (a1 : Addr) (a2 : Addr) (k5 : ClassId) (h0 : Heap) (n0 : Nat) (O0 : Old Z n0 h0) (H3 : Fld Z h0 a1 "java/util/ArrayList" "elementData" "[Ljava/lang/Object;" (.ref a2)) (H6 : Arv Z Z.heap a2 k5 (.object "java/lang/Object") (0 : Int32) [] .null) (H9 : Sta Z Z.heap "java/util/ArrayList" "DEFAULTCAPACITY_EMPTY_ELEMENTDATA" "[Ljava/lang/Object;" (.ref a2)) (H14 : Exa Z h0 a1 "java/util/ArrayList") (H17 : n0 ≤ a1) (H20 : Fld Z h0 a1 "java/util/ArrayList" "size" "I" (.int (0 : Int32))) (H23 : Fld Z h0 a1 "java/util/AbstractList" "modCount" "I" (.int (1 : Int32))) :
    MF l y8 jdk_38_method_6_code 4 (some (.array (.object "java/lang/Object"))) ws ({ frames := 1, cells := 1, slots := 10, locals := 14 } : Room) Z #[(.ref a1), (.int (1 : Int32))] h0 (r8_1Q Z a1 a2 k5 h0 n0) := by
  refine MetFree.of_bodySF (plainFor_of_name pn_java_util_ArrayList) hisR ?_
  intro p e s m args below meth c s₁ Bd hml0 hP hK
  obtain ⟨rfl, hZ, hh⟩ := hP
  have hx := Bd.exec
  have hby := Bd.bytes
  have hml : c.maxLocals = 4 := hml0
  have hown : s.vm.findClass "java/util/ArrayList" = some m.cls := findClass_of_methodNamed Bd.named
  have hnm := (name_of_methodNamed Bd.named Bd.method).1
  have X0 : Stand p l e ({ frames := 1, cells := 1, slots := 10, locals := 14 } : Room) s m #[(.ref a1), (.int (1 : Int32))] below meth c s₁ [] 0 0 := Stand.of_body Bd
  have e0 : s₁.heap = h0 := by rw [← hh, Bd.state]; rfl
  have N0 := Fr.nil n0
  have pre0 : ∀ t, Steps p.tables e below (s₁.setTop (mkF m 0 #[rv a1, iv (1 : Int32), .unset, .unset] [])) t → Steps p.tables e below (s₁.setTop (entryFrame m #[(.ref a1), (.int (1 : Int32))] 4)) t := fun t k => castTop (r8_1e m a1 a2 k5) k
  obtain ⟨T4, X4, e4, st4⟩ := getF X0 hx hZ hown (host := "") (Or.inl (ow hw 32 rfl)) Via.refl e0 H3 (g := (mkF m 1 #[rv a1, iv (1 : Int32), .unset, .unset] [(.ref a1)])) rfl rfl (hb hby d8_1)
  obtain ⟨cl7, Ar7, q7, S7, M7, H7, G7⟩ := id (H6.ext O0.2)
  obtain ⟨T8, X8, e8, st8⟩ := getF X4 hx hZ hown (host := "") (Or.inl (ow hw 32 rfl)) Via.refl e4 H3 (g := (mkF m 11 #[rv a1, iv (1 : Int32), iv (0 : Int32), .unset] [(.ref a1)])) rfl rfl (hb hby d8_11)
  obtain ⟨T10, X10, e10, st10⟩ := getS2 X8 hx hZ hown (host := "") (Or.inl (ow hw 31 rfl)) Via.refl e8 (H9.ext O0.2) (g := (mkF m 14 #[rv a1, iv (1 : Int32), iv (0 : Int32), .unset] [(.ref a2)])) rfl (hb hby d8_14)
  obtain ⟨_, _, ⟨T11, L11, k11, n11⟩, -, X11, ⟨Lc11, hQ11, l11, y11, z11⟩, st11⟩ := Jvm.LawKit.callS X10 hx (y := y9) hown (mvT hZ (ow hw 83 rfl)) (mvT hZ (ow hw 84 rfl)) (mvT hZ (ow hw 85 rfl)) (mvT hZ (ow hw 86 rfl)) (by decide) (backOf (W := 1) (r9_1 l Z a0 hw [] h0 n0 O0) hZ (ow hw 86 rfl) (ow hw 85 rfl) (by decide) (by decide)) (g := (mkF m 49 #[rv a1, iv (1 : Int32), iv (0 : Int32), .unset] [(.int (1 : Int32)), (.int (10 : Int32)), (.ref a1)])) rfl (by rw [hml]; rfl) (argsL := [(.int (10 : Int32)), (.int (1 : Int32))]) (rest := [(.ref a1)]) (lenOf pd__II_I rfl) rfl (by show 2 * 0 + _ ≤ _; exact Nat.le_of_eq rfl) (hb hby d8_49) (fun _ _ => ⟨rfl, e10, (by decide : 0 + 0 ≤ _), (by decide : 0 + 0 ≤ _)⟩)
  dsimp only [Pt.U, Pt.locs, Pt.cells, Pt.slots] at X11 l11 y11 z11 st11 hQ11
  subst l11 y11 z11
  obtain ⟨rfl, N11q, e11⟩ := hQ11
  have N11 := Fr.app N0 N11q
  obtain ⟨T12, h12, k12, X12, e12, E12, A12, C12, Ov12, st12⟩ := newRE X11 hx hZ hown (ow hw 87 rfl) (ow hw 88 rfl) e11 (g := (mkF m 52 #[rv a1, iv (1 : Int32), iv (0 : Int32), .unset] [(.int (10 : Int32)), (.ref a1)])) rfl (hb hby d8_52) rfl (by decide) (cap := 10) (by decide) (by decide) (by decide) (by decide) (ad := "[Ljava/lang/Object;") (by decide)
  obtain ⟨b12, g12⟩ : ∃ z, z = h0.size := ⟨_, rfl⟩
  rw [← g12] at A12 C12 st12
  have O_E12 : Old Z n0 h12 := O0.ext E12
  have Kp_E12 : Keep h0 h12 [a1] := (Keep.refl h0 [a1]).ext E12
  have V12 : Arv Z h12 b12 k12 (.object "java/lang/Object") (10 : Int32) [.null, .null, .null, .null, .null, .null, .null, .null, .null, .null] .null := (Arv.new A12 (by decide)).pad (pad_rep [] .null 10)
  have f13 := (H3.ext E12)
  have f15 := (H14.ext E12)
  obtain ⟨T16, h16, X16, e16, W16, st16⟩ := putF X12 hx hZ hown (host := "") (Or.inl (ow hw 32 rfl)) Via.refl e12 f13 f15 (Or.inl (ow hw 33 rfl)) (ow hw 9 rfl) (ty := (.array (.object "java/lang/Object"))) (by decide) rfl rfl (g := (mkF m 56 #[rv a1, iv (1 : Int32), iv (0 : Int32), .unset] [(.ref b12), (.ref a1), (.ref b12)])) rfl rfl (hb hby d8_56)
  have O_W16 : Old Z n0 h16 := O_E12.wr W16 H17
  have Kp_W16 : Keep h0 h16 [a1] := Kp_E12.wr W16 (Or.inl (List.mem_of_getElem? (i := 0) rfl))
  have N18 := Fr.snoc X16 N11 H17
  have f19 := f13.same W16
  have f21 := (f15.wr W16)
  have f22 := ((H20.ext E12).other W16 (Or.inr (slot_ne (Or.inl (ow hw 67 rfl)) (Or.inl (ow hw 33 rfl)) (by decide) (t := .int) (t' := (.array (.object "java/lang/Object"))) (by decide) (by decide))))
  have f24 := ((H23.ext E12).other W16 (Or.inr (slot_ne (Or.inl (ow hw 30 rfl)) (Or.inl (ow hw 33 rfl)) (by decide) (t := .int) (t' := (.array (.object "java/lang/Object"))) (by decide) (by decide))))
  have z25 : h0.size ≤ b12 := Nat.le_trans (Keep.refl h0 [a1]).1 (Nat.le_of_eq g12.symm)
  have ne26 : a1 ≠ b12 := Nat.ne_of_lt (Nat.lt_of_lt_of_le H14.lt (Nat.le_of_eq g12.symm))
  have f27 := (V12.other W16 (Ne.symm ne26))
  have f28 := (C12.wr W16)
  have f29 := Ov12
  obtain ⟨fs, hr, hrun, hended, hW, hsame⟩ := X16.leave (v := some (.ref b12)) (fun h => by rw [Bd.returns] at h; cases h)
  refine ⟨_, _, pre0 _ ?_, hrun, hended, _, _, rfl, ?_, ⟨_, rfl⟩, hW, hsame.mono (by decide) (by decide)⟩
  · show St p e below s₁ m 0 #[rv a1, iv (1 : Int32), .unset, .unset] [] _
    refine XS.aloadN X0.here hx rfl (hb hby d8_0) rfl rfl ?_
    show St p e below s₁ m 1 #[rv a1, iv (1 : Int32), .unset, .unset] [(.ref a1)] _
    refine st4 _ ?_
    show St p e below T4 m 4 #[rv a1, iv (1 : Int32), .unset, .unset] [(.ref a2)] _
    refine X4.arraylength hx (by rw [e4]; exact Ar7.1) (State.isArrayOf_alike hZ.alike Ar7.2.1) (g := (mkF m 4 #[rv a1, iv (1 : Int32), .unset, .unset] [(.ref a2)])) rfl rfl (hb hby d8_4) _ ?_
    rw [len_of S7 M7]
    show St p e below T4 m 5 #[rv a1, iv (1 : Int32), .unset, .unset] [(.int (0 : Int32))] _
    refine XS.istoreN X4.here hx rfl (hb hby d8_5) rfl (l' := #[rv a1, iv (1 : Int32), iv (0 : Int32), .unset]) rfl ?_
    show St p e below T4 m 6 #[rv a1, iv (1 : Int32), iv (0 : Int32), .unset] [] _
    refine XS.iloadN X4.here hx rfl (hb hby d8_6) rfl ?_
    show St p e below T4 m 7 #[rv a1, iv (1 : Int32), iv (0 : Int32), .unset] [(.int (0 : Int32))] _
    refine XS.ifNo X4.here hx rfl (hb hby d8_7) rfl ((if0 _ _).trans (flt (by decide : ¬ ((0 : Int32) < (0 : Int32)))).2.2.1) ?_
    show St p e below T4 m 10 #[rv a1, iv (1 : Int32), iv (0 : Int32), .unset] [] _
    refine XS.aloadN X4.here hx rfl (hb hby d8_10) rfl rfl ?_
    show St p e below T4 m 11 #[rv a1, iv (1 : Int32), iv (0 : Int32), .unset] [(.ref a1)] _
    refine st8 _ ?_
    show St p e below T8 m 14 #[rv a1, iv (1 : Int32), iv (0 : Int32), .unset] [(.ref a2)] _
    refine st10 _ ?_
    show St p e below T10 m 17 #[rv a1, iv (1 : Int32), iv (0 : Int32), .unset] [(.ref a2), (.ref a2)] _
    refine Jvm.RoadKit.acmp (g := (mkF m 17 #[rv a1, iv (1 : Int32), iv (0 : Int32), .unset] [(.ref a2), (.ref a2)])) X10 hx rfl rfl rfl (pc0 := 17) (pc' := 45) (same := true) rfl (hb hby d8_17) rfl (decide_eq_true rfl) (by decide) (by decide) ?_
    show St p e below T10 m 45 #[rv a1, iv (1 : Int32), iv (0 : Int32), .unset] [] _
    refine XS.aloadN X10.here hx rfl (hb hby d8_45) rfl rfl ?_
    show St p e below T10 m 46 #[rv a1, iv (1 : Int32), iv (0 : Int32), .unset] [(.ref a1)] _
    refine XS.bipush X10.here hx rfl (hb hby d8_46) ?_
    show St p e below T10 m 48 #[rv a1, iv (1 : Int32), iv (0 : Int32), .unset] [(.int (10 : Int32)), (.ref a1)] _
    refine XS.iloadN X10.here hx rfl (hb hby d8_48) rfl ?_
    show St p e below T10 m 49 #[rv a1, iv (1 : Int32), iv (0 : Int32), .unset] [(.int (1 : Int32)), (.int (10 : Int32)), (.ref a1)] _
    refine st11 _ ?_
    show St p e below T11 m 52 #[rv a1, iv (1 : Int32), iv (0 : Int32), .unset] [(.int (10 : Int32)), (.ref a1)] _
    refine st12 _ ?_
    show St p e below T12 m 55 #[rv a1, iv (1 : Int32), iv (0 : Int32), .unset] [(.ref b12), (.ref a1)] _
    refine XS.dupX1 X12.here hx rfl (hb hby d8_55) rfl rfl rfl ?_
    show St p e below T12 m 56 #[rv a1, iv (1 : Int32), iv (0 : Int32), .unset] [(.ref b12), (.ref a1), (.ref b12)] _
    refine st16 _ ?_
    show St p e below T16 m 59 #[rv a1, iv (1 : Int32), iv (0 : Int32), .unset] [(.ref b12)] _
    jvm_step X16.here [X16.here.top, hx, (hb hby d8_59), X16.method', Bd.returns, Value.isRef, FieldType.isReference]
    first | (intro acts; rw [hr _ acts rfl rfl rfl]) | rw [hr _ _ rfl rfl rfl]
    exact Steps.refl _
  · show r8_1Q Z a1 a2 k5 h0 n0 _ T16.heap _
    rw [e16]
    exact ⟨b12, k12, rfl, N18, Kp_W16, z25, f19, f21, f22, f24, f27, f28, f29⟩
theorem pd__I__Ljava_lang_Object_ : parseMethodDescriptor "(I)[Ljava/lang/Object;" = some ⟨[.int], some (.array (.object "java/lang/Object"))⟩ := by decide +kernel
theorem d7_10 : decode jdk_38_method_7_code 10 = .ok (.areturn, 1) := by decide +kernel
abbrev y7 : MethodName := ⟨"java/util/ArrayList", "grow", "()[Ljava/lang/Object;"⟩
def r7_1Q (Z : State) (a1 : Addr) (a5 : Addr) (k7 : ClassId) (h0 : Heap) (n0 : Nat) (v : Option Value) (h : Heap) (L : List Loc) : Prop := ∃ (b12_0 : Addr) (k12_0 : ClassId), v = some (.ref b12_0) ∧ Fr n0 L ∧ Keep h0 h [a1] ∧ h0.size ≤ b12_0 ∧ Fld Z h a1 "java/util/ArrayList" "size" "I" (.int (0 : Int32)) ∧ Exa Z h a1 "java/util/ArrayList" ∧ Fld Z h a1 "java/util/ArrayList" "elementData" "[Ljava/lang/Object;" (.ref b12_0) ∧ Fld Z h a1 "java/util/AbstractList" "modCount" "I" (.int (1 : Int32)) ∧ Arv Z h b12_0 k12_0 (.object "java/lang/Object") (10 : Int32) [.null, .null, .null, .null, .null, .null, .null, .null, .null, .null] .null ∧ Exa Z h b12_0 "[Ljava/lang/Object;" ∧ Ovr Z k12_0 "java/lang/Object"
theorem r7_1e (m : MethodId) (a1 : Addr) (a5 : Addr) (k7 : ClassId) : entryFrame m #[(.ref a1)] 1 = mkF m 0 #[rv a1] [] := by first | (simp [entryFrame, mkF, argsToLocals, Value.category]; done) | rfl
set_option maxRecDepth 65536 in
set_option maxHeartbeats 40000000 in
theorem r7_1 (l : Launch) (Z : State) (a0 : Array Value) (hw : HW a0 Z) (ws : List Jvm.Cond) (a1 : Addr) (a5 : Addr) (k7 : ClassId) (h0 : Heap) (n0 : Nat) (O0 : Old Z n0 h0) (H2 : Fld Z h0 a1 "java/util/ArrayList" "size" "I" (.int (0 : Int32))) (H4 : Exa Z h0 a1 "java/util/ArrayList") (H6 : Fld Z h0 a1 "java/util/ArrayList" "elementData" "[Ljava/lang/Object;" (.ref a5)) (H8 : Arv Z Z.heap a5 k7 (.object "java/lang/Object") (0 : Int32) [] .null) (H9 : Sta Z Z.heap "java/util/ArrayList" "DEFAULTCAPACITY_EMPTY_ELEMENTDATA" "[Ljava/lang/Object;" (.ref a5)) (H10 : n0 ≤ a1) (H11 : Fld Z h0 a1 "java/util/AbstractList" "modCount" "I" (.int (1 : Int32))) :
    MF l y7 jdk_38_method_7_code 1 (some (.array (.object "java/lang/Object"))) ws ({ frames := 2, cells := 1, slots := 10, locals := 29 } : Room) Z #[(.ref a1)] h0 (r7_1Q Z a1 a5 k7 h0 n0) := by
  refine MetFree.of_bodySF (plainFor_of_name pn_java_util_ArrayList) hisR ?_
  intro p e s m args below meth c s₁ Bd hml0 hP hK
  obtain ⟨rfl, hZ, hh⟩ := hP
  have hx := Bd.exec
  have hby := Bd.bytes
  have hml : c.maxLocals = 1 := hml0
  have hown : s.vm.findClass "java/util/ArrayList" = some m.cls := findClass_of_methodNamed Bd.named
  have hnm := (name_of_methodNamed Bd.named Bd.method).1
  have X0 : Stand p l e ({ frames := 2, cells := 1, slots := 10, locals := 29 } : Room) s m #[(.ref a1)] below meth c s₁ [] 0 0 := Stand.of_body Bd
  have e0 : s₁.heap = h0 := by rw [← hh, Bd.state]; rfl
  have N0 := Fr.nil n0
  have pre0 : ∀ t, Steps p.tables e below (s₁.setTop (mkF m 0 #[rv a1] [])) t → Steps p.tables e below (s₁.setTop (entryFrame m #[(.ref a1)] 1)) t := fun t k => castTop (r7_1e m a1 a5 k7) k
  obtain ⟨T3, X3, e3, st3⟩ := getF X0 hx hZ hown (host := "") (Or.inl (ow hw 66 rfl)) Via.refl e0 H2 (g := (mkF m 2 #[rv a1] [(.ref a1), (.ref a1)])) rfl rfl (hb hby d7_2)
  obtain ⟨cq12, q12, q12'⟩ := H4.cell
  obtain ⟨_, _, ⟨T12, L12, k12, n12⟩, -, X12, ⟨Lc12, hQ12, l12, y12, z12⟩, st12⟩ := X3.privateBack hx (y := y8) hown (mvT hZ (ow hw 78 rfl)) (mvT hZ (ow hw 79 rfl)) (mvT hZ (ow hw 81 rfl)) (Cond.privateMethod_at (mvP hZ (ow hw 80 rfl) (args := #[]))) (mvT hZ (ow hw 82 rfl)) (by decide) (backOf (W := 0) (r8_1 l Z a0 hw [] a1 a5 k7 h0 n0 O0 H6 H8 H9 H4 H10 H2 H11) hZ (ow hw 82 rfl) (ow hw 10 rfl) (by decide) (by decide)) (g := (mkF m 7 #[rv a1] [(.int (1 : Int32)), (.ref a1)])) rfl (by rw [hml]; rfl) (Steps.refl _) (a := a1) (by rw [e3]; exact q12) q12' (argsL := [(.int (1 : Int32))]) (rest := []) (lenOf pd__I__Ljava_lang_Object_ rfl) rfl (by show 2 * 0 + _ ≤ _; exact Nat.le_of_eq rfl) (hb hby d7_7) (fun _ _ => ⟨rfl, e3, (by decide : 0 + 1 ≤ _), (by decide : 0 + 10 ≤ _)⟩)
  dsimp only [Pt.U, Pt.locs, Pt.cells, Pt.slots] at X12 l12 y12 z12 st12 hQ12
  subst l12 y12 z12
  obtain ⟨b12_0, k12_0, rfl, N12q, K12, lo12_1, f12_2, f12_3, f12_4, f12_5, f12_6, f12_7, f12_8⟩ := hQ12
  have N12 := Fr.app N0 N12q
  have O_K12 : Old Z n0 T12.heap := O0.keep K12 (allS H10 all0)
  have Kp_K12 : Keep h0 T12.heap [a1] := (Keep.refl h0 [a1]).trans K12 (allS (Or.inl (List.mem_of_getElem? (i := 0) rfl)) all0)
  have z13 : h0.size ≤ b12_0 := Nat.le_trans (Keep.refl h0 [a1]).1 lo12_1
  obtain ⟨fs, hr, hrun, hended, hW, hsame⟩ := X12.leave (v := some (.ref b12_0)) (fun h => by rw [Bd.returns] at h; cases h)
  refine ⟨_, _, pre0 _ ?_, hrun, hended, _, _, rfl, ?_, ⟨_, rfl⟩, hW, hsame.mono (by decide) (by decide)⟩
  · show St p e below s₁ m 0 #[rv a1] [] _
    refine XS.aloadN X0.here hx rfl (hb hby d7_0) rfl rfl ?_
    show St p e below s₁ m 1 #[rv a1] [(.ref a1)] _
    refine XS.aloadN X0.here hx rfl (hb hby d7_1) rfl rfl ?_
    show St p e below s₁ m 2 #[rv a1] [(.ref a1), (.ref a1)] _
    refine st3 _ ?_
    show St p e below T3 m 5 #[rv a1] [(.int (0 : Int32)), (.ref a1)] _
    refine XS.iconst X3.here hx rfl (hb hby d7_5) ?_
    show St p e below T3 m 6 #[rv a1] [(.int (1 : Int32)), (.int (0 : Int32)), (.ref a1)] _
    refine XS.iadd X3.here hx rfl (hb hby d7_6) rfl ?_
    show St p e below T3 m 7 #[rv a1] [(.int (1 : Int32)), (.ref a1)] _
    refine st12.trans ?_
    show St p e below T12 m 10 #[rv a1] [(.ref b12_0)] _
    jvm_step X12.here [X12.here.top, hx, (hb hby d7_10), X12.method', Bd.returns, Value.isRef, FieldType.isReference]
    first | (intro acts; rw [hr _ acts rfl rfl rfl]) | rw [hr _ _ rfl rfl rfl]
    exact Steps.refl _
  · show r7_1Q Z a1 a5 k7 h0 n0 _ T12.heap _
    exact ⟨b12_0, k12_0, rfl, N12, Kp_K12, z13, f12_4, f12_3, f12_2, f12_5, f12_6, f12_7, f12_8⟩
theorem pd____Ljava_lang_Object_ : parseMethodDescriptor "()[Ljava/lang/Object;" = some ⟨[], some (.array (.object "java/lang/Object"))⟩ := by decide +kernel
theorem d6_10 : decode jdk_38_method_24_code 10 = .ok (.astore_n 2, 1) := by decide +kernel
theorem d6_11 : decode jdk_38_method_24_code 11 = .ok (.aload_n 2, 1) := by decide +kernel
theorem d6_12 : decode jdk_38_method_24_code 12 = .ok (.iload_n 3, 1) := by decide +kernel
theorem d6_13 : decode jdk_38_method_24_code 13 = .ok (.aload_n 1, 1) := by decide +kernel
theorem d6_14 : decode jdk_38_method_24_code 14 = .ok (.aastore, 1) := by decide +kernel
theorem d6_15 : decode jdk_38_method_24_code 15 = .ok (.aload_n 0, 1) := by decide +kernel
theorem d6_16 : decode jdk_38_method_24_code 16 = .ok (.iload_n 3, 1) := by decide +kernel
theorem d6_17 : decode jdk_38_method_24_code 17 = .ok (.iconst 1, 1) := by decide +kernel
theorem d6_18 : decode jdk_38_method_24_code 18 = .ok (.iadd, 1) := by decide +kernel
theorem d6_19 : decode jdk_38_method_24_code 19 = .ok (.putfield 48, 3) := by decide +kernel
theorem d6_22 : decode jdk_38_method_24_code 22 = .ok (.return_, 1) := by decide +kernel
abbrev y6 : MethodName := ⟨"java/util/ArrayList", "add", "(Ljava/lang/Object;[Ljava/lang/Object;I)V"⟩
def r6_1Q (Z : State) (a1 : Addr) (a2 : Addr) (a3 : Addr) (k4 : ClassId) (h0 : Heap) (n0 : Nat) (v : Option Value) (h : Heap) (L : List Loc) : Prop := ∃ (b13_0 : Addr) (k13_0 : ClassId), v = none ∧ Fr n0 L ∧ Keep h0 h [a1] ∧ h0.size ≤ b13_0 ∧ Exa Z h a1 "java/util/ArrayList" ∧ Fld Z h a1 "java/util/ArrayList" "size" "I" (.int (1 : Int32)) ∧ Fld Z h a1 "java/util/ArrayList" "elementData" "[Ljava/lang/Object;" (.ref b13_0) ∧ Fld Z h a1 "java/util/AbstractList" "modCount" "I" (.int (1 : Int32)) ∧ Arv Z h b13_0 k13_0 (.object "java/lang/Object") (10 : Int32) [(.ref a2), .null, .null, .null, .null, .null, .null, .null, .null, .null] .null ∧ Exa Z h b13_0 "[Ljava/lang/Object;" ∧ Ovr Z k13_0 "java/lang/Object"
theorem r6_1e (m : MethodId) (a1 : Addr) (a2 : Addr) (a3 : Addr) (k4 : ClassId) : entryFrame m #[(.ref a1), (.ref a2), (.ref a3), (.int (0 : Int32))] 4 = mkF m 0 #[rv a1, rv a2, rv a3, iv (0 : Int32)] [] := by first | (simp [entryFrame, mkF, argsToLocals, Value.category]; done) | rfl
set_option maxRecDepth 65536 in
set_option maxHeartbeats 40000000 in
theorem r6_1 (l : Launch) (Z : State) (a0 : Array Value) (hw : HW a0 Z) (ws : List Jvm.Cond) (a1 : Addr) (a2 : Addr) (a3 : Addr) (k4 : ClassId) (h0 : Heap) (n0 : Nat) (O0 : Old Z n0 h0) (H5 : Arv Z Z.heap a3 k4 (.object "java/lang/Object") (0 : Int32) [] .null) (H7 : Exa Z h0 a1 "java/util/ArrayList") (H8 : Fld Z h0 a1 "java/util/ArrayList" "size" "I" (.int (0 : Int32))) (H9 : Fld Z h0 a1 "java/util/ArrayList" "elementData" "[Ljava/lang/Object;" (.ref a3)) (H10 : Sta Z Z.heap "java/util/ArrayList" "DEFAULTCAPACITY_EMPTY_ELEMENTDATA" "[Ljava/lang/Object;" (.ref a3)) (H11 : n0 ≤ a1) (H12 : Fld Z h0 a1 "java/util/AbstractList" "modCount" "I" (.int (1 : Int32))) (H15 : Exa Z Z.heap a2 "com/example/virtaus/virtaus/analysis/Analysis") :
    MF l y6 jdk_38_method_24_code 4 none ws ({ frames := 3, cells := 1, slots := 10, locals := 41 } : Room) Z #[(.ref a1), (.ref a2), (.ref a3), (.int (0 : Int32))] h0 (r6_1Q Z a1 a2 a3 k4 h0 n0) := by
  refine MetFree.of_bodySF (plainFor_of_name pn_java_util_ArrayList) hisR ?_
  intro p e s m args below meth c s₁ Bd hml0 hP hK
  obtain ⟨rfl, hZ, hh⟩ := hP
  have hx := Bd.exec
  have hby := Bd.bytes
  have hml : c.maxLocals = 4 := hml0
  have hown : s.vm.findClass "java/util/ArrayList" = some m.cls := findClass_of_methodNamed Bd.named
  have hnm := (name_of_methodNamed Bd.named Bd.method).1
  have X0 : Stand p l e ({ frames := 3, cells := 1, slots := 10, locals := 41 } : Room) s m #[(.ref a1), (.ref a2), (.ref a3), (.int (0 : Int32))] below meth c s₁ [] 0 0 := Stand.of_body Bd
  have e0 : s₁.heap = h0 := by rw [← hh, Bd.state]; rfl
  have N0 := Fr.nil n0
  have pre0 : ∀ t, Steps p.tables e below (s₁.setTop (mkF m 0 #[rv a1, rv a2, rv a3, iv (0 : Int32)] [])) t → Steps p.tables e below (s₁.setTop (entryFrame m #[(.ref a1), (.ref a2), (.ref a3), (.int (0 : Int32))] 4)) t := fun t k => castTop (r6_1e m a1 a2 a3 k4) k
  obtain ⟨cl6, Ar6, q6, S6, M6, H6, G6⟩ := id (H5.ext O0.2)
  obtain ⟨cq13, q13, q13'⟩ := H7.cell
  obtain ⟨_, _, ⟨T13, L13, k13, n13⟩, -, X13, ⟨Lc13, hQ13, l13, y13, z13⟩, st13⟩ := X0.privateBack hx (y := y7) hown (mvT hZ (ow hw 73 rfl)) (mvT hZ (ow hw 74 rfl)) (mvT hZ (ow hw 76 rfl)) (Cond.privateMethod_at (mvP hZ (ow hw 75 rfl) (args := #[]))) (mvT hZ (ow hw 77 rfl)) (by decide) (backOf (W := 0) (r7_1 l Z a0 hw [] a1 a3 k4 h0 n0 O0 H8 H7 H9 H5 H10 H11 H12) hZ (ow hw 77 rfl) (ow hw 10 rfl) (by decide) (by decide)) (g := (mkF m 7 #[rv a1, rv a2, rv a3, iv (0 : Int32)] [(.ref a1)])) rfl (by rw [hml]; rfl) (Steps.refl _) (a := a1) (by rw [e0]; exact q13) q13' (argsL := []) (rest := []) (lenOf pd____Ljava_lang_Object_ rfl) rfl (by show 2 * 0 + _ ≤ _; exact Nat.le_of_eq rfl) (hb hby d6_7) (fun _ _ => ⟨rfl, e0, (by decide : 0 + 1 ≤ _), (by decide : 0 + 10 ≤ _)⟩)
  dsimp only [Pt.U, Pt.locs, Pt.cells, Pt.slots] at X13 l13 y13 z13 st13 hQ13
  subst l13 y13 z13
  obtain ⟨b13_0, k13_0, rfl, N13q, K13, lo13_1, f13_2, f13_3, f13_4, f13_5, f13_6, f13_7, f13_8⟩ := hQ13
  have N13 := Fr.app N0 N13q
  have O_K13 : Old Z n0 T13.heap := O0.keep K13 (allS H11 all0)
  have Kp_K13 : Keep h0 T13.heap [a1] := (Keep.refl h0 [a1]).trans K13 (allS (Or.inl (List.mem_of_getElem? (i := 0) rfl)) all0)
  obtain ⟨cl14, Ar14, q14, S14, M14, H14, G14⟩ := id f13_6
  have hin14 : ¬ ((0 : Int32) < 0 ∨ cl14.slots.size ≤ ((0 : Int32)).toNatClampNeg) := inb_of S14 ⟨by decide, by decide⟩
  obtain ⟨T14, h14, X14, e14, W14, st14⟩ := stR X13 hx hZ rfl Ar14 (j := (0 : Int32)) hin14 rfl (Sto.ofV Ar14 q14 f13_8 (Ins.of_exa (H15.ext O_K13.2) (ow hw 89 rfl))) (g := (mkF m 14 #[rv a1, rv a2, rv b13_0, iv (0 : Int32)] [(.ref a2), (.int (0 : Int32)), (.ref b13_0)])) rfl rfl (hb hby d6_14)
  have g17 : n0 ≤ b13_0 := Nat.le_trans (Nat.le_trans (Nat.le_of_eq O0.1.symm) O0.2.1) lo13_1
  have z18 : h0.size ≤ b13_0 := Nat.le_trans (Keep.refl h0 [a1]).1 lo13_1
  have O_W14 : Old Z n0 h14 := O_K13.wr W14 g17
  have Kp_W14 : Keep h0 h14 [a1] := Kp_K13.wr W14 (Or.inr z18)
  have N19 := Fr.snoc X14 N13 g17
  have f16 : Arv Z h14 b13_0 k13_0 (.object "java/lang/Object") (10 : Int32) [(.ref a2), .null, .null, .null, .null, .null, .null, .null, .null, .null] .null := Arv.set Ar14 q14 S14 M14 H14 G14 rfl W14 0 rfl (Nat.le_of_ble_eq_true rfl)
  have ne20 : a1 ≠ b13_0 := Nat.ne_of_lt (Nat.lt_of_lt_of_le H7.lt lo13_1)
  have f21 := (f13_2.other W14 (Or.inl ne20))
  have f22 := (f13_3.wr W14)
  obtain ⟨T23, h23, X23, e23, W23, st23⟩ := putF X14 hx hZ hown (host := "") (Or.inl (ow hw 66 rfl)) Via.refl e14 f21 f22 (Or.inl (ow hw 67 rfl)) (ow hw 9 rfl) (ty := .int) (by decide) rfl rfl (g := (mkF m 19 #[rv a1, rv a2, rv b13_0, iv (0 : Int32)] [(.int (1 : Int32)), (.ref a1)])) rfl rfl (hb hby d6_19)
  have O_W23 : Old Z n0 h23 := O_W14.wr W23 H11
  have Kp_W23 : Keep h0 h23 [a1] := Kp_W14.wr W23 (Or.inl (List.mem_of_getElem? (i := 0) rfl))
  have N24 := Fr.snoc X23 N19 H11
  have f25 := f21.same W23
  have f26 := (f22.wr W23)
  have f27 := ((f13_4.other W14 (Or.inl ne20)).other W23 (Or.inr (slot_ne (Or.inl (ow hw 33 rfl)) (Or.inl (ow hw 67 rfl)) (by decide) (t := (.array (.object "java/lang/Object"))) (t' := .int) (by decide) (by decide))))
  have f28 := ((f13_5.other W14 (Or.inl ne20)).other W23 (Or.inr (slot_ne (Or.inl (ow hw 30 rfl)) (Or.inl (ow hw 67 rfl)) (by decide) (t := .int) (t' := .int) (by decide) (by decide))))
  have f29 := (f16.other W23 (Ne.symm ne20))
  have f30 := ((f13_7.wr W14).wr W23)
  have f31 := f13_8
  obtain ⟨fs, hr, hrun, hended, hW, hsame⟩ := X23.leave (v := none) (fun _ => rfl)
  refine ⟨_, _, pre0 _ ?_, hrun, hended, _, _, rfl, ?_, ⟨_, rfl⟩, hW, hsame.mono (by decide) (by decide)⟩
  · show St p e below s₁ m 0 #[rv a1, rv a2, rv a3, iv (0 : Int32)] [] _
    refine XS.iloadN X0.here hx rfl (hb hby d6_0) rfl ?_
    show St p e below s₁ m 1 #[rv a1, rv a2, rv a3, iv (0 : Int32)] [(.int (0 : Int32))] _
    refine XS.aloadN X0.here hx rfl (hb hby d6_1) rfl rfl ?_
    show St p e below s₁ m 2 #[rv a1, rv a2, rv a3, iv (0 : Int32)] [(.ref a3), (.int (0 : Int32))] _
    refine X0.arraylength hx (by rw [e0]; exact Ar6.1) (State.isArrayOf_alike hZ.alike Ar6.2.1) (g := (mkF m 2 #[rv a1, rv a2, rv a3, iv (0 : Int32)] [(.ref a3), (.int (0 : Int32))])) rfl rfl (hb hby d6_2) _ ?_
    rw [len_of S6 M6]
    show St p e below s₁ m 3 #[rv a1, rv a2, rv a3, iv (0 : Int32)] [(.int (0 : Int32)), (.int (0 : Int32))] _
    refine XS.icmpNo X0.here hx rfl (hb hby d6_3) rfl (teq (rfl : (0 : Int32) = (0 : Int32))).2 ?_
    show St p e below s₁ m 6 #[rv a1, rv a2, rv a3, iv (0 : Int32)] [] _
    refine XS.aloadN X0.here hx rfl (hb hby d6_6) rfl rfl ?_
    show St p e below s₁ m 7 #[rv a1, rv a2, rv a3, iv (0 : Int32)] [(.ref a1)] _
    refine st13.trans ?_
    show St p e below T13 m 10 #[rv a1, rv a2, rv a3, iv (0 : Int32)] [(.ref b13_0)] _
    refine XS.astoreN X13.here hx rfl (hb hby d6_10) rfl rfl (l' := #[rv a1, rv a2, rv b13_0, iv (0 : Int32)]) rfl ?_
    show St p e below T13 m 11 #[rv a1, rv a2, rv b13_0, iv (0 : Int32)] [] _
    refine XS.aloadN X13.here hx rfl (hb hby d6_11) rfl rfl ?_
    show St p e below T13 m 12 #[rv a1, rv a2, rv b13_0, iv (0 : Int32)] [(.ref b13_0)] _
    refine XS.iloadN X13.here hx rfl (hb hby d6_12) rfl ?_
    show St p e below T13 m 13 #[rv a1, rv a2, rv b13_0, iv (0 : Int32)] [(.int (0 : Int32)), (.ref b13_0)] _
    refine XS.aloadN X13.here hx rfl (hb hby d6_13) rfl rfl ?_
    show St p e below T13 m 14 #[rv a1, rv a2, rv b13_0, iv (0 : Int32)] [(.ref a2), (.int (0 : Int32)), (.ref b13_0)] _
    refine st14 _ ?_
    show St p e below T14 m 15 #[rv a1, rv a2, rv b13_0, iv (0 : Int32)] [] _
    refine XS.aloadN X14.here hx rfl (hb hby d6_15) rfl rfl ?_
    show St p e below T14 m 16 #[rv a1, rv a2, rv b13_0, iv (0 : Int32)] [(.ref a1)] _
    refine XS.iloadN X14.here hx rfl (hb hby d6_16) rfl ?_
    show St p e below T14 m 17 #[rv a1, rv a2, rv b13_0, iv (0 : Int32)] [(.int (0 : Int32)), (.ref a1)] _
    refine XS.iconst X14.here hx rfl (hb hby d6_17) ?_
    show St p e below T14 m 18 #[rv a1, rv a2, rv b13_0, iv (0 : Int32)] [(.int (1 : Int32)), (.int (0 : Int32)), (.ref a1)] _
    refine XS.iadd X14.here hx rfl (hb hby d6_18) rfl ?_
    show St p e below T14 m 19 #[rv a1, rv a2, rv b13_0, iv (0 : Int32)] [(.int (1 : Int32)), (.ref a1)] _
    refine st23 _ ?_
    show St p e below T23 m 22 #[rv a1, rv a2, rv b13_0, iv (0 : Int32)] [] _
    exact X23.returnOut hx Bd.returns (hb hby d6_22) hr
  · show r6_1Q Z a1 a2 a3 k4 h0 n0 _ T23.heap _
    rw [e23]
    exact ⟨b13_0, k13_0, rfl, N24, Kp_W23, z18, f26, f25, f27, f28, f29, f30, f31⟩
theorem pd__Ljava_lang_Object__Ljava_lang_Object_I_V : parseMethodDescriptor "(Ljava/lang/Object;[Ljava/lang/Object;I)V" = some ⟨[(.object "java/lang/Object"), (.array (.object "java/lang/Object")), .int], none⟩ := by decide +kernel
theorem d5_23 : decode jdk_38_method_25_code 23 = .ok (.iconst 1, 1) := by decide +kernel
theorem d5_24 : decode jdk_38_method_25_code 24 = .ok (.ireturn, 1) := by decide +kernel
abbrev y5 : MethodName := ⟨"java/util/ArrayList", "add", "(Ljava/lang/Object;)Z"⟩
def r5_1Q (Z : State) (a1 : Addr) (a2 : Addr) (a10 : Addr) (k18 : ClassId) (h0 : Heap) (n0 : Nat) (v : Option Value) (h : Heap) (L : List Loc) : Prop := ∃ (b22_0 : Addr) (k22_0 : ClassId), v = some (.int (1 : Int32)) ∧ Fr n0 L ∧ Keep h0 h [a1] ∧ h0.size ≤ b22_0 ∧ Fld Z h a1 "java/util/AbstractList" "modCount" "I" (.int (1 : Int32)) ∧ Exa Z h a1 "java/util/ArrayList" ∧ Fld Z h a1 "java/util/ArrayList" "elementData" "[Ljava/lang/Object;" (.ref b22_0) ∧ Fld Z h a1 "java/util/ArrayList" "size" "I" (.int (1 : Int32)) ∧ Arv Z h b22_0 k22_0 (.object "java/lang/Object") (10 : Int32) [(.ref a2), .null, .null, .null, .null, .null, .null, .null, .null, .null] .null ∧ Exa Z h b22_0 "[Ljava/lang/Object;" ∧ Ovr Z k22_0 "java/lang/Object"
theorem r5_1e (m : MethodId) (a1 : Addr) (a2 : Addr) (a10 : Addr) (k18 : ClassId) : entryFrame m #[(.ref a1), (.ref a2)] 2 = mkF m 0 #[rv a1, rv a2] [] := by first | (simp [entryFrame, mkF, argsToLocals, Value.category]; done) | rfl
set_option maxRecDepth 65536 in
set_option maxHeartbeats 40000000 in
theorem r5_1 (l : Launch) (Z : State) (a0 : Array Value) (hw : HW a0 Z) (ws : List Jvm.Cond) (a1 : Addr) (a2 : Addr) (a10 : Addr) (k18 : ClassId) (h0 : Heap) (n0 : Nat) (O0 : Old Z n0 h0) (H3 : Fld Z h0 a1 "java/util/AbstractList" "modCount" "I" (.int (0 : Int32))) (H5 : Exa Z h0 a1 "java/util/ArrayList") (H7 : n0 ≤ a1) (H11 : Fld Z h0 a1 "java/util/ArrayList" "elementData" "[Ljava/lang/Object;" (.ref a10)) (H15 : Fld Z h0 a1 "java/util/ArrayList" "size" "I" (.int (0 : Int32))) (H19 : Arv Z Z.heap a10 k18 (.object "java/lang/Object") (0 : Int32) [] .null) (H20 : Sta Z Z.heap "java/util/ArrayList" "DEFAULTCAPACITY_EMPTY_ELEMENTDATA" "[Ljava/lang/Object;" (.ref a10)) (H21 : Exa Z Z.heap a2 "com/example/virtaus/virtaus/analysis/Analysis") :
    MF l y5 jdk_38_method_25_code 2 (some .boolean) ws ({ frames := 4, cells := 1, slots := 10, locals := 56 } : Room) Z #[(.ref a1), (.ref a2)] h0 (r5_1Q Z a1 a2 a10 k18 h0 n0) := by
  refine MetFree.of_bodySF (plainFor_of_name pn_java_util_ArrayList) hisR ?_
  intro p e s m args below meth c s₁ Bd hml0 hP hK
  obtain ⟨rfl, hZ, hh⟩ := hP
  have hx := Bd.exec
  have hby := Bd.bytes
  have hml : c.maxLocals = 2 := hml0
  have hown : s.vm.findClass "java/util/ArrayList" = some m.cls := findClass_of_methodNamed Bd.named
  have hnm := (name_of_methodNamed Bd.named Bd.method).1
  have X0 : Stand p l e ({ frames := 4, cells := 1, slots := 10, locals := 56 } : Room) s m #[(.ref a1), (.ref a2)] below meth c s₁ [] 0 0 := Stand.of_body Bd
  have e0 : s₁.heap = h0 := by rw [← hh, Bd.state]; rfl
  have N0 := Fr.nil n0
  have pre0 : ∀ t, Steps p.tables e below (s₁.setTop (mkF m 0 #[rv a1, rv a2] [])) t → Steps p.tables e below (s₁.setTop (entryFrame m #[(.ref a1), (.ref a2)] 2)) t := fun t k => castTop (r5_1e m a1 a2 a10 k18) k
  obtain ⟨T4, X4, e4, st4⟩ := getF X0 hx hZ hown (host := "") (Or.inl (ow hw 64 rfl)) (Via.of (ow hw 65 rfl)) e0 H3 (g := (mkF m 2 #[rv a1, rv a2] [(.ref a1), (.ref a1)])) rfl rfl (hb hby d5_2)
  obtain ⟨T6, h6, X6, e6, W6, st6⟩ := putF X4 hx hZ hown (host := "") (Or.inl (ow hw 64 rfl)) (Via.of (ow hw 65 rfl)) e4 H3 H5 (Or.inl (ow hw 30 rfl)) (ow hw 9 rfl) (ty := .int) (by decide) rfl rfl (g := (mkF m 7 #[rv a1, rv a2] [(.int (1 : Int32)), (.ref a1)])) rfl rfl (hb hby d5_7)
  have O_W6 : Old Z n0 h6 := O0.wr W6 H7
  have Kp_W6 : Keep h0 h6 [a1] := (Keep.refl h0 [a1]).wr W6 (Or.inl (List.mem_of_getElem? (i := 0) rfl))
  have N8 := Fr.snoc X6 N0 H7
  have f9 := H3.same W6
  have f12 := (H5.wr W6)
  have f13 := (H11.other W6 (Or.inr (slot_ne (Or.inl (ow hw 33 rfl)) (Or.inl (ow hw 30 rfl)) (by decide) (t := (.array (.object "java/lang/Object"))) (t' := .int) (by decide) (by decide))))
  obtain ⟨T14, X14, e14, st14⟩ := getF X6 hx hZ hown (host := "") (Or.inl (ow hw 32 rfl)) Via.refl e6 f13 (g := (mkF m 13 #[rv a1, rv a2] [(.ref a1), (.ref a2), (.ref a1)])) rfl rfl (hb hby d5_13)
  have f16 := (H15.other W6 (Or.inr (slot_ne (Or.inl (ow hw 67 rfl)) (Or.inl (ow hw 30 rfl)) (by decide) (t := .int) (t' := .int) (by decide) (by decide))))
  obtain ⟨T17, X17, e17, st17⟩ := getF X14 hx hZ hown (host := "") (Or.inl (ow hw 66 rfl)) Via.refl e14 f16 (g := (mkF m 17 #[rv a1, rv a2] [(.ref a1), (.ref a10), (.ref a2), (.ref a1)])) rfl rfl (hb hby d5_17)
  obtain ⟨cq22, q22, q22'⟩ := f12.cell
  obtain ⟨_, _, ⟨T22, L22, k22, n22⟩, -, X22, ⟨Lc22, hQ22, l22, y22, z22⟩, st22⟩ := X17.privateBack hx (y := y6) hown (mvT hZ (ow hw 68 rfl)) (mvT hZ (ow hw 69 rfl)) (mvT hZ (ow hw 71 rfl)) (Cond.privateMethod_at (mvP hZ (ow hw 70 rfl) (args := #[]))) (mvT hZ (ow hw 72 rfl)) (by decide) (backOf (W := 0) (r6_1 l Z a0 hw [] a1 a2 a10 k18 h6 n0 O_W6 H19 f12 f16 f13 H20 H7 f9 H21) hZ (ow hw 72 rfl) (ow hw 10 rfl) (by decide) (by decide)) (g := (mkF m 20 #[rv a1, rv a2] [(.int (0 : Int32)), (.ref a10), (.ref a2), (.ref a1)])) rfl (by rw [hml]; rfl) (Steps.refl _) (a := a1) (by rw [e17]; exact q22) q22' (argsL := [(.ref a2), (.ref a10), (.int (0 : Int32))]) (rest := []) (lenOf pd__Ljava_lang_Object__Ljava_lang_Object_I_V rfl) rfl (by show 2 * 0 + _ ≤ _; exact Nat.le_of_eq rfl) (hb hby d5_20) (fun _ _ => ⟨rfl, e17, (by decide : 0 + 1 ≤ _), (by decide : 0 + 10 ≤ _)⟩)
  dsimp only [Pt.U, Pt.locs, Pt.cells, Pt.slots] at X22 l22 y22 z22 st22 hQ22
  subst l22 y22 z22
  obtain ⟨b22_0, k22_0, rfl, N22q, K22, lo22_1, f22_2, f22_3, f22_4, f22_5, f22_6, f22_7, f22_8⟩ := hQ22
  have N22 := Fr.app N8 N22q
  have O_K22 : Old Z n0 T22.heap := O_W6.keep K22 (allS H7 all0)
  have Kp_K22 : Keep h0 T22.heap [a1] := Kp_W6.trans K22 (allS (Or.inl (List.mem_of_getElem? (i := 0) rfl)) all0)
  have z23 : h0.size ≤ b22_0 := Nat.le_trans Kp_W6.1 lo22_1
  obtain ⟨fs, hr, hrun, hended, hW, hsame⟩ := X22.leave (v := some (.int (1 : Int32))) (fun h => by rw [Bd.returns] at h; cases h)
  refine ⟨_, _, pre0 _ ?_, hrun, hended, _, _, rfl, ?_, ⟨_, rfl⟩, hW, hsame.mono (by decide) (by decide)⟩
  · show St p e below s₁ m 0 #[rv a1, rv a2] [] _
    refine XS.aloadN X0.here hx rfl (hb hby d5_0) rfl rfl ?_
    show St p e below s₁ m 1 #[rv a1, rv a2] [(.ref a1)] _
    refine XS.dup X0.here hx rfl (hb hby d5_1) rfl rfl ?_
    show St p e below s₁ m 2 #[rv a1, rv a2] [(.ref a1), (.ref a1)] _
    refine st4 _ ?_
    show St p e below T4 m 5 #[rv a1, rv a2] [(.int (0 : Int32)), (.ref a1)] _
    refine XS.iconst X4.here hx rfl (hb hby d5_5) ?_
    show St p e below T4 m 6 #[rv a1, rv a2] [(.int (1 : Int32)), (.int (0 : Int32)), (.ref a1)] _
    refine XS.iadd X4.here hx rfl (hb hby d5_6) rfl ?_
    show St p e below T4 m 7 #[rv a1, rv a2] [(.int (1 : Int32)), (.ref a1)] _
    refine st6 _ ?_
    show St p e below T6 m 10 #[rv a1, rv a2] [] _
    refine XS.aloadN X6.here hx rfl (hb hby d5_10) rfl rfl ?_
    show St p e below T6 m 11 #[rv a1, rv a2] [(.ref a1)] _
    refine XS.aloadN X6.here hx rfl (hb hby d5_11) rfl rfl ?_
    show St p e below T6 m 12 #[rv a1, rv a2] [(.ref a2), (.ref a1)] _
    refine XS.aloadN X6.here hx rfl (hb hby d5_12) rfl rfl ?_
    show St p e below T6 m 13 #[rv a1, rv a2] [(.ref a1), (.ref a2), (.ref a1)] _
    refine st14 _ ?_
    show St p e below T14 m 16 #[rv a1, rv a2] [(.ref a10), (.ref a2), (.ref a1)] _
    refine XS.aloadN X14.here hx rfl (hb hby d5_16) rfl rfl ?_
    show St p e below T14 m 17 #[rv a1, rv a2] [(.ref a1), (.ref a10), (.ref a2), (.ref a1)] _
    refine st17 _ ?_
    show St p e below T17 m 20 #[rv a1, rv a2] [(.int (0 : Int32)), (.ref a10), (.ref a2), (.ref a1)] _
    refine st22.trans ?_
    show St p e below T22 m 23 #[rv a1, rv a2] [] _
    refine XS.iconst X22.here hx rfl (hb hby d5_23) ?_
    show St p e below T22 m 24 #[rv a1, rv a2] [(.int (1 : Int32))] _
    exact retN X22 hx (t := .boolean) Bd.returns (by simp) (hb hby d5_24) hr
  · show r5_1Q Z a1 a2 a10 k18 h0 n0 _ T22.heap _
    exact ⟨b22_0, k22_0, rfl, N22, Kp_K22, z23, f22_5, f22_2, f22_4, f22_3, f22_6, f22_7, f22_8⟩
theorem pd__Ljava_lang_Object__Z : parseMethodDescriptor "(Ljava/lang/Object;)Z" = some ⟨[(.object "java/lang/Object")], some .boolean⟩ := by decide +kernel
abbrev y10 : MethodName := ⟨"java/util/List", "add", "(Ljava/lang/Object;)Z"⟩
theorem d0_47 : decode prog_2_method_7_code 47 = .ok (.pop, 1) := by decide +kernel
theorem d0_48 : decode prog_2_method_7_code 48 = .ok (.iinc 4 1, 3) := by decide +kernel
theorem d0_51 : decode prog_2_method_7_code 51 = .ok (.goto (-33), 3) := by decide +kernel
theorem d0_54 : decode prog_2_method_7_code 54 = .ok (.aload_n 1, 1) := by decide +kernel
theorem d0_55 : decode prog_2_method_7_code 55 = .ok (.areturn, 1) := by decide +kernel
abbrev y0 : MethodName := ⟨"com/example/virtaus/virtaus/analysis/Analysis", "availableFor", "(Lcom/example/virtaus/virtaus/network/Multiplexing;)Ljava/util/List;"⟩
def r0_1Q (Z : State) (a1 : Addr) (a7 : Addr) (a11 : Addr) (k13 : ClassId) (a14 : Addr) (a15 : Addr) (a16 : Addr) (a17 : Addr) (k29 : ClassId) (a36 : Addr) (a44 : Addr) (h0 : Heap) (n0 : Nat) (v : Option Value) (h : Heap) (L : List Loc) : Prop := ∃ (b2 : Addr) (b32_0 : Addr) (k32_0 : ClassId), v = some (.ref b2) ∧ Fr n0 L ∧ Keep h0 h [] ∧ h0.size ≤ b2 ∧ h0.size ≤ b32_0 ∧ b2 ≠ b32_0 ∧ Exa Z h b2 "java/util/ArrayList" ∧ Fld Z h b2 "java/util/AbstractList" "modCount" "I" (.int (1 : Int32)) ∧ Fld Z h b2 "java/util/ArrayList" "elementData" "[Ljava/lang/Object;" (.ref b32_0) ∧ Fld Z h b2 "java/util/ArrayList" "size" "I" (.int (1 : Int32)) ∧ Arv Z h b32_0 k32_0 (.object "java/lang/Object") (10 : Int32) [(.ref a14), .null, .null, .null, .null, .null, .null, .null, .null, .null] .null ∧ Exa Z h b32_0 "[Ljava/lang/Object;" ∧ Ovr Z k32_0 "java/lang/Object"
theorem r0_1e (m : MethodId) (a1 : Addr) (a7 : Addr) (a11 : Addr) (k13 : ClassId) (a14 : Addr) (a15 : Addr) (a16 : Addr) (a17 : Addr) (k29 : ClassId) (a36 : Addr) (a44 : Addr) : entryFrame m #[(.ref a1)] 6 = mkF m 0 #[rv a1, .unset, .unset, .unset, .unset, .unset] [] := by first | (simp [entryFrame, mkF, argsToLocals, Value.category]; done) | rfl
set_option maxRecDepth 65536 in
set_option maxHeartbeats 40000000 in
theorem r0_1 (l : Launch) (Z : State) (a0 : Array Value) (hw : HW a0 Z) (ws : List Jvm.Cond) (a1 : Addr) (a7 : Addr) (a11 : Addr) (k13 : ClassId) (a14 : Addr) (a15 : Addr) (a16 : Addr) (a17 : Addr) (k29 : ClassId) (a36 : Addr) (a44 : Addr) (h0 : Heap) (n0 : Nat) (O0 : Old Z n0 h0) (H8 : Sta Z Z.heap "java/util/ArrayList" "DEFAULTCAPACITY_EMPTY_ELEMENTDATA" "[Ljava/lang/Object;" (.ref a7)) (H12 : Sta Z Z.heap "com/example/virtaus/virtaus/analysis/Analysis" "$VALUES" "[Lcom/example/virtaus/virtaus/analysis/Analysis;" (.ref a11)) (H18 : Arv Z Z.heap a11 k13 (.object "com/example/virtaus/virtaus/analysis/Analysis") (4 : Int32) [(.ref a14), (.ref a15), (.ref a16), (.ref a17)] .null) (H19 : Exa Z Z.heap a11 "[Lcom/example/virtaus/virtaus/analysis/Analysis;") (H23 : Fld Z Z.heap a14 "com/example/virtaus/virtaus/analysis/Analysis" "multiplexing" "Lcom/example/virtaus/virtaus/network/Multiplexing;" (.ref a1)) (H30 : Arv Z Z.heap a7 k29 (.object "java/lang/Object") (0 : Int32) [] .null) (H31 : Exa Z Z.heap a14 "com/example/virtaus/virtaus/analysis/Analysis") (H37 : Fld Z Z.heap a15 "com/example/virtaus/virtaus/analysis/Analysis" "multiplexing" "Lcom/example/virtaus/virtaus/network/Multiplexing;" (.ref a36)) (H39 : a36 ≠ a1) (H41 : Fld Z Z.heap a16 "com/example/virtaus/virtaus/analysis/Analysis" "multiplexing" "Lcom/example/virtaus/virtaus/network/Multiplexing;" (.ref a36)) (H45 : Fld Z Z.heap a17 "com/example/virtaus/virtaus/analysis/Analysis" "multiplexing" "Lcom/example/virtaus/virtaus/network/Multiplexing;" (.ref a44)) (H47 : a44 ≠ a1) :
    MF l y0 prog_2_method_7_code 6 (some (.object "java/util/List")) ws ({ frames := 5, cells := 3, slots := 17, locals := 69 } : Room) Z #[(.ref a1)] h0 (r0_1Q Z a1 a7 a11 k13 a14 a15 a16 a17 k29 a36 a44 h0 n0) := by
  refine MetFree.of_bodySF (plainFor_of_name pn_com_example_virtaus_virtaus_analysis_Analysis) hisR ?_
  intro p e s m args below meth c s₁ Bd hml0 hP hK
  obtain ⟨rfl, hZ, hh⟩ := hP
  have hx := Bd.exec
  have hby := Bd.bytes
  have hml : c.maxLocals = 6 := hml0
  have hown : s.vm.findClass "com/example/virtaus/virtaus/analysis/Analysis" = some m.cls := findClass_of_methodNamed Bd.named
  have hnm := (name_of_methodNamed Bd.named Bd.method).1
  have X0 : Stand p l e ({ frames := 5, cells := 3, slots := 17, locals := 69 } : Room) s m #[(.ref a1)] below meth c s₁ [] 0 0 := Stand.of_body Bd
  have e0 : s₁.heap = h0 := by rw [← hh, Bd.state]; rfl
  have N0 := Fr.nil n0
  have pre0 : ∀ t, Steps p.tables e below (s₁.setTop (mkF m 0 #[rv a1, .unset, .unset, .unset, .unset, .unset] [])) t → Steps p.tables e below (s₁.setTop (entryFrame m #[(.ref a1)] 6)) t := fun t k => castTop (r0_1e m a1 a7 a11 k13 a14 a15 a16 a17 k29 a36 a44) k
  obtain ⟨T2, h2, X2, e2, E2, A2, D2, -, st2⟩ := newO X0 hx hZ hown (ow hw 8 rfl) (ow hw 9 rfl) (ow hw 10 rfl) e0 (g := (mkF m 0 #[rv a1, .unset, .unset, .unset, .unset, .unset] [])) rfl (hb hby d0_0) (by decide) (by decide)
  obtain ⟨b2, g2⟩ : ∃ z, z = h0.size := ⟨_, rfl⟩
  rw [← g2] at A2 D2 st2
  have O_E2 : Old Z n0 h2 := O0.ext E2
  have Kp_E2 : Keep h0 h2 [] := (Keep.refl h0 []).ext E2
  have f3 : Fld Z h2 b2 "java/util/AbstractList" "modCount" "I" (.int (0 : Int32)) := D2 (Or.inl (ow hw 30 rfl)) (ty := .int) (by decide)
  have g4 : n0 ≤ b2 := Nat.le_trans (Nat.le_trans (Nat.le_of_eq O0.1.symm) O0.2.1) (Nat.le_of_eq g2.symm)
  have f5 : Fld Z h2 b2 "java/util/ArrayList" "elementData" "[Ljava/lang/Object;" .null := D2 (Or.inl (ow hw 33 rfl)) (ty := (.array (.object "java/lang/Object"))) (by decide)
  have f6 : Fld Z h2 b2 "java/util/ArrayList" "size" "I" (.int (0 : Int32)) := D2 (Or.inl (ow hw 67 rfl)) (ty := .int) (by decide)
  obtain ⟨_, _, ⟨T9, L9, k9, n9⟩, -, X9, ⟨Lc9, hQ9, l9, y9, z9⟩, st9⟩ := X2.specialBack hx (y := y1) rfl hown (mvT hZ (ow hw 11 rfl)) (mvT hZ (ow hw 12 rfl)) (mvT hZ (ow hw 13 rfl)) (by decide) (backOf (W := 1) (r1_1 l Z a0 hw [] b2 a7 h2 n0 O_E2 f3 A2 g4 f5 f6 H8) hZ (ow hw 13 rfl) (ow hw 10 rfl) (by decide) (by decide)) (g := (mkF m 4 #[rv a1, .unset, .unset, .unset, .unset, .unset] [(.ref b2), (.ref b2)])) rfl (by rw [hml]; rfl) (Steps.refl _) (a := b2) (argsL := []) (rest := [(.ref b2)]) (lenOf pd___V rfl) rfl (by show 2 * 0 + _ ≤ _; exact Nat.le_of_eq rfl) (hb hby d0_4) (fun _ _ => ⟨rfl, e2, (by decide : 1 + 0 ≤ _), (by decide : 3 + 0 ≤ _)⟩)
  dsimp only [Pt.U, Pt.locs, Pt.cells, Pt.slots] at X9 l9 y9 z9 st9 hQ9
  subst l9 y9 z9
  obtain ⟨rfl, N9q, K9, f9_1, f9_2, f9_3, f9_4⟩ := hQ9
  have N9 := Fr.app N0 N9q
  have z10 : h0.size ≤ b2 := Nat.le_trans (Keep.refl h0 []).1 (Nat.le_of_eq g2.symm)
  have O_K9 : Old Z n0 T9.heap := O_E2.keep K9 (allS g4 all0)
  have Kp_K9 : Keep h0 T9.heap [] := Kp_E2.trans K9 (allS (Or.inr z10) all0)
  obtain ⟨_, _, ⟨T20, L20, k20, n20⟩, -, X20, ⟨Lc20, hQ20, l20, y20, z20⟩, st20⟩ := Jvm.LawKit.callS X9 hx (y := y4) hown (mvT hZ (ow hw 34 rfl)) (mvT hZ (ow hw 35 rfl)) (mvT hZ (ow hw 6 rfl)) (mvT hZ (ow hw 36 rfl)) (by decide) (backOf (W := 0) (r4_1 l Z a0 hw [] a11 k13 a14 a15 a16 a17 T9.heap n0 O_K9 H12 H18 H19) hZ (ow hw 36 rfl) (ow hw 6 rfl) (by decide) (by decide)) (g := (mkF m 8 #[rv a1, rv b2, .unset, .unset, .unset, .unset] [])) rfl (by rw [hml]; rfl) (argsL := []) (rest := []) (lenOf pd____Lcom_example_virtaus_virtaus_analysis_Analysis_ rfl) rfl (by show 2 * 0 + _ ≤ _; exact Nat.le_of_eq rfl) (hb hby d0_8) (fun _ _ => ⟨rfl, rfl, (by decide : 1 + 1 ≤ _), (by decide : 3 + 4 ≤ _)⟩)
  dsimp only [Pt.U, Pt.locs, Pt.cells, Pt.slots] at X20 l20 y20 z20 st20 hQ20
  subst l20 y20 z20
  obtain ⟨b20_0, rfl, N20q, K20, lo20_1, f20_2, f20_3⟩ := hQ20
  have N20 := Fr.app N9 N20q
  have O_K20 : Old Z n0 T20.heap := O_K9.keep K20 all0
  have Kp_K20 : Keep h0 T20.heap [] := Kp_K9.trans K20 all0
  obtain ⟨cl21, Ar21, q21, S21, M21, H21, G21⟩ := id f20_2
  obtain ⟨cl22, Ar22, q22, S22, M22, H22, G22⟩ := id f20_2
  have hin22 : ¬ ((0 : Int32) < 0 ∨ cl22.slots.size ≤ ((0 : Int32)).toNatClampNeg) := inb_of S22 ⟨by decide, by decide⟩
  obtain ⟨T24, X24, e24, st24⟩ := getF X20 hx hZ hown (host := "") (Or.inl (ow hw 53 rfl)) Via.refl rfl (H23.ext O_K20.2) (g := (mkF m 32 #[rv a1, rv b2, rv b20_0, iv (4 : Int32), iv (0 : Int32), rv a14] [(.ref a14)])) rfl rfl (hb hby d0_32)
  have f25 := (f9_2.keep K20)
  have f26 := (f9_1.keep K20 nin0)
  have f27 := (f9_3.keep K20 nin0)
  have f28 := (f9_4.keep K20 nin0)
  obtain ⟨cq32, kq32, q32a, q32b, q32c⟩ := isOf hZ e24 f25
  obtain ⟨_, _, ⟨T32, L32, k32, n32⟩, -, X32, ⟨Lc32, hQ32, l32, y32, z32⟩, st32⟩ := X24.interfaceBack hx (xi := y10) (y := y5) hown (mvT hZ (ow hw 55 rfl)) (mvT hZ (ow hw 56 rfl)) (mvT hZ (ow hw 57 rfl)) (mvT hZ (ow hw 58 rfl)) (mvT hZ (ow hw 59 rfl)) (mvT hZ (ow hw 60 rfl)) (mvT hZ (ow hw 61 rfl)) (mvT hZ (ow hw 62 rfl)) (by decide) (backOf (W := 0) (r5_1 l Z a0 hw [] b2 a14 a7 k29 T20.heap n0 O_K20 f26 f25 g4 f27 f28 H30 H8 H31) hZ (ow hw 63 rfl) (ow hw 10 rfl) (by decide) (by decide)) q32a q32b q32c (g := (mkF m 42 #[rv a1, rv b2, rv b20_0, iv (4 : Int32), iv (0 : Int32), rv a14] [(.ref a14), (.ref b2)])) rfl (by rw [hml]; rfl) (Steps.refl _) (argsL := [(.ref a14)]) (rest := []) (lenOf pd__Ljava_lang_Object__Z rfl) rfl (by show 2 * 0 + _ ≤ _; exact Nat.le_of_eq rfl) (hb hby d0_42) (fun _ _ => ⟨rfl, e24, (by decide : 2 + 1 ≤ _), (by decide : 7 + 10 ≤ _)⟩)
  dsimp only [Pt.U, Pt.locs, Pt.cells, Pt.slots] at X32 l32 y32 z32 st32 hQ32
  subst l32 y32 z32
  obtain ⟨b32_0, k32_0, rfl, N32q, K32, lo32_1, f32_2, f32_3, f32_4, f32_5, f32_6, f32_7, f32_8⟩ := hQ32
  have N32 := Fr.app N20 N32q
  have O_K32 : Old Z n0 T32.heap := O_K20.keep K32 (allS g4 all0)
  have Kp_K32 : Keep h0 T32.heap [] := Kp_K20.trans K32 (allS (Or.inr z10) all0)
  have ne33 : b2 ≠ b20_0 := Nat.ne_of_lt (Nat.lt_of_lt_of_le (A2.keep K9).lt lo20_1)
  have f34 := (f20_2.keep K32 (ninS (Ne.symm ne33) nin0))
  obtain ⟨cl35, Ar35, q35, S35, M35, H35, G35⟩ := id f34
  have hin35 : ¬ ((1 : Int32) < 0 ∨ cl35.slots.size ≤ ((1 : Int32)).toNatClampNeg) := inb_of S35 ⟨by decide, by decide⟩
  obtain ⟨T38, X38, e38, st38⟩ := getF X32 hx hZ hown (host := "") (Or.inl (ow hw 53 rfl)) Via.refl rfl (H37.ext O_K32.2) (g := (mkF m 32 #[rv a1, rv b2, rv b20_0, iv (4 : Int32), iv (1 : Int32), rv a15] [(.ref a15)])) rfl rfl (hb hby d0_32)
  obtain ⟨cl40, Ar40, q40, S40, M40, H40, G40⟩ := id f34
  have hin40 : ¬ ((2 : Int32) < 0 ∨ cl40.slots.size ≤ ((2 : Int32)).toNatClampNeg) := inb_of S40 ⟨by decide, by decide⟩
  obtain ⟨T42, X42, e42, st42⟩ := getF X38 hx hZ hown (host := "") (Or.inl (ow hw 53 rfl)) Via.refl e38 (H41.ext O_K32.2) (g := (mkF m 32 #[rv a1, rv b2, rv b20_0, iv (4 : Int32), iv (2 : Int32), rv a16] [(.ref a16)])) rfl rfl (hb hby d0_32)
  obtain ⟨cl43, Ar43, q43, S43, M43, H43, G43⟩ := id f34
  have hin43 : ¬ ((3 : Int32) < 0 ∨ cl43.slots.size ≤ ((3 : Int32)).toNatClampNeg) := inb_of S43 ⟨by decide, by decide⟩
  obtain ⟨T46, X46, e46, st46⟩ := getF X42 hx hZ hown (host := "") (Or.inl (ow hw 53 rfl)) Via.refl e42 (H45.ext O_K32.2) (g := (mkF m 32 #[rv a1, rv b2, rv b20_0, iv (4 : Int32), iv (3 : Int32), rv a17] [(.ref a17)])) rfl rfl (hb hby d0_32)
  have z48 : h0.size ≤ b32_0 := Nat.le_trans Kp_K20.1 lo32_1
  have ne49 : b2 ≠ b32_0 := Nat.ne_of_lt (Nat.lt_of_lt_of_le ((A2.keep K9).keep K20).lt lo32_1)
  obtain ⟨fs, hr, hrun, hended, hW, hsame⟩ := X46.leave (v := some (.ref b2)) (fun h => by rw [Bd.returns] at h; cases h)
  refine ⟨_, _, pre0 _ ?_, hrun, hended, _, _, rfl, ?_, ⟨_, rfl⟩, hW, hsame.mono (by decide) (by decide)⟩
  · show St p e below s₁ m 0 #[rv a1, .unset, .unset, .unset, .unset, .unset] [] _
    refine st2 _ ?_
    show St p e below T2 m 3 #[rv a1, .unset, .unset, .unset, .unset, .unset] [(.ref b2)] _
    refine XS.dup X2.here hx rfl (hb hby d0_3) rfl rfl ?_
    show St p e below T2 m 4 #[rv a1, .unset, .unset, .unset, .unset, .unset] [(.ref b2), (.ref b2)] _
    refine st9.trans ?_
    show St p e below T9 m 7 #[rv a1, .unset, .unset, .unset, .unset, .unset] [(.ref b2)] _
    refine XS.astoreN X9.here hx rfl (hb hby d0_7) rfl rfl (l' := #[rv a1, rv b2, .unset, .unset, .unset, .unset]) rfl ?_
    show St p e below T9 m 8 #[rv a1, rv b2, .unset, .unset, .unset, .unset] [] _
    refine st20 _ ?_
    show St p e below T20 m 11 #[rv a1, rv b2, .unset, .unset, .unset, .unset] [(.ref b20_0)] _
    refine XS.astoreN X20.here hx rfl (hb hby d0_11) rfl rfl (l' := #[rv a1, rv b2, rv b20_0, .unset, .unset, .unset]) rfl ?_
    show St p e below T20 m 12 #[rv a1, rv b2, rv b20_0, .unset, .unset, .unset] [] _
    refine XS.aloadN X20.here hx rfl (hb hby d0_12) rfl rfl ?_
    show St p e below T20 m 13 #[rv a1, rv b2, rv b20_0, .unset, .unset, .unset] [(.ref b20_0)] _
    refine X20.arraylength hx Ar21.1 (State.isArrayOf_alike hZ.alike Ar21.2.1) (g := (mkF m 13 #[rv a1, rv b2, rv b20_0, .unset, .unset, .unset] [(.ref b20_0)])) rfl rfl (hb hby d0_13) _ ?_
    rw [len_of S21 M21]
    show St p e below T20 m 14 #[rv a1, rv b2, rv b20_0, .unset, .unset, .unset] [(.int (4 : Int32))] _
    refine XS.istoreN X20.here hx rfl (hb hby d0_14) rfl (l' := #[rv a1, rv b2, rv b20_0, iv (4 : Int32), .unset, .unset]) rfl ?_
    show St p e below T20 m 15 #[rv a1, rv b2, rv b20_0, iv (4 : Int32), .unset, .unset] [] _
    refine XS.iconst X20.here hx rfl (hb hby d0_15) ?_
    show St p e below T20 m 16 #[rv a1, rv b2, rv b20_0, iv (4 : Int32), .unset, .unset] [(.int (0 : Int32))] _
    refine XS.istore X20.here hx rfl (hb hby d0_16) rfl (l' := #[rv a1, rv b2, rv b20_0, iv (4 : Int32), iv (0 : Int32), .unset]) rfl ?_
    show St p e below T20 m 18 #[rv a1, rv b2, rv b20_0, iv (4 : Int32), iv (0 : Int32), .unset] [] _
    refine XS.iload X20.here hx rfl (hb hby d0_18) rfl ?_
    show St p e below T20 m 20 #[rv a1, rv b2, rv b20_0, iv (4 : Int32), iv (0 : Int32), .unset] [(.int (0 : Int32))] _
    refine XS.iloadN X20.here hx rfl (hb hby d0_20) rfl ?_
    show St p e below T20 m 21 #[rv a1, rv b2, rv b20_0, iv (4 : Int32), iv (0 : Int32), .unset] [(.int (4 : Int32)), (.int (0 : Int32))] _
    refine XS.icmpNo X20.here hx rfl (hb hby d0_21) rfl (tlt (by decide : (0 : Int32) < (4 : Int32))).2.1 ?_
    show St p e below T20 m 24 #[rv a1, rv b2, rv b20_0, iv (4 : Int32), iv (0 : Int32), .unset] [] _
    refine XS.aloadN X20.here hx rfl (hb hby d0_24) rfl rfl ?_
    show St p e below T20 m 25 #[rv a1, rv b2, rv b20_0, iv (4 : Int32), iv (0 : Int32), .unset] [(.ref b20_0)] _
    refine XS.iload X20.here hx rfl (hb hby d0_25) rfl ?_
    show St p e below T20 m 27 #[rv a1, rv b2, rv b20_0, iv (4 : Int32), iv (0 : Int32), .unset] [(.int (0 : Int32)), (.ref b20_0)] _
    refine X20.aaload hx (j := (0 : Int32)) (v := (.ref a14)) Ar22.1 (State.isArrayOf_alike hZ.alike Ar22.2.1) rfl Ar22.2.2 hin22 (Has.at H22 hin22 rfl) (g := (mkF m 27 #[rv a1, rv b2, rv b20_0, iv (4 : Int32), iv (0 : Int32), .unset] [(.int (0 : Int32)), (.ref b20_0)])) rfl rfl (hb hby d0_27) _ ?_
    show St p e below T20 m 28 #[rv a1, rv b2, rv b20_0, iv (4 : Int32), iv (0 : Int32), .unset] [(.ref a14)] _
    refine XS.astore X20.here hx rfl (hb hby d0_28) rfl rfl (l' := #[rv a1, rv b2, rv b20_0, iv (4 : Int32), iv (0 : Int32), rv a14]) rfl ?_
    show St p e below T20 m 30 #[rv a1, rv b2, rv b20_0, iv (4 : Int32), iv (0 : Int32), rv a14] [] _
    refine XS.aload X20.here hx rfl (hb hby d0_30) rfl rfl ?_
    show St p e below T20 m 32 #[rv a1, rv b2, rv b20_0, iv (4 : Int32), iv (0 : Int32), rv a14] [(.ref a14)] _
    refine st24 _ ?_
    show St p e below T24 m 35 #[rv a1, rv b2, rv b20_0, iv (4 : Int32), iv (0 : Int32), rv a14] [(.ref a1)] _
    refine XS.aloadN X24.here hx rfl (hb hby d0_35) rfl rfl ?_
    show St p e below T24 m 36 #[rv a1, rv b2, rv b20_0, iv (4 : Int32), iv (0 : Int32), rv a14] [(.ref a1), (.ref a1)] _
    refine Jvm.RoadKit.acmp (g := (mkF m 36 #[rv a1, rv b2, rv b20_0, iv (4 : Int32), iv (0 : Int32), rv a14] [(.ref a1), (.ref a1)])) X24 hx rfl rfl rfl (pc0 := 36) (pc' := 39) (same := true) rfl (hb hby d0_36) rfl (decide_eq_true rfl) (by decide) (by decide) ?_
    show St p e below T24 m 39 #[rv a1, rv b2, rv b20_0, iv (4 : Int32), iv (0 : Int32), rv a14] [] _
    refine XS.aloadN X24.here hx rfl (hb hby d0_39) rfl rfl ?_
    show St p e below T24 m 40 #[rv a1, rv b2, rv b20_0, iv (4 : Int32), iv (0 : Int32), rv a14] [(.ref b2)] _
    refine XS.aload X24.here hx rfl (hb hby d0_40) rfl rfl ?_
    show St p e below T24 m 42 #[rv a1, rv b2, rv b20_0, iv (4 : Int32), iv (0 : Int32), rv a14] [(.ref a14), (.ref b2)] _
    refine st32.trans ?_
    show St p e below T32 m 47 #[rv a1, rv b2, rv b20_0, iv (4 : Int32), iv (0 : Int32), rv a14] [(.int (1 : Int32))] _
    refine XS.pop X32.here hx rfl (hb hby d0_47) rfl rfl ?_
    show St p e below T32 m 48 #[rv a1, rv b2, rv b20_0, iv (4 : Int32), iv (0 : Int32), rv a14] [] _
    refine XS.iinc X32.here hx rfl (hb hby d0_48) rfl (l' := #[rv a1, rv b2, rv b20_0, iv (4 : Int32), iv (1 : Int32), rv a14]) rfl ?_
    show St p e below T32 m 51 #[rv a1, rv b2, rv b20_0, iv (4 : Int32), iv (1 : Int32), rv a14] [] _
    refine XS.goto X32.here hx rfl (pc0 := 51) (pc' := 18) rfl (hb hby d0_51) (by decide) (by decide) ?_
    show St p e below T32 m 18 #[rv a1, rv b2, rv b20_0, iv (4 : Int32), iv (1 : Int32), rv a14] [] _
    refine XS.iload X32.here hx rfl (hb hby d0_18) rfl ?_
    show St p e below T32 m 20 #[rv a1, rv b2, rv b20_0, iv (4 : Int32), iv (1 : Int32), rv a14] [(.int (1 : Int32))] _
    refine XS.iloadN X32.here hx rfl (hb hby d0_20) rfl ?_
    show St p e below T32 m 21 #[rv a1, rv b2, rv b20_0, iv (4 : Int32), iv (1 : Int32), rv a14] [(.int (4 : Int32)), (.int (1 : Int32))] _
    refine XS.icmpNo X32.here hx rfl (hb hby d0_21) rfl (tlt (by decide : (1 : Int32) < (4 : Int32))).2.1 ?_
    show St p e below T32 m 24 #[rv a1, rv b2, rv b20_0, iv (4 : Int32), iv (1 : Int32), rv a14] [] _
    refine XS.aloadN X32.here hx rfl (hb hby d0_24) rfl rfl ?_
    show St p e below T32 m 25 #[rv a1, rv b2, rv b20_0, iv (4 : Int32), iv (1 : Int32), rv a14] [(.ref b20_0)] _
    refine XS.iload X32.here hx rfl (hb hby d0_25) rfl ?_
    show St p e below T32 m 27 #[rv a1, rv b2, rv b20_0, iv (4 : Int32), iv (1 : Int32), rv a14] [(.int (1 : Int32)), (.ref b20_0)] _
    refine X32.aaload hx (j := (1 : Int32)) (v := (.ref a15)) Ar35.1 (State.isArrayOf_alike hZ.alike Ar35.2.1) rfl Ar35.2.2 hin35 (Has.at H35 hin35 rfl) (g := (mkF m 27 #[rv a1, rv b2, rv b20_0, iv (4 : Int32), iv (1 : Int32), rv a14] [(.int (1 : Int32)), (.ref b20_0)])) rfl rfl (hb hby d0_27) _ ?_
    show St p e below T32 m 28 #[rv a1, rv b2, rv b20_0, iv (4 : Int32), iv (1 : Int32), rv a14] [(.ref a15)] _
    refine XS.astore X32.here hx rfl (hb hby d0_28) rfl rfl (l' := #[rv a1, rv b2, rv b20_0, iv (4 : Int32), iv (1 : Int32), rv a15]) rfl ?_
    show St p e below T32 m 30 #[rv a1, rv b2, rv b20_0, iv (4 : Int32), iv (1 : Int32), rv a15] [] _
    refine XS.aload X32.here hx rfl (hb hby d0_30) rfl rfl ?_
    show St p e below T32 m 32 #[rv a1, rv b2, rv b20_0, iv (4 : Int32), iv (1 : Int32), rv a15] [(.ref a15)] _
    refine st38 _ ?_
    show St p e below T38 m 35 #[rv a1, rv b2, rv b20_0, iv (4 : Int32), iv (1 : Int32), rv a15] [(.ref a36)] _
    refine XS.aloadN X38.here hx rfl (hb hby d0_35) rfl rfl ?_
    show St p e below T38 m 36 #[rv a1, rv b2, rv b20_0, iv (4 : Int32), iv (1 : Int32), rv a15] [(.ref a1), (.ref a36)] _
    refine Jvm.RoadKit.acmp (g := (mkF m 36 #[rv a1, rv b2, rv b20_0, iv (4 : Int32), iv (1 : Int32), rv a15] [(.ref a1), (.ref a36)])) X38 hx rfl rfl rfl (pc0 := 36) (pc' := 48) (same := false) rfl (hb hby d0_36) rfl (decide_eq_false fun q => H39 (Value.ref.inj q)) (by decide) (by decide) ?_
    show St p e below T38 m 48 #[rv a1, rv b2, rv b20_0, iv (4 : Int32), iv (1 : Int32), rv a15] [] _
    refine XS.iinc X38.here hx rfl (hb hby d0_48) rfl (l' := #[rv a1, rv b2, rv b20_0, iv (4 : Int32), iv (2 : Int32), rv a15]) rfl ?_
    show St p e below T38 m 51 #[rv a1, rv b2, rv b20_0, iv (4 : Int32), iv (2 : Int32), rv a15] [] _
    refine XS.goto X38.here hx rfl (pc0 := 51) (pc' := 18) rfl (hb hby d0_51) (by decide) (by decide) ?_
    show St p e below T38 m 18 #[rv a1, rv b2, rv b20_0, iv (4 : Int32), iv (2 : Int32), rv a15] [] _
    refine XS.iload X38.here hx rfl (hb hby d0_18) rfl ?_
    show St p e below T38 m 20 #[rv a1, rv b2, rv b20_0, iv (4 : Int32), iv (2 : Int32), rv a15] [(.int (2 : Int32))] _
    refine XS.iloadN X38.here hx rfl (hb hby d0_20) rfl ?_
    show St p e below T38 m 21 #[rv a1, rv b2, rv b20_0, iv (4 : Int32), iv (2 : Int32), rv a15] [(.int (4 : Int32)), (.int (2 : Int32))] _
    refine XS.icmpNo X38.here hx rfl (hb hby d0_21) rfl (tlt (by decide : (2 : Int32) < (4 : Int32))).2.1 ?_
    show St p e below T38 m 24 #[rv a1, rv b2, rv b20_0, iv (4 : Int32), iv (2 : Int32), rv a15] [] _
    refine XS.aloadN X38.here hx rfl (hb hby d0_24) rfl rfl ?_
    show St p e below T38 m 25 #[rv a1, rv b2, rv b20_0, iv (4 : Int32), iv (2 : Int32), rv a15] [(.ref b20_0)] _
    refine XS.iload X38.here hx rfl (hb hby d0_25) rfl ?_
    show St p e below T38 m 27 #[rv a1, rv b2, rv b20_0, iv (4 : Int32), iv (2 : Int32), rv a15] [(.int (2 : Int32)), (.ref b20_0)] _
    refine X38.aaload hx (j := (2 : Int32)) (v := (.ref a16)) (by rw [e38]; exact Ar40.1) (State.isArrayOf_alike hZ.alike Ar40.2.1) rfl Ar40.2.2 hin40 (Has.at H40 hin40 rfl) (g := (mkF m 27 #[rv a1, rv b2, rv b20_0, iv (4 : Int32), iv (2 : Int32), rv a15] [(.int (2 : Int32)), (.ref b20_0)])) rfl rfl (hb hby d0_27) _ ?_
    show St p e below T38 m 28 #[rv a1, rv b2, rv b20_0, iv (4 : Int32), iv (2 : Int32), rv a15] [(.ref a16)] _
    refine XS.astore X38.here hx rfl (hb hby d0_28) rfl rfl (l' := #[rv a1, rv b2, rv b20_0, iv (4 : Int32), iv (2 : Int32), rv a16]) rfl ?_
    show St p e below T38 m 30 #[rv a1, rv b2, rv b20_0, iv (4 : Int32), iv (2 : Int32), rv a16] [] _
    refine XS.aload X38.here hx rfl (hb hby d0_30) rfl rfl ?_
    show St p e below T38 m 32 #[rv a1, rv b2, rv b20_0, iv (4 : Int32), iv (2 : Int32), rv a16] [(.ref a16)] _
    refine st42 _ ?_
    show St p e below T42 m 35 #[rv a1, rv b2, rv b20_0, iv (4 : Int32), iv (2 : Int32), rv a16] [(.ref a36)] _
    refine XS.aloadN X42.here hx rfl (hb hby d0_35) rfl rfl ?_
    show St p e below T42 m 36 #[rv a1, rv b2, rv b20_0, iv (4 : Int32), iv (2 : Int32), rv a16] [(.ref a1), (.ref a36)] _
    refine Jvm.RoadKit.acmp (g := (mkF m 36 #[rv a1, rv b2, rv b20_0, iv (4 : Int32), iv (2 : Int32), rv a16] [(.ref a1), (.ref a36)])) X42 hx rfl rfl rfl (pc0 := 36) (pc' := 48) (same := false) rfl (hb hby d0_36) rfl (decide_eq_false fun q => H39 (Value.ref.inj q)) (by decide) (by decide) ?_
    show St p e below T42 m 48 #[rv a1, rv b2, rv b20_0, iv (4 : Int32), iv (2 : Int32), rv a16] [] _
    refine XS.iinc X42.here hx rfl (hb hby d0_48) rfl (l' := #[rv a1, rv b2, rv b20_0, iv (4 : Int32), iv (3 : Int32), rv a16]) rfl ?_
    show St p e below T42 m 51 #[rv a1, rv b2, rv b20_0, iv (4 : Int32), iv (3 : Int32), rv a16] [] _
    refine XS.goto X42.here hx rfl (pc0 := 51) (pc' := 18) rfl (hb hby d0_51) (by decide) (by decide) ?_
    show St p e below T42 m 18 #[rv a1, rv b2, rv b20_0, iv (4 : Int32), iv (3 : Int32), rv a16] [] _
    refine XS.iload X42.here hx rfl (hb hby d0_18) rfl ?_
    show St p e below T42 m 20 #[rv a1, rv b2, rv b20_0, iv (4 : Int32), iv (3 : Int32), rv a16] [(.int (3 : Int32))] _
    refine XS.iloadN X42.here hx rfl (hb hby d0_20) rfl ?_
    show St p e below T42 m 21 #[rv a1, rv b2, rv b20_0, iv (4 : Int32), iv (3 : Int32), rv a16] [(.int (4 : Int32)), (.int (3 : Int32))] _
    refine XS.icmpNo X42.here hx rfl (hb hby d0_21) rfl (tlt (by decide : (3 : Int32) < (4 : Int32))).2.1 ?_
    show St p e below T42 m 24 #[rv a1, rv b2, rv b20_0, iv (4 : Int32), iv (3 : Int32), rv a16] [] _
    refine XS.aloadN X42.here hx rfl (hb hby d0_24) rfl rfl ?_
    show St p e below T42 m 25 #[rv a1, rv b2, rv b20_0, iv (4 : Int32), iv (3 : Int32), rv a16] [(.ref b20_0)] _
    refine XS.iload X42.here hx rfl (hb hby d0_25) rfl ?_
    show St p e below T42 m 27 #[rv a1, rv b2, rv b20_0, iv (4 : Int32), iv (3 : Int32), rv a16] [(.int (3 : Int32)), (.ref b20_0)] _
    refine X42.aaload hx (j := (3 : Int32)) (v := (.ref a17)) (by rw [e42]; exact Ar43.1) (State.isArrayOf_alike hZ.alike Ar43.2.1) rfl Ar43.2.2 hin43 (Has.at H43 hin43 rfl) (g := (mkF m 27 #[rv a1, rv b2, rv b20_0, iv (4 : Int32), iv (3 : Int32), rv a16] [(.int (3 : Int32)), (.ref b20_0)])) rfl rfl (hb hby d0_27) _ ?_
    show St p e below T42 m 28 #[rv a1, rv b2, rv b20_0, iv (4 : Int32), iv (3 : Int32), rv a16] [(.ref a17)] _
    refine XS.astore X42.here hx rfl (hb hby d0_28) rfl rfl (l' := #[rv a1, rv b2, rv b20_0, iv (4 : Int32), iv (3 : Int32), rv a17]) rfl ?_
    show St p e below T42 m 30 #[rv a1, rv b2, rv b20_0, iv (4 : Int32), iv (3 : Int32), rv a17] [] _
    refine XS.aload X42.here hx rfl (hb hby d0_30) rfl rfl ?_
    show St p e below T42 m 32 #[rv a1, rv b2, rv b20_0, iv (4 : Int32), iv (3 : Int32), rv a17] [(.ref a17)] _
    refine st46 _ ?_
    show St p e below T46 m 35 #[rv a1, rv b2, rv b20_0, iv (4 : Int32), iv (3 : Int32), rv a17] [(.ref a44)] _
    refine XS.aloadN X46.here hx rfl (hb hby d0_35) rfl rfl ?_
    show St p e below T46 m 36 #[rv a1, rv b2, rv b20_0, iv (4 : Int32), iv (3 : Int32), rv a17] [(.ref a1), (.ref a44)] _
    refine Jvm.RoadKit.acmp (g := (mkF m 36 #[rv a1, rv b2, rv b20_0, iv (4 : Int32), iv (3 : Int32), rv a17] [(.ref a1), (.ref a44)])) X46 hx rfl rfl rfl (pc0 := 36) (pc' := 48) (same := false) rfl (hb hby d0_36) rfl (decide_eq_false fun q => H47 (Value.ref.inj q)) (by decide) (by decide) ?_
    show St p e below T46 m 48 #[rv a1, rv b2, rv b20_0, iv (4 : Int32), iv (3 : Int32), rv a17] [] _
    refine XS.iinc X46.here hx rfl (hb hby d0_48) rfl (l' := #[rv a1, rv b2, rv b20_0, iv (4 : Int32), iv (4 : Int32), rv a17]) rfl ?_
    show St p e below T46 m 51 #[rv a1, rv b2, rv b20_0, iv (4 : Int32), iv (4 : Int32), rv a17] [] _
    refine XS.goto X46.here hx rfl (pc0 := 51) (pc' := 18) rfl (hb hby d0_51) (by decide) (by decide) ?_
    show St p e below T46 m 18 #[rv a1, rv b2, rv b20_0, iv (4 : Int32), iv (4 : Int32), rv a17] [] _
    refine XS.iload X46.here hx rfl (hb hby d0_18) rfl ?_
    show St p e below T46 m 20 #[rv a1, rv b2, rv b20_0, iv (4 : Int32), iv (4 : Int32), rv a17] [(.int (4 : Int32))] _
    refine XS.iloadN X46.here hx rfl (hb hby d0_20) rfl ?_
    show St p e below T46 m 21 #[rv a1, rv b2, rv b20_0, iv (4 : Int32), iv (4 : Int32), rv a17] [(.int (4 : Int32)), (.int (4 : Int32))] _
    refine XS.icmpYes X46.here hx rfl (pc0 := 21) (pc' := 54) rfl (hb hby d0_21) rfl (flt (by decide : ¬ ((4 : Int32) < (4 : Int32)))).2.1 (by decide) (by decide) ?_
    show St p e below T46 m 54 #[rv a1, rv b2, rv b20_0, iv (4 : Int32), iv (4 : Int32), rv a17] [] _
    refine XS.aloadN X46.here hx rfl (hb hby d0_54) rfl rfl ?_
    show St p e below T46 m 55 #[rv a1, rv b2, rv b20_0, iv (4 : Int32), iv (4 : Int32), rv a17] [(.ref b2)] _
    jvm_step X46.here [X46.here.top, hx, (hb hby d0_55), X46.method', Bd.returns, Value.isRef, FieldType.isReference]
    first | (intro acts; rw [hr _ acts rfl rfl rfl]) | rw [hr _ _ rfl rfl rfl]
    exact Steps.refl _
  · show r0_1Q Z a1 a7 a11 k13 a14 a15 a16 a17 k29 a36 a44 h0 n0 _ T46.heap _
    rw [e46]
    exact ⟨b2, b32_0, k32_0, rfl, N32, Kp_K32, z10, z48, ne49, f32_3, f32_2, f32_4, f32_5, f32_6, f32_7, f32_8⟩
theorem pd__Lcom_example_virtaus_virtaus_network_Multiplexing__Ljava_util_List_ : parseMethodDescriptor "(Lcom/example/virtaus/virtaus/network/Multiplexing;)Ljava/util/List;" = some ⟨[(.object "com/example/virtaus/virtaus/network/Multiplexing")], some (.object "java/util/List")⟩ := by decide +kernel
theorem d11_0 : decode jdk_38_method_8_code 0 = .ok (.aload_n 0, 1) := by decide +kernel
theorem d11_1 : decode jdk_38_method_8_code 1 = .ok (.getfield 48, 3) := by decide +kernel
theorem d11_4 : decode jdk_38_method_8_code 4 = .ok (.ireturn, 1) := by decide +kernel
abbrev y11 : MethodName := ⟨"java/util/ArrayList", "size", "()I"⟩
def r11_1Q (Z : State) (a1 : Addr) (h0 : Heap) (n0 : Nat) (v : Option Value) (h : Heap) (L : List Loc) : Prop := v = some (.int (1 : Int32)) ∧ Fr n0 L ∧ h = h0
theorem r11_1e (m : MethodId) (a1 : Addr) : entryFrame m #[(.ref a1)] 1 = mkF m 0 #[rv a1] [] := by first | (simp [entryFrame, mkF, argsToLocals, Value.category]; done) | rfl
set_option maxRecDepth 65536 in
set_option maxHeartbeats 40000000 in
theorem r11_1 (l : Launch) (Z : State) (a0 : Array Value) (hw : HW a0 Z) (ws : List Jvm.Cond) (a1 : Addr) (h0 : Heap) (n0 : Nat) (O0 : Old Z n0 h0) (H2 : Fld Z h0 a1 "java/util/ArrayList" "size" "I" (.int (1 : Int32))) :
    MF l y11 jdk_38_method_8_code 1 (some .int) ws ({ frames := 0, cells := 0, slots := 0, locals := 0 } : Room) Z #[(.ref a1)] h0 (r11_1Q Z a1 h0 n0) := by
  refine MetFree.of_bodySF (plainFor_of_name pn_java_util_ArrayList) hisR ?_
  intro p e s m args below meth c s₁ Bd hml0 hP hK
  obtain ⟨rfl, hZ, hh⟩ := hP
  have hx := Bd.exec
  have hby := Bd.bytes
  have hml : c.maxLocals = 1 := hml0
  have hown : s.vm.findClass "java/util/ArrayList" = some m.cls := findClass_of_methodNamed Bd.named
  have hnm := (name_of_methodNamed Bd.named Bd.method).1
  have X0 : Stand p l e ({ frames := 0, cells := 0, slots := 0, locals := 0 } : Room) s m #[(.ref a1)] below meth c s₁ [] 0 0 := Stand.of_body Bd
  have e0 : s₁.heap = h0 := by rw [← hh, Bd.state]; rfl
  have N0 := Fr.nil n0
  have pre0 : ∀ t, Steps p.tables e below (s₁.setTop (mkF m 0 #[rv a1] [])) t → Steps p.tables e below (s₁.setTop (entryFrame m #[(.ref a1)] 1)) t := fun t k => castTop (r11_1e m a1) k
  obtain ⟨T3, X3, e3, st3⟩ := getF X0 hx hZ hown (host := "") (Or.inl (ow hw 66 rfl)) Via.refl e0 H2 (g := (mkF m 1 #[rv a1] [(.ref a1)])) rfl rfl (hb hby d11_1)
  obtain ⟨fs, hr, hrun, hended, hW, hsame⟩ := X3.leave (v := some (.int (1 : Int32))) (fun h => by rw [Bd.returns] at h; cases h)
  refine ⟨_, _, pre0 _ ?_, hrun, hended, _, _, rfl, ?_, ⟨_, rfl⟩, hW, hsame.mono (by decide) (by decide)⟩
  · show St p e below s₁ m 0 #[rv a1] [] _
    refine XS.aloadN X0.here hx rfl (hb hby d11_0) rfl rfl ?_
    show St p e below s₁ m 1 #[rv a1] [(.ref a1)] _
    refine st3 _ ?_
    show St p e below T3 m 4 #[rv a1] [(.int (1 : Int32))] _
    exact retI X3 hx Bd.returns (hb hby d11_4) hr
  · show r11_1Q Z a1 h0 n0 _ T3.heap _
    rw [e3]
    exact ⟨rfl, N0, rfl⟩
theorem pd___I : parseMethodDescriptor "()I" = some ⟨[], some .int⟩ := by decide +kernel
abbrev y12 : MethodName := ⟨"java/util/List", "size", "()I"⟩
theorem d13_0 : decode jdk_38_method_20_code 0 = .ok (.iload_n 1, 1) := by decide +kernel
theorem d13_1 : decode jdk_38_method_20_code 1 = .ok (.aload_n 0, 1) := by decide +kernel
theorem d13_2 : decode jdk_38_method_20_code 2 = .ok (.getfield 48, 3) := by decide +kernel
theorem d13_5 : decode jdk_38_method_20_code 5 = .ok (.invokestatic 118, 3) := by decide +kernel
theorem d14_0 : decode jdk_31_method_17_code 0 = .ok (.iload_n 0, 1) := by decide +kernel
theorem d14_1 : decode jdk_31_method_17_code 1 = .ok (.iload_n 1, 1) := by decide +kernel
theorem d14_2 : decode jdk_31_method_17_code 2 = .ok (.aconst_null, 1) := by decide +kernel
theorem d14_3 : decode jdk_31_method_17_code 3 = .ok (.invokestatic 105, 3) := by decide +kernel
theorem d15_0 : decode jdk_41_method_11_code 0 = .ok (.iload_n 0, 1) := by decide +kernel
theorem d15_1 : decode jdk_41_method_11_code 1 = .ok (.ifCond .lt 8, 3) := by decide +kernel
theorem d15_4 : decode jdk_41_method_11_code 4 = .ok (.iload_n 0, 1) := by decide +kernel
theorem d15_5 : decode jdk_41_method_11_code 5 = .ok (.iload_n 1, 1) := by decide +kernel
theorem d15_6 : decode jdk_41_method_11_code 6 = .ok (.if_icmp .lt 10, 3) := by decide +kernel
theorem d15_16 : decode jdk_41_method_11_code 16 = .ok (.iload_n 0, 1) := by decide +kernel
theorem d15_17 : decode jdk_41_method_11_code 17 = .ok (.ireturn, 1) := by decide +kernel
abbrev y15 : MethodName := ⟨"jdk/internal/util/Preconditions", "checkIndex", "(IILjava/util/function/BiFunction;)I"⟩
theorem pn_jdk_internal_util_Preconditions : plainName "jdk/internal/util/Preconditions" = true := by first | (simp [plainName, overriddenIn]; done) | decide +kernel
def r15_1Q (Z : State) (h0 : Heap) (n0 : Nat) (v : Option Value) (h : Heap) (L : List Loc) : Prop := v = some (.int (0 : Int32)) ∧ Fr n0 L ∧ h = h0
theorem r15_1e (m : MethodId) : entryFrame m #[(.int (0 : Int32)), (.int (1 : Int32)), .null] 3 = mkF m 0 #[iv (0 : Int32), iv (1 : Int32), .val .null] [] := by first | (simp [entryFrame, mkF, argsToLocals, Value.category]; done) | rfl
set_option maxRecDepth 65536 in
set_option maxHeartbeats 40000000 in
theorem r15_1 (l : Launch) (Z : State) (a0 : Array Value) (hw : HW a0 Z) (ws : List Jvm.Cond) (h0 : Heap) (n0 : Nat) (O0 : Old Z n0 h0) :
    MF l y15 jdk_41_method_11_code 3 (some .int) ws ({ frames := 0, cells := 0, slots := 0, locals := 0 } : Room) Z #[(.int (0 : Int32)), (.int (1 : Int32)), .null] h0 (r15_1Q Z h0 n0) := by
  refine MetFree.of_bodySF (plainFor_of_name pn_jdk_internal_util_Preconditions) hisR ?_
  intro p e s m args below meth c s₁ Bd hml0 hP hK
  obtain ⟨rfl, hZ, hh⟩ := hP
  have hx := Bd.exec
  have hby := Bd.bytes
  have hml : c.maxLocals = 3 := hml0
  have hown : s.vm.findClass "jdk/internal/util/Preconditions" = some m.cls := findClass_of_methodNamed Bd.named
  have hnm := (name_of_methodNamed Bd.named Bd.method).1
  have X0 : Stand p l e ({ frames := 0, cells := 0, slots := 0, locals := 0 } : Room) s m #[(.int (0 : Int32)), (.int (1 : Int32)), .null] below meth c s₁ [] 0 0 := Stand.of_body Bd
  have e0 : s₁.heap = h0 := by rw [← hh, Bd.state]; rfl
  have N0 := Fr.nil n0
  have pre0 : ∀ t, Steps p.tables e below (s₁.setTop (mkF m 0 #[iv (0 : Int32), iv (1 : Int32), .val .null] [])) t → Steps p.tables e below (s₁.setTop (entryFrame m #[(.int (0 : Int32)), (.int (1 : Int32)), .null] 3)) t := fun t k => castTop (r15_1e m) k
  obtain ⟨fs, hr, hrun, hended, hW, hsame⟩ := X0.leave (v := some (.int (0 : Int32))) (fun h => by rw [Bd.returns] at h; cases h)
  refine ⟨_, _, pre0 _ ?_, hrun, hended, _, _, rfl, ?_, ⟨_, rfl⟩, hW, hsame.mono (by decide) (by decide)⟩
  · show St p e below s₁ m 0 #[iv (0 : Int32), iv (1 : Int32), .val .null] [] _
    refine XS.iloadN X0.here hx rfl (hb hby d15_0) rfl ?_
    show St p e below s₁ m 1 #[iv (0 : Int32), iv (1 : Int32), .val .null] [(.int (0 : Int32))] _
    refine XS.ifNo X0.here hx rfl (hb hby d15_1) rfl ((if0 _ _).trans (flt (by decide : ¬ ((0 : Int32) < (0 : Int32)))).1) ?_
    show St p e below s₁ m 4 #[iv (0 : Int32), iv (1 : Int32), .val .null] [] _
    refine XS.iloadN X0.here hx rfl (hb hby d15_4) rfl ?_
    show St p e below s₁ m 5 #[iv (0 : Int32), iv (1 : Int32), .val .null] [(.int (0 : Int32))] _
    refine XS.iloadN X0.here hx rfl (hb hby d15_5) rfl ?_
    show St p e below s₁ m 6 #[iv (0 : Int32), iv (1 : Int32), .val .null] [(.int (1 : Int32)), (.int (0 : Int32))] _
    refine XS.icmpYes X0.here hx rfl (pc0 := 6) (pc' := 16) rfl (hb hby d15_6) rfl (tlt (by decide : (0 : Int32) < (1 : Int32))).1 (by decide) (by decide) ?_
    show St p e below s₁ m 16 #[iv (0 : Int32), iv (1 : Int32), .val .null] [] _
    refine XS.iloadN X0.here hx rfl (hb hby d15_16) rfl ?_
    show St p e below s₁ m 17 #[iv (0 : Int32), iv (1 : Int32), .val .null] [(.int (0 : Int32))] _
    exact retI X0 hx Bd.returns (hb hby d15_17) hr
  · show r15_1Q Z h0 n0 _ s₁.heap _
    rw [e0]
    exact ⟨rfl, N0, rfl⟩
theorem pd__IILjava_util_function_BiFunction__I : parseMethodDescriptor "(IILjava/util/function/BiFunction;)I" = some ⟨[.int, .int, (.object "java/util/function/BiFunction")], some .int⟩ := by decide +kernel
theorem d14_6 : decode jdk_31_method_17_code 6 = .ok (.ireturn, 1) := by decide +kernel
abbrev y14 : MethodName := ⟨"java/util/Objects", "checkIndex", "(II)I"⟩
theorem pn_java_util_Objects : plainName "java/util/Objects" = true := by first | (simp [plainName, overriddenIn]; done) | decide +kernel
def r14_1Q (Z : State) (h0 : Heap) (n0 : Nat) (v : Option Value) (h : Heap) (L : List Loc) : Prop := v = some (.int (0 : Int32)) ∧ Fr n0 L ∧ h = h0
theorem r14_1e (m : MethodId) : entryFrame m #[(.int (0 : Int32)), (.int (1 : Int32))] 2 = mkF m 0 #[iv (0 : Int32), iv (1 : Int32)] [] := by first | (simp [entryFrame, mkF, argsToLocals, Value.category]; done) | rfl
set_option maxRecDepth 65536 in
set_option maxHeartbeats 40000000 in
theorem r14_1 (l : Launch) (Z : State) (a0 : Array Value) (hw : HW a0 Z) (ws : List Jvm.Cond) (h0 : Heap) (n0 : Nat) (O0 : Old Z n0 h0) :
    MF l y14 jdk_31_method_17_code 2 (some .int) ws ({ frames := 1, cells := 0, slots := 0, locals := 14 } : Room) Z #[(.int (0 : Int32)), (.int (1 : Int32))] h0 (r14_1Q Z h0 n0) := by
  refine MetFree.of_bodySF (plainFor_of_name pn_java_util_Objects) hisR ?_
  intro p e s m args below meth c s₁ Bd hml0 hP hK
  obtain ⟨rfl, hZ, hh⟩ := hP
  have hx := Bd.exec
  have hby := Bd.bytes
  have hml : c.maxLocals = 2 := hml0
  have hown : s.vm.findClass "java/util/Objects" = some m.cls := findClass_of_methodNamed Bd.named
  have hnm := (name_of_methodNamed Bd.named Bd.method).1
  have X0 : Stand p l e ({ frames := 1, cells := 0, slots := 0, locals := 14 } : Room) s m #[(.int (0 : Int32)), (.int (1 : Int32))] below meth c s₁ [] 0 0 := Stand.of_body Bd
  have e0 : s₁.heap = h0 := by rw [← hh, Bd.state]; rfl
  have N0 := Fr.nil n0
  have pre0 : ∀ t, Steps p.tables e below (s₁.setTop (mkF m 0 #[iv (0 : Int32), iv (1 : Int32)] [])) t → Steps p.tables e below (s₁.setTop (entryFrame m #[(.int (0 : Int32)), (.int (1 : Int32))] 2)) t := fun t k => castTop (r14_1e m) k
  obtain ⟨_, _, ⟨T1, L1, k1, n1⟩, -, X1, ⟨Lc1, hQ1, l1, y1, z1⟩, st1⟩ := Jvm.LawKit.callS X0 hx (y := y15) hown (mvT hZ (ow hw 112 rfl)) (mvT hZ (ow hw 113 rfl)) (mvT hZ (ow hw 114 rfl)) (mvT hZ (ow hw 115 rfl)) (by decide) (backOf (W := 0) (r15_1 l Z a0 hw [] h0 n0 O0) hZ (ow hw 115 rfl) (ow hw 114 rfl) (by decide) (by decide)) (g := (mkF m 3 #[iv (0 : Int32), iv (1 : Int32)] [.null, (.int (1 : Int32)), (.int (0 : Int32))])) rfl (by rw [hml]; rfl) (argsL := [(.int (0 : Int32)), (.int (1 : Int32)), .null]) (rest := []) (lenOf pd__IILjava_util_function_BiFunction__I rfl) rfl (by show 2 * 0 + _ ≤ _; exact Nat.le_of_eq rfl) (hb hby d14_3) (fun _ _ => ⟨rfl, e0, (by decide : 0 + 0 ≤ _), (by decide : 0 + 0 ≤ _)⟩)
  dsimp only [Pt.U, Pt.locs, Pt.cells, Pt.slots] at X1 l1 y1 z1 st1 hQ1
  subst l1 y1 z1
  obtain ⟨rfl, N1q, e1⟩ := hQ1
  have N1 := Fr.app N0 N1q
  obtain ⟨fs, hr, hrun, hended, hW, hsame⟩ := X1.leave (v := some (.int (0 : Int32))) (fun h => by rw [Bd.returns] at h; cases h)
  refine ⟨_, _, pre0 _ ?_, hrun, hended, _, _, rfl, ?_, ⟨_, rfl⟩, hW, hsame.mono (by decide) (by decide)⟩
  · show St p e below s₁ m 0 #[iv (0 : Int32), iv (1 : Int32)] [] _
    refine XS.iloadN X0.here hx rfl (hb hby d14_0) rfl ?_
    show St p e below s₁ m 1 #[iv (0 : Int32), iv (1 : Int32)] [(.int (0 : Int32))] _
    refine XS.iloadN X0.here hx rfl (hb hby d14_1) rfl ?_
    show St p e below s₁ m 2 #[iv (0 : Int32), iv (1 : Int32)] [(.int (1 : Int32)), (.int (0 : Int32))] _
    refine XS.aconstNull X0.here hx rfl (hb hby d14_2) ?_
    show St p e below s₁ m 3 #[iv (0 : Int32), iv (1 : Int32)] [.null, (.int (1 : Int32)), (.int (0 : Int32))] _
    refine st1 _ ?_
    show St p e below T1 m 6 #[iv (0 : Int32), iv (1 : Int32)] [(.int (0 : Int32))] _
    exact retI X1 hx Bd.returns (hb hby d14_6) hr
  · show r14_1Q Z h0 n0 _ T1.heap _
    rw [e1]
    exact ⟨rfl, N1, rfl⟩
theorem d13_8 : decode jdk_38_method_20_code 8 = .ok (.pop, 1) := by decide +kernel
theorem d13_9 : decode jdk_38_method_20_code 9 = .ok (.aload_n 0, 1) := by decide +kernel
theorem d13_10 : decode jdk_38_method_20_code 10 = .ok (.iload_n 1, 1) := by decide +kernel
theorem d13_11 : decode jdk_38_method_20_code 11 = .ok (.invokevirtual 123, 3) := by decide +kernel
theorem d16_0 : decode jdk_38_method_18_code 0 = .ok (.aload_n 0, 1) := by decide +kernel
theorem d16_1 : decode jdk_38_method_18_code 1 = .ok (.getfield 9, 3) := by decide +kernel
theorem d16_4 : decode jdk_38_method_18_code 4 = .ok (.iload_n 1, 1) := by decide +kernel
theorem d16_5 : decode jdk_38_method_18_code 5 = .ok (.aaload, 1) := by decide +kernel
theorem d16_6 : decode jdk_38_method_18_code 6 = .ok (.areturn, 1) := by decide +kernel
abbrev y16 : MethodName := ⟨"java/util/ArrayList", "elementData", "(I)Ljava/lang/Object;"⟩
def r16_1Q (Z : State) (a1 : Addr) (a2 : Addr) (k5 : ClassId) (a6 : Addr) (h0 : Heap) (n0 : Nat) (v : Option Value) (h : Heap) (L : List Loc) : Prop := v = some (.ref a6) ∧ Fr n0 L ∧ h = h0
theorem r16_1e (m : MethodId) (a1 : Addr) (a2 : Addr) (k5 : ClassId) (a6 : Addr) : entryFrame m #[(.ref a1), (.int (0 : Int32))] 2 = mkF m 0 #[rv a1, iv (0 : Int32)] [] := by first | (simp [entryFrame, mkF, argsToLocals, Value.category]; done) | rfl
set_option maxRecDepth 65536 in
set_option maxHeartbeats 40000000 in
theorem r16_1 (l : Launch) (Z : State) (a0 : Array Value) (hw : HW a0 Z) (ws : List Jvm.Cond) (a1 : Addr) (a2 : Addr) (k5 : ClassId) (a6 : Addr) (h0 : Heap) (n0 : Nat) (O0 : Old Z n0 h0) (H3 : Fld Z h0 a1 "java/util/ArrayList" "elementData" "[Ljava/lang/Object;" (.ref a2)) (H7 : Arv Z h0 a2 k5 (.object "java/lang/Object") (10 : Int32) [(.ref a6), .null, .null, .null, .null, .null, .null, .null, .null, .null] .null) :
    MF l y16 jdk_38_method_18_code 2 (some (.object "java/lang/Object")) ws ({ frames := 0, cells := 0, slots := 0, locals := 0 } : Room) Z #[(.ref a1), (.int (0 : Int32))] h0 (r16_1Q Z a1 a2 k5 a6 h0 n0) := by
  refine MetFree.of_bodySF (plainFor_of_name pn_java_util_ArrayList) hisR ?_
  intro p e s m args below meth c s₁ Bd hml0 hP hK
  obtain ⟨rfl, hZ, hh⟩ := hP
  have hx := Bd.exec
  have hby := Bd.bytes
  have hml : c.maxLocals = 2 := hml0
  have hown : s.vm.findClass "java/util/ArrayList" = some m.cls := findClass_of_methodNamed Bd.named
  have hnm := (name_of_methodNamed Bd.named Bd.method).1
  have X0 : Stand p l e ({ frames := 0, cells := 0, slots := 0, locals := 0 } : Room) s m #[(.ref a1), (.int (0 : Int32))] below meth c s₁ [] 0 0 := Stand.of_body Bd
  have e0 : s₁.heap = h0 := by rw [← hh, Bd.state]; rfl
  have N0 := Fr.nil n0
  have pre0 : ∀ t, Steps p.tables e below (s₁.setTop (mkF m 0 #[rv a1, iv (0 : Int32)] [])) t → Steps p.tables e below (s₁.setTop (entryFrame m #[(.ref a1), (.int (0 : Int32))] 2)) t := fun t k => castTop (r16_1e m a1 a2 k5 a6) k
  obtain ⟨T4, X4, e4, st4⟩ := getF X0 hx hZ hown (host := "") (Or.inl (ow hw 32 rfl)) Via.refl e0 H3 (g := (mkF m 1 #[rv a1, iv (0 : Int32)] [(.ref a1)])) rfl rfl (hb hby d16_1)
  obtain ⟨cl8, Ar8, q8, S8, M8, H8, G8⟩ := id H7
  have hin8 : ¬ ((0 : Int32) < 0 ∨ cl8.slots.size ≤ ((0 : Int32)).toNatClampNeg) := inb_of S8 ⟨by decide, by decide⟩
  obtain ⟨fs, hr, hrun, hended, hW, hsame⟩ := X4.leave (v := some (.ref a6)) (fun h => by rw [Bd.returns] at h; cases h)
  refine ⟨_, _, pre0 _ ?_, hrun, hended, _, _, rfl, ?_, ⟨_, rfl⟩, hW, hsame.mono (by decide) (by decide)⟩
  · show St p e below s₁ m 0 #[rv a1, iv (0 : Int32)] [] _
    refine XS.aloadN X0.here hx rfl (hb hby d16_0) rfl rfl ?_
    show St p e below s₁ m 1 #[rv a1, iv (0 : Int32)] [(.ref a1)] _
    refine st4 _ ?_
    show St p e below T4 m 4 #[rv a1, iv (0 : Int32)] [(.ref a2)] _
    refine XS.iloadN X4.here hx rfl (hb hby d16_4) rfl ?_
    show St p e below T4 m 5 #[rv a1, iv (0 : Int32)] [(.int (0 : Int32)), (.ref a2)] _
    refine X4.aaload hx (j := (0 : Int32)) (v := (.ref a6)) (by rw [e4]; exact Ar8.1) (State.isArrayOf_alike hZ.alike Ar8.2.1) rfl Ar8.2.2 hin8 (Has.at H8 hin8 rfl) (g := (mkF m 5 #[rv a1, iv (0 : Int32)] [(.int (0 : Int32)), (.ref a2)])) rfl rfl (hb hby d16_5) _ ?_
    show St p e below T4 m 6 #[rv a1, iv (0 : Int32)] [(.ref a6)] _
    jvm_step X4.here [X4.here.top, hx, (hb hby d16_6), X4.method', Bd.returns, Value.isRef, FieldType.isReference]
    first | (intro acts; rw [hr _ acts rfl rfl rfl]) | rw [hr _ _ rfl rfl rfl]
    exact Steps.refl _
  · show r16_1Q Z a1 a2 k5 a6 h0 n0 _ T4.heap _
    rw [e4]
    exact ⟨rfl, N0, rfl⟩
theorem pd__I_Ljava_lang_Object_ : parseMethodDescriptor "(I)Ljava/lang/Object;" = some ⟨[.int], some (.object "java/lang/Object")⟩ := by decide +kernel
theorem d13_14 : decode jdk_38_method_20_code 14 = .ok (.areturn, 1) := by decide +kernel
abbrev y13 : MethodName := ⟨"java/util/ArrayList", "get", "(I)Ljava/lang/Object;"⟩
def r13_1Q (Z : State) (a1 : Addr) (a6 : Addr) (k8 : ClassId) (a9 : Addr) (h0 : Heap) (n0 : Nat) (v : Option Value) (h : Heap) (L : List Loc) : Prop := v = some (.ref a9) ∧ Fr n0 L ∧ h = h0
theorem r13_1e (m : MethodId) (a1 : Addr) (a6 : Addr) (k8 : ClassId) (a9 : Addr) : entryFrame m #[(.ref a1), (.int (0 : Int32))] 2 = mkF m 0 #[rv a1, iv (0 : Int32)] [] := by first | (simp [entryFrame, mkF, argsToLocals, Value.category]; done) | rfl
set_option maxRecDepth 65536 in
set_option maxHeartbeats 40000000 in
theorem r13_1 (l : Launch) (Z : State) (a0 : Array Value) (hw : HW a0 Z) (ws : List Jvm.Cond) (a1 : Addr) (a6 : Addr) (k8 : ClassId) (a9 : Addr) (h0 : Heap) (n0 : Nat) (O0 : Old Z n0 h0) (H2 : Fld Z h0 a1 "java/util/ArrayList" "size" "I" (.int (1 : Int32))) (H5 : Exa Z h0 a1 "java/util/ArrayList") (H7 : Fld Z h0 a1 "java/util/ArrayList" "elementData" "[Ljava/lang/Object;" (.ref a6)) (H10 : Arv Z h0 a6 k8 (.object "java/lang/Object") (10 : Int32) [(.ref a9), .null, .null, .null, .null, .null, .null, .null, .null, .null] .null) :
    MF l y13 jdk_38_method_20_code 2 (some (.object "java/lang/Object")) ws ({ frames := 2, cells := 0, slots := 0, locals := 27 } : Room) Z #[(.ref a1), (.int (0 : Int32))] h0 (r13_1Q Z a1 a6 k8 a9 h0 n0) := by
  refine MetFree.of_bodySF (plainFor_of_name pn_java_util_ArrayList) hisR ?_
  intro p e s m args below meth c s₁ Bd hml0 hP hK
  obtain ⟨rfl, hZ, hh⟩ := hP
  have hx := Bd.exec
  have hby := Bd.bytes
  have hml : c.maxLocals = 2 := hml0
  have hown : s.vm.findClass "java/util/ArrayList" = some m.cls := findClass_of_methodNamed Bd.named
  have hnm := (name_of_methodNamed Bd.named Bd.method).1
  have X0 : Stand p l e ({ frames := 2, cells := 0, slots := 0, locals := 27 } : Room) s m #[(.ref a1), (.int (0 : Int32))] below meth c s₁ [] 0 0 := Stand.of_body Bd
  have e0 : s₁.heap = h0 := by rw [← hh, Bd.state]; rfl
  have N0 := Fr.nil n0
  have pre0 : ∀ t, Steps p.tables e below (s₁.setTop (mkF m 0 #[rv a1, iv (0 : Int32)] [])) t → Steps p.tables e below (s₁.setTop (entryFrame m #[(.ref a1), (.int (0 : Int32))] 2)) t := fun t k => castTop (r13_1e m a1 a6 k8 a9) k
  obtain ⟨T3, X3, e3, st3⟩ := getF X0 hx hZ hown (host := "") (Or.inl (ow hw 66 rfl)) Via.refl e0 H2 (g := (mkF m 2 #[rv a1, iv (0 : Int32)] [(.ref a1), (.int (0 : Int32))])) rfl rfl (hb hby d13_2)
  obtain ⟨_, _, ⟨T4, L4, k4, n4⟩, -, X4, ⟨Lc4, hQ4, l4, y4, z4⟩, st4⟩ := Jvm.LawKit.callS X3 hx (y := y14) hown (mvT hZ (ow hw 108 rfl)) (mvT hZ (ow hw 109 rfl)) (mvT hZ (ow hw 110 rfl)) (mvT hZ (ow hw 111 rfl)) (by decide) (backOf (W := 0) (r14_1 l Z a0 hw [] h0 n0 O0) hZ (ow hw 111 rfl) (ow hw 110 rfl) (by decide) (by decide)) (g := (mkF m 5 #[rv a1, iv (0 : Int32)] [(.int (1 : Int32)), (.int (0 : Int32))])) rfl (by rw [hml]; rfl) (argsL := [(.int (0 : Int32)), (.int (1 : Int32))]) (rest := []) (lenOf pd__II_I rfl) rfl (by show 2 * 0 + _ ≤ _; exact Nat.le_of_eq rfl) (hb hby d13_5) (fun _ _ => ⟨rfl, e3, (by decide : 0 + 0 ≤ _), (by decide : 0 + 0 ≤ _)⟩)
  dsimp only [Pt.U, Pt.locs, Pt.cells, Pt.slots] at X4 l4 y4 z4 st4 hQ4
  subst l4 y4 z4
  obtain ⟨rfl, N4q, e4⟩ := hQ4
  have N4 := Fr.app N0 N4q
  obtain ⟨cq11, kq11, q11a, q11b, q11c⟩ := isOf hZ e4 H5
  obtain ⟨_, _, ⟨T11, L11, k11, n11⟩, -, X11, ⟨Lc11, hQ11, l11, y11, z11⟩, st11⟩ := X4.virtualBack hx (y := y16) (z := y16) hown (mvT hZ (ow hw 116 rfl)) (mvT hZ (ow hw 117 rfl)) (notFace_of_selects (args := #[]) (mvT hZ (ow hw 119 rfl))) (mvT hZ (ow hw 119 rfl)) (mvT hZ (ow hw 118 rfl)) (by decide) (backOf (W := 0) (r16_1 l Z a0 hw [] a1 a6 k8 a9 h0 n0 O0 H7 H10) hZ (ow hw 120 rfl) (ow hw 10 rfl) (by decide) (by decide)) q11a q11c (g := (mkF m 11 #[rv a1, iv (0 : Int32)] [(.int (0 : Int32)), (.ref a1)])) rfl (by rw [hml]; rfl) (Steps.refl _) (argsL := [(.int (0 : Int32))]) (rest := []) (lenOf pd__I_Ljava_lang_Object_ rfl) rfl (by show 2 * 0 + _ ≤ _; exact Nat.le_of_eq rfl) (hb hby d13_11) (fun _ _ => ⟨rfl, e4, (by decide : 0 + 0 ≤ _), (by decide : 0 + 0 ≤ _)⟩)
  dsimp only [Pt.U, Pt.locs, Pt.cells, Pt.slots] at X11 l11 y11 z11 st11 hQ11
  subst l11 y11 z11
  obtain ⟨rfl, N11q, e11⟩ := hQ11
  have N11 := Fr.app N4 N11q
  obtain ⟨fs, hr, hrun, hended, hW, hsame⟩ := X11.leave (v := some (.ref a9)) (fun h => by rw [Bd.returns] at h; cases h)
  refine ⟨_, _, pre0 _ ?_, hrun, hended, _, _, rfl, ?_, ⟨_, rfl⟩, hW, hsame.mono (by decide) (by decide)⟩
  · show St p e below s₁ m 0 #[rv a1, iv (0 : Int32)] [] _
    refine XS.iloadN X0.here hx rfl (hb hby d13_0) rfl ?_
    show St p e below s₁ m 1 #[rv a1, iv (0 : Int32)] [(.int (0 : Int32))] _
    refine XS.aloadN X0.here hx rfl (hb hby d13_1) rfl rfl ?_
    show St p e below s₁ m 2 #[rv a1, iv (0 : Int32)] [(.ref a1), (.int (0 : Int32))] _
    refine st3 _ ?_
    show St p e below T3 m 5 #[rv a1, iv (0 : Int32)] [(.int (1 : Int32)), (.int (0 : Int32))] _
    refine st4 _ ?_
    show St p e below T4 m 8 #[rv a1, iv (0 : Int32)] [(.int (0 : Int32))] _
    refine XS.pop X4.here hx rfl (hb hby d13_8) rfl rfl ?_
    show St p e below T4 m 9 #[rv a1, iv (0 : Int32)] [] _
    refine XS.aloadN X4.here hx rfl (hb hby d13_9) rfl rfl ?_
    show St p e below T4 m 10 #[rv a1, iv (0 : Int32)] [(.ref a1)] _
    refine XS.iloadN X4.here hx rfl (hb hby d13_10) rfl ?_
    show St p e below T4 m 11 #[rv a1, iv (0 : Int32)] [(.int (0 : Int32)), (.ref a1)] _
    refine st11.trans ?_
    show St p e below T11 m 14 #[rv a1, iv (0 : Int32)] [(.ref a9)] _
    jvm_step X11.here [X11.here.top, hx, (hb hby d13_14), X11.method', Bd.returns, Value.isRef, FieldType.isReference]
    first | (intro acts; rw [hr _ acts rfl rfl rfl]) | rw [hr _ _ rfl rfl rfl]
    exact Steps.refl _
  · show r13_1Q Z a1 a6 k8 a9 h0 n0 _ T11.heap _
    rw [e11]
    exact ⟨rfl, N11, rfl⟩
abbrev y17 : MethodName := ⟨"java/util/List", "get", "(I)Ljava/lang/Object;"⟩
theorem pn_com_example_virtaus_virtaus_analysis_AnalysisAvailableForPinLaw : plainName "com/example/virtaus/virtaus/analysis/AnalysisAvailableForPinLaw" = true := by first | (simp [plainName, overriddenIn]; done) | decide +kernel
def law_1Q (Z : State) (wMultiplexing_FIFO : Addr) (wAnalysis__VALUES : Addr) (wAnalysis_FIFO : Addr) (wAnalysis_SFA : Addr) (wAnalysis_PMOO : Addr) (wAnalysis_PRIORITY : Addr) (wMultiplexing_ARBITRARY : Addr) (wMultiplexing_PRIORITY : Addr) (wArrayList_EMPTY_ELEMENTDATA : Addr) (wArrayList_DEFAULTCAPACITY_EMPTY_ELEMENTDATA : Addr) (k_wAnalysis__VALUES : ClassId) (k_wArrayList_EMPTY_ELEMENTDATA : ClassId) (k_wArrayList_DEFAULTCAPACITY_EMPTY_ELEMENTDATA : ClassId) (i0 : Int32) (h0 : Heap) (n0 : Nat) (v : Option Value) (h : Heap) (L : List Loc) : Prop := v = some (.int (1 : Int32)) ∧ Fr n0 L
theorem law_1e (m : MethodId) (wMultiplexing_FIFO : Addr) (wAnalysis__VALUES : Addr) (wAnalysis_FIFO : Addr) (wAnalysis_SFA : Addr) (wAnalysis_PMOO : Addr) (wAnalysis_PRIORITY : Addr) (wMultiplexing_ARBITRARY : Addr) (wMultiplexing_PRIORITY : Addr) (wArrayList_EMPTY_ELEMENTDATA : Addr) (wArrayList_DEFAULTCAPACITY_EMPTY_ELEMENTDATA : Addr) (k_wAnalysis__VALUES : ClassId) (k_wArrayList_EMPTY_ELEMENTDATA : ClassId) (k_wArrayList_DEFAULTCAPACITY_EMPTY_ELEMENTDATA : ClassId) (i0 : Int32) : entryFrame m #[(.int i0)] maxLocals = mkF m 0 #[iv i0, .unset, .unset, .unset, .unset] [] := by first | (simp [entryFrame, mkF, argsToLocals, Value.category, maxLocals]; done) | rfl
set_option maxRecDepth 65536 in
set_option maxHeartbeats 40000000 in
theorem law_1 (l : Launch) (Z : State) (a0 : Array Value) (hw : HW a0 Z) (ws : List Jvm.Cond) (wMultiplexing_FIFO : Addr) (wAnalysis__VALUES : Addr) (wAnalysis_FIFO : Addr) (wAnalysis_SFA : Addr) (wAnalysis_PMOO : Addr) (wAnalysis_PRIORITY : Addr) (wMultiplexing_ARBITRARY : Addr) (wMultiplexing_PRIORITY : Addr) (wArrayList_EMPTY_ELEMENTDATA : Addr) (wArrayList_DEFAULTCAPACITY_EMPTY_ELEMENTDATA : Addr) (k_wAnalysis__VALUES : ClassId) (k_wArrayList_EMPTY_ELEMENTDATA : ClassId) (k_wArrayList_DEFAULTCAPACITY_EMPTY_ELEMENTDATA : ClassId) (B : Base Z wMultiplexing_FIFO wAnalysis__VALUES wAnalysis_FIFO wAnalysis_SFA wAnalysis_PMOO wAnalysis_PRIORITY wMultiplexing_ARBITRARY wMultiplexing_PRIORITY wArrayList_EMPTY_ELEMENTDATA wArrayList_DEFAULTCAPACITY_EMPTY_ELEMENTDATA k_wAnalysis__VALUES k_wArrayList_EMPTY_ELEMENTDATA k_wArrayList_DEFAULTCAPACITY_EMPTY_ELEMENTDATA) (i0 : Int32) (h0 : Heap) (n0 : Nat) (O0 : Old Z n0 h0) (pin0 : ((i0 &&& (2147483647 : Int32)) % (3 : Int32)) = (0 : Int32)) :
    MetFree l x (head1 (Jvm.Cond.code x code maxLocals ret :: ws) room_1) (fun a U => a = #[(.int i0)] ∧ Z.Warmed39 U.vm ∧ U.heap = h0) (fun _ _ _ _ _ => True) (fun _ U o U' => ∃ v L, o = .returned v ∧ law_1Q Z wMultiplexing_FIFO wAnalysis__VALUES wAnalysis_FIFO wAnalysis_SFA wAnalysis_PMOO wAnalysis_PRIORITY wMultiplexing_ARBITRARY wMultiplexing_PRIORITY wArrayList_EMPTY_ELEMENTDATA wArrayList_DEFAULTCAPACITY_EMPTY_ELEMENTDATA k_wAnalysis__VALUES k_wArrayList_EMPTY_ELEMENTDATA k_wArrayList_DEFAULTCAPACITY_EMPTY_ELEMENTDATA i0 h0 n0 v U'.heap L ∧ FrameEnd U o U' L room_1.cells room_1.slots) := by
  refine MetFree.of_bodySF (plainFor_of_name pn_com_example_virtaus_virtaus_analysis_AnalysisAvailableForPinLaw) hisR ?_
  intro p e s m args below meth c s₁ Bd hml0 hP hK
  obtain ⟨rfl, hZ, hh⟩ := hP
  have hx := Bd.exec
  have hby := Bd.bytes
  have hml : c.maxLocals = 5 := hml0
  have hown : s.vm.findClass "com/example/virtaus/virtaus/analysis/AnalysisAvailableForPinLaw" = some m.cls := findClass_of_methodNamed Bd.named
  have hnm := (name_of_methodNamed Bd.named Bd.method).1
  have X0 : Stand p l e room_1 s m #[(.int i0)] below meth c s₁ [] 0 0 := Stand.of_body Bd
  have e0 : s₁.heap = h0 := by rw [← hh, Bd.state]; rfl
  have N0 := Fr.nil n0
  have pre0 : ∀ t, Steps p.tables e below (s₁.setTop (mkF m 0 #[iv i0, .unset, .unset, .unset, .unset] [])) t → Steps p.tables e below (s₁.setTop (entryFrame m #[(.int i0)] maxLocals)) t := fun t k => castTop (law_1e m wMultiplexing_FIFO wAnalysis__VALUES wAnalysis_FIFO wAnalysis_SFA wAnalysis_PMOO wAnalysis_PRIORITY wMultiplexing_ARBITRARY wMultiplexing_PRIORITY wArrayList_EMPTY_ELEMENTDATA wArrayList_DEFAULTCAPACITY_EMPTY_ELEMENTDATA k_wAnalysis__VALUES k_wArrayList_EMPTY_ELEMENTDATA k_wArrayList_DEFAULTCAPACITY_EMPTY_ELEMENTDATA i0) k
  obtain ⟨T1, X1, e1, st1⟩ := getS2 X0 hx hZ hown (host := "") (Or.inl (ow hw 1 rfl)) Via.refl e0 (B.1.ext O0.2) (g := (mkF m 11 #[iv i0, iv (0 : Int32), .unset, .unset, .unset] [])) rfl (hb hby at_11)
  obtain ⟨_, _, ⟨T2, L2, k2, n2⟩, -, X2, ⟨Lc2, hQ2, l2, y2, z2⟩, st2⟩ := Jvm.LawKit.callS X1 hx (y := y0) hown (mvT hZ (ow hw 4 rfl)) (mvT hZ (ow hw 5 rfl)) (mvT hZ (ow hw 6 rfl)) (mvT hZ (ow hw 7 rfl)) (by decide) (backOf (W := 0) (r0_1 l Z a0 hw [] wMultiplexing_FIFO wArrayList_DEFAULTCAPACITY_EMPTY_ELEMENTDATA wAnalysis__VALUES k_wAnalysis__VALUES wAnalysis_FIFO wAnalysis_SFA wAnalysis_PMOO wAnalysis_PRIORITY k_wArrayList_DEFAULTCAPACITY_EMPTY_ELEMENTDATA wMultiplexing_ARBITRARY wMultiplexing_PRIORITY h0 n0 O0 B.2.2.2.2.2.2.2.2.2.2.2.2.2.2.2.2.2.2.1 B.2.2.1 B.2.2.2.2.2.2.2.2.2.2.2.2.2.2.2.2.2.2.2.2.2.2.2.2.2.2.2.1 B.2.2.2.1 B.2.2.2.2.2.2.2.2.2.2.2.2.2.2.2.2.2.2.2.2.2.2.2.1 B.2.2.2.2.2.2.2.2.2.2.2.2.2.2.2.2.2.2.2.2.2.2.2.2.2.2.2.2.2.1 B.2.2.2.2.2.1 B.2.2.2.2.2.2.2.2.2.2.2.2.2.2.2.2.2.2.2.2.2.2.2.2.1 (Ne.symm B.2.2.2.2.2.2.2.2.2.2.2.2.2.2.2.2.2.2.2.2.2.2.2.2.2.2.2.2.2.2.2.2.2.2.2.1) B.2.2.2.2.2.2.2.2.2.2.2.2.2.2.2.2.2.2.2.2.2.2.2.2.2.1 B.2.2.2.2.2.2.2.2.2.2.2.2.2.2.2.2.2.2.2.2.2.2.2.2.2.2.1 (Ne.symm B.2.2.2.2.2.2.2.2.2.2.2.2.2.2.2.2.2.2.2.2.2.2.2.2.2.2.2.2.2.2.2.2.2.2.2.2.1)) hZ (ow hw 7 rfl) (ow hw 6 rfl) (by decide) (by decide)) (g := (mkF m 35 #[iv i0, iv (0 : Int32), rv wMultiplexing_FIFO, .unset, .unset] [(.ref wMultiplexing_FIFO)])) rfl (by rw [hml]; rfl) (argsL := [(.ref wMultiplexing_FIFO)]) (rest := []) (lenOf pd__Lcom_example_virtaus_virtaus_network_Multiplexing__Ljava_util_List_ rfl) rfl (by show 2 * 0 + _ ≤ _; exact Nat.le_of_eq rfl) (hb hby at_35) (fun _ _ => ⟨rfl, e1, (by decide : 0 + 3 ≤ _), (by decide : 0 + 17 ≤ _)⟩)
  dsimp only [Pt.U, Pt.locs, Pt.cells, Pt.slots] at X2 l2 y2 z2 st2 hQ2
  subst l2 y2 z2
  obtain ⟨b2_0, b2_1, k2_0, rfl, N2q, K2, lo2_1, lo2_2, nq2_3, f2_4, f2_5, f2_6, f2_7, f2_8, f2_9, f2_10⟩ := hQ2
  have N2 := Fr.app N0 N2q
  have O_K2 : Old Z n0 T2.heap := O0.keep K2 all0
  have Kp_K2 : Keep h0 T2.heap [] := (Keep.refl h0 []).trans K2 all0
  obtain ⟨cq3, kq3, q3a, q3b, q3c⟩ := isOf hZ rfl f2_4
  obtain ⟨_, _, ⟨T3, L3, k3, n3⟩, -, X3, ⟨Lc3, hQ3, l3, y3, z3⟩, st3⟩ := X2.interfaceBack hx (xi := y12) (y := y11) hown (mvT hZ (ow hw 92 rfl)) (mvT hZ (ow hw 93 rfl)) (mvT hZ (ow hw 94 rfl)) (mvT hZ (ow hw 95 rfl)) (mvT hZ (ow hw 96 rfl)) (mvT hZ (ow hw 97 rfl)) (mvT hZ (ow hw 98 rfl)) (mvT hZ (ow hw 62 rfl)) (by decide) (backOf (W := 0) (r11_1 l Z a0 hw [] b2_0 T2.heap n0 O_K2 f2_7) hZ (ow hw 99 rfl) (ow hw 10 rfl) (by decide) (by decide)) q3a q3b q3c (g := (mkF m 44 #[iv i0, iv (0 : Int32), rv wMultiplexing_FIFO, rv b2_0, .unset] [(.ref b2_0)])) rfl (by rw [hml]; rfl) (Steps.refl _) (argsL := []) (rest := []) (lenOf pd___I rfl) rfl (by show 2 * 0 + _ ≤ _; exact Nat.le_of_eq rfl) (hb hby at_44) (fun _ _ => ⟨rfl, rfl, (by decide : 3 + 0 ≤ _), (by decide : 17 + 0 ≤ _)⟩)
  dsimp only [Pt.U, Pt.locs, Pt.cells, Pt.slots] at X3 l3 y3 z3 st3 hQ3
  subst l3 y3 z3
  obtain ⟨rfl, N3q, e3⟩ := hQ3
  have N3 := Fr.app N2 N3q
  obtain ⟨cq4, kq4, q4a, q4b, q4c⟩ := isOf hZ e3 f2_4
  obtain ⟨_, _, ⟨T4, L4, k4, n4⟩, -, X4, ⟨Lc4, hQ4, l4, y4, z4⟩, st4⟩ := X3.interfaceBack hx (xi := y17) (y := y13) hown (mvT hZ (ow hw 100 rfl)) (mvT hZ (ow hw 101 rfl)) (mvT hZ (ow hw 102 rfl)) (mvT hZ (ow hw 103 rfl)) (mvT hZ (ow hw 104 rfl)) (mvT hZ (ow hw 105 rfl)) (mvT hZ (ow hw 106 rfl)) (mvT hZ (ow hw 62 rfl)) (by decide) (backOf (W := 0) (r13_1 l Z a0 hw [] b2_0 b2_1 k2_0 wAnalysis_FIFO T2.heap n0 O_K2 f2_7 f2_4 f2_6 f2_8) hZ (ow hw 107 rfl) (ow hw 10 rfl) (by decide) (by decide)) q4a q4b q4c (g := (mkF m 55 #[iv i0, iv (0 : Int32), rv wMultiplexing_FIFO, rv b2_0, .unset] [(.int (0 : Int32)), (.ref b2_0)])) rfl (by rw [hml]; rfl) (Steps.refl _) (argsL := [(.int (0 : Int32))]) (rest := []) (lenOf pd__I_Ljava_lang_Object_ rfl) rfl (by show 2 * 0 + _ ≤ _; exact Nat.le_of_eq rfl) (hb hby at_55) (fun _ _ => ⟨rfl, e3, (by decide : 3 + 0 ≤ _), (by decide : 17 + 0 ≤ _)⟩)
  dsimp only [Pt.U, Pt.locs, Pt.cells, Pt.slots] at X4 l4 y4 z4 st4 hQ4
  subst l4 y4 z4
  obtain ⟨rfl, N4q, e4⟩ := hQ4
  have N4 := Fr.app N3 N4q
  obtain ⟨T5, X5, e5, st5⟩ := getS2 X4 hx hZ hown (host := "") (Or.inl (ow hw 121 rfl)) Via.refl e4 (B.2.2.2.2.1.ext O_K2.2) (g := (mkF m 60 #[iv i0, iv (0 : Int32), rv wMultiplexing_FIFO, rv b2_0, .unset] [(.ref wAnalysis_FIFO)])) rfl (hb hby at_60)
  obtain ⟨fs, hr, hrun, hended, hW, hsame⟩ := X5.leave (v := some (.int (1 : Int32))) (fun h => by rw [Bd.returns] at h; cases h)
  refine ⟨_, _, pre0 _ ?_, hrun, hended, _, _, rfl, ?_, ⟨_, rfl⟩, hW, hsame.mono (by decide) (by decide)⟩
  · show St p e below s₁ m 0 #[iv i0, .unset, .unset, .unset, .unset] [] _
    refine XS.iloadN X0.here hx rfl (hb hby at_0) rfl ?_
    show St p e below s₁ m 1 #[iv i0, .unset, .unset, .unset, .unset] [(.int i0)] _
    refine X0.ldcInt hx hown (mvT hZ (ow hw 0 rfl)) (g := (mkF m 1 #[iv i0, .unset, .unset, .unset, .unset] [(.int i0)])) rfl (hb hby at_1) _ ?_
    show St p e below s₁ m 3 #[iv i0, .unset, .unset, .unset, .unset] [(.int (2147483647 : Int32)), (.int i0)] _
    refine XS.iand X0.here hx rfl (hb hby at_3) rfl ?_
    show St p e below s₁ m 4 #[iv i0, .unset, .unset, .unset, .unset] [(.int (i0 &&& (2147483647 : Int32)))] _
    refine XS.iconst X0.here hx rfl (hb hby at_4) ?_
    show St p e below s₁ m 5 #[iv i0, .unset, .unset, .unset, .unset] [(.int (3 : Int32)), (.int (i0 &&& (2147483647 : Int32)))] _
    refine Jvm.RoadKit.iremM (g := (mkF m 5 #[iv i0, .unset, .unset, .unset, .unset] [(.int (3 : Int32)), (.int (i0 &&& (2147483647 : Int32)))])) X0 hx rfl (hb hby at_5) rfl (by decide : ¬ ((3 : Int32) = (0 : Int32))) ?_
    show St p e below s₁ m 6 #[iv i0, .unset, .unset, .unset, .unset] [(.int ((i0 &&& (2147483647 : Int32)) % (3 : Int32)))] _
    rw [pin0]
    show St p e below s₁ m 6 #[iv i0, .unset, .unset, .unset, .unset] [(.int (0 : Int32))] _
    refine XS.istoreN X0.here hx rfl (hb hby at_6) rfl (l' := #[iv i0, iv (0 : Int32), .unset, .unset, .unset]) rfl ?_
    show St p e below s₁ m 7 #[iv i0, iv (0 : Int32), .unset, .unset, .unset] [] _
    refine XS.iloadN X0.here hx rfl (hb hby at_7) rfl ?_
    show St p e below s₁ m 8 #[iv i0, iv (0 : Int32), .unset, .unset, .unset] [(.int (0 : Int32))] _
    refine XS.ifNo X0.here hx rfl (hb hby at_8) rfl ((if0 _ _).trans (teq (rfl : (0 : Int32) = (0 : Int32))).2) ?_
    show St p e below s₁ m 11 #[iv i0, iv (0 : Int32), .unset, .unset, .unset] [] _
    refine st1 _ ?_
    show St p e below T1 m 14 #[iv i0, iv (0 : Int32), .unset, .unset, .unset] [(.ref wMultiplexing_FIFO)] _
    refine XS.astoreN X1.here hx rfl (hb hby at_14) rfl rfl (l' := #[iv i0, iv (0 : Int32), rv wMultiplexing_FIFO, .unset, .unset]) rfl ?_
    show St p e below T1 m 15 #[iv i0, iv (0 : Int32), rv wMultiplexing_FIFO, .unset, .unset] [] _
    refine XS.goto X1.here hx rfl (pc0 := 15) (pc' := 34) rfl (hb hby at_15) (by decide) (by decide) ?_
    show St p e below T1 m 34 #[iv i0, iv (0 : Int32), rv wMultiplexing_FIFO, .unset, .unset] [] _
    refine XS.aloadN X1.here hx rfl (hb hby at_34) rfl rfl ?_
    show St p e below T1 m 35 #[iv i0, iv (0 : Int32), rv wMultiplexing_FIFO, .unset, .unset] [(.ref wMultiplexing_FIFO)] _
    refine st2 _ ?_
    show St p e below T2 m 38 #[iv i0, iv (0 : Int32), rv wMultiplexing_FIFO, .unset, .unset] [(.ref b2_0)] _
    refine XS.astoreN X2.here hx rfl (hb hby at_38) rfl rfl (l' := #[iv i0, iv (0 : Int32), rv wMultiplexing_FIFO, rv b2_0, .unset]) rfl ?_
    show St p e below T2 m 39 #[iv i0, iv (0 : Int32), rv wMultiplexing_FIFO, rv b2_0, .unset] [] _
    refine XS.iloadN X2.here hx rfl (hb hby at_39) rfl ?_
    show St p e below T2 m 40 #[iv i0, iv (0 : Int32), rv wMultiplexing_FIFO, rv b2_0, .unset] [(.int (0 : Int32))] _
    refine XS.ifNo X2.here hx rfl (hb hby at_40) rfl ((if0 _ _).trans (teq (rfl : (0 : Int32) = (0 : Int32))).2) ?_
    show St p e below T2 m 43 #[iv i0, iv (0 : Int32), rv wMultiplexing_FIFO, rv b2_0, .unset] [] _
    refine XS.aloadN X2.here hx rfl (hb hby at_43) rfl rfl ?_
    show St p e below T2 m 44 #[iv i0, iv (0 : Int32), rv wMultiplexing_FIFO, rv b2_0, .unset] [(.ref b2_0)] _
    refine st3.trans ?_
    show St p e below T3 m 49 #[iv i0, iv (0 : Int32), rv wMultiplexing_FIFO, rv b2_0, .unset] [(.int (1 : Int32))] _
    refine XS.iconst X3.here hx rfl (hb hby at_49) ?_
    show St p e below T3 m 50 #[iv i0, iv (0 : Int32), rv wMultiplexing_FIFO, rv b2_0, .unset] [(.int (1 : Int32)), (.int (1 : Int32))] _
    refine XS.icmpNo X3.here hx rfl (hb hby at_50) rfl (teq (rfl : (1 : Int32) = (1 : Int32))).2 ?_
    show St p e below T3 m 53 #[iv i0, iv (0 : Int32), rv wMultiplexing_FIFO, rv b2_0, .unset] [] _
    refine XS.aloadN X3.here hx rfl (hb hby at_53) rfl rfl ?_
    show St p e below T3 m 54 #[iv i0, iv (0 : Int32), rv wMultiplexing_FIFO, rv b2_0, .unset] [(.ref b2_0)] _
    refine XS.iconst X3.here hx rfl (hb hby at_54) ?_
    show St p e below T3 m 55 #[iv i0, iv (0 : Int32), rv wMultiplexing_FIFO, rv b2_0, .unset] [(.int (0 : Int32)), (.ref b2_0)] _
    refine st4.trans ?_
    show St p e below T4 m 60 #[iv i0, iv (0 : Int32), rv wMultiplexing_FIFO, rv b2_0, .unset] [(.ref wAnalysis_FIFO)] _
    refine st5 _ ?_
    show St p e below T5 m 63 #[iv i0, iv (0 : Int32), rv wMultiplexing_FIFO, rv b2_0, .unset] [(.ref wAnalysis_FIFO), (.ref wAnalysis_FIFO)] _
    refine Jvm.RoadKit.acmp (g := (mkF m 63 #[iv i0, iv (0 : Int32), rv wMultiplexing_FIFO, rv b2_0, .unset] [(.ref wAnalysis_FIFO), (.ref wAnalysis_FIFO)])) X5 hx rfl rfl rfl (pc0 := 63) (pc' := 66) (same := true) rfl (hb hby at_63) rfl (decide_eq_true rfl) (by decide) (by decide) ?_
    show St p e below T5 m 66 #[iv i0, iv (0 : Int32), rv wMultiplexing_FIFO, rv b2_0, .unset] [] _
    refine XS.iconst X5.here hx rfl (hb hby at_66) ?_
    show St p e below T5 m 67 #[iv i0, iv (0 : Int32), rv wMultiplexing_FIFO, rv b2_0, .unset] [(.int (1 : Int32))] _
    refine XS.goto X5.here hx rfl (pc0 := 67) (pc' := 71) rfl (hb hby at_67) (by decide) (by decide) ?_
    show St p e below T5 m 71 #[iv i0, iv (0 : Int32), rv wMultiplexing_FIFO, rv b2_0, .unset] [(.int (1 : Int32))] _
    refine XS.istore X5.here hx rfl (hb hby at_71) rfl (l' := #[iv i0, iv (0 : Int32), rv wMultiplexing_FIFO, rv b2_0, iv (1 : Int32)]) rfl ?_
    show St p e below T5 m 73 #[iv i0, iv (0 : Int32), rv wMultiplexing_FIFO, rv b2_0, iv (1 : Int32)] [] _
    refine XS.goto X5.here hx rfl (pc0 := 73) (pc' := 157) rfl (hb hby at_73) (by decide) (by decide) ?_
    show St p e below T5 m 157 #[iv i0, iv (0 : Int32), rv wMultiplexing_FIFO, rv b2_0, iv (1 : Int32)] [] _
    refine XS.iload X5.here hx rfl (hb hby at_157) rfl ?_
    show St p e below T5 m 159 #[iv i0, iv (0 : Int32), rv wMultiplexing_FIFO, rv b2_0, iv (1 : Int32)] [(.int (1 : Int32))] _
    exact retN X5 hx (t := .boolean) Bd.returns (by simp) (hb hby at_159) hr
  · show law_1Q Z wMultiplexing_FIFO wAnalysis__VALUES wAnalysis_FIFO wAnalysis_SFA wAnalysis_PMOO wAnalysis_PRIORITY wMultiplexing_ARBITRARY wMultiplexing_PRIORITY wArrayList_EMPTY_ELEMENTDATA wArrayList_DEFAULTCAPACITY_EMPTY_ELEMENTDATA k_wAnalysis__VALUES k_wArrayList_EMPTY_ELEMENTDATA k_wArrayList_DEFAULTCAPACITY_EMPTY_ELEMENTDATA i0 h0 n0 _ T5.heap _
    rw [e5]
    exact ⟨rfl, N4⟩
def r6_2Q (Z : State) (a1 : Addr) (a2 : Addr) (a3 : Addr) (k4 : ClassId) (a5 : Addr) (h0 : Heap) (n0 : Nat) (v : Option Value) (h : Heap) (L : List Loc) : Prop := v = none ∧ Fr n0 L ∧ Keep h0 h [a3, a1] ∧ Arv Z h a3 k4 (.object "java/lang/Object") (10 : Int32) [(.ref a5), (.ref a2), .null, .null, .null, .null, .null, .null, .null, .null] .null ∧ Ovr Z k4 "java/lang/Object" ∧ Exa Z h a3 "[Ljava/lang/Object;" ∧ Fld Z h a1 "java/util/ArrayList" "size" "I" (.int (2 : Int32)) ∧ Exa Z h a1 "java/util/ArrayList" ∧ Fld Z h a1 "java/util/AbstractList" "modCount" "I" (.int (2 : Int32)) ∧ Fld Z h a1 "java/util/ArrayList" "elementData" "[Ljava/lang/Object;" (.ref a3)
theorem r6_2e (m : MethodId) (a1 : Addr) (a2 : Addr) (a3 : Addr) (k4 : ClassId) (a5 : Addr) : entryFrame m #[(.ref a1), (.ref a2), (.ref a3), (.int (1 : Int32))] 4 = mkF m 0 #[rv a1, rv a2, rv a3, iv (1 : Int32)] [] := by first | (simp [entryFrame, mkF, argsToLocals, Value.category]; done) | rfl
set_option maxRecDepth 65536 in
set_option maxHeartbeats 40000000 in
theorem r6_2 (l : Launch) (Z : State) (a0 : Array Value) (hw : HW a0 Z) (ws : List Jvm.Cond) (a1 : Addr) (a2 : Addr) (a3 : Addr) (k4 : ClassId) (a5 : Addr) (h0 : Heap) (n0 : Nat) (O0 : Old Z n0 h0) (H6 : Arv Z h0 a3 k4 (.object "java/lang/Object") (10 : Int32) [(.ref a5), .null, .null, .null, .null, .null, .null, .null, .null, .null] .null) (H9 : Ovr Z k4 "java/lang/Object") (H10 : Exa Z Z.heap a2 "com/example/virtaus/virtaus/analysis/Analysis") (H12 : n0 ≤ a3) (H14 : Fld Z h0 a1 "java/util/ArrayList" "size" "I" (.int (1 : Int32))) (H15 : a1 ≠ a3) (H17 : Exa Z h0 a1 "java/util/ArrayList") (H20 : n0 ≤ a1) (H23 : Exa Z h0 a3 "[Ljava/lang/Object;") (H25 : Fld Z h0 a1 "java/util/AbstractList" "modCount" "I" (.int (2 : Int32))) (H28 : Fld Z h0 a1 "java/util/ArrayList" "elementData" "[Ljava/lang/Object;" (.ref a3)) :
    MF l y6 jdk_38_method_24_code 4 none ws ({ frames := 0, cells := 0, slots := 0, locals := 0 } : Room) Z #[(.ref a1), (.ref a2), (.ref a3), (.int (1 : Int32))] h0 (r6_2Q Z a1 a2 a3 k4 a5 h0 n0) := by
  refine MetFree.of_bodySF (plainFor_of_name pn_java_util_ArrayList) hisR ?_
  intro p e s m args below meth c s₁ Bd hml0 hP hK
  obtain ⟨rfl, hZ, hh⟩ := hP
  have hx := Bd.exec
  have hby := Bd.bytes
  have hml : c.maxLocals = 4 := hml0
  have hown : s.vm.findClass "java/util/ArrayList" = some m.cls := findClass_of_methodNamed Bd.named
  have hnm := (name_of_methodNamed Bd.named Bd.method).1
  have X0 : Stand p l e ({ frames := 0, cells := 0, slots := 0, locals := 0 } : Room) s m #[(.ref a1), (.ref a2), (.ref a3), (.int (1 : Int32))] below meth c s₁ [] 0 0 := Stand.of_body Bd
  have e0 : s₁.heap = h0 := by rw [← hh, Bd.state]; rfl
  have N0 := Fr.nil n0
  have pre0 : ∀ t, Steps p.tables e below (s₁.setTop (mkF m 0 #[rv a1, rv a2, rv a3, iv (1 : Int32)] [])) t → Steps p.tables e below (s₁.setTop (entryFrame m #[(.ref a1), (.ref a2), (.ref a3), (.int (1 : Int32))] 4)) t := fun t k => castTop (r6_2e m a1 a2 a3 k4 a5) k
  obtain ⟨cl7, Ar7, q7, S7, M7, H7, G7⟩ := id H6
  obtain ⟨cl8, Ar8, q8, S8, M8, H8, G8⟩ := id H6
  have hin8 : ¬ ((1 : Int32) < 0 ∨ cl8.slots.size ≤ ((1 : Int32)).toNatClampNeg) := inb_of S8 ⟨by decide, by decide⟩
  obtain ⟨T8, h8, X8, e8, W8, st8⟩ := stR X0 hx hZ e0 Ar8 (j := (1 : Int32)) hin8 rfl (Sto.ofV Ar8 q8 H9 (Ins.of_exa (H10.ext O0.2) (ow hw 89 rfl))) (g := (mkF m 14 #[rv a1, rv a2, rv a3, iv (1 : Int32)] [(.ref a2), (.int (1 : Int32)), (.ref a3)])) rfl rfl (hb hby d6_14)
  have O_W8 : Old Z n0 h8 := O0.wr W8 H12
  have Kp_W8 : Keep h0 h8 [a3, a1] := (Keep.refl h0 [a3, a1]).wr W8 (Or.inl (List.mem_of_getElem? (i := 0) rfl))
  have N13 := Fr.snoc X8 N0 H12
  have f11 : Arv Z h8 a3 k4 (.object "java/lang/Object") (10 : Int32) [(.ref a5), (.ref a2), .null, .null, .null, .null, .null, .null, .null, .null] .null := Arv.set Ar8 q8 S8 M8 H8 G8 rfl W8 1 rfl (Nat.le_of_ble_eq_true rfl)
  have f16 := (H14.other W8 (Or.inl H15))
  have f18 := (H17.wr W8)
  obtain ⟨T19, h19, X19, e19, W19, st19⟩ := putF X8 hx hZ hown (host := "") (Or.inl (ow hw 66 rfl)) Via.refl e8 f16 f18 (Or.inl (ow hw 67 rfl)) (ow hw 9 rfl) (ty := .int) (by decide) rfl rfl (g := (mkF m 19 #[rv a1, rv a2, rv a3, iv (1 : Int32)] [(.int (2 : Int32)), (.ref a1)])) rfl rfl (hb hby d6_19)
  have O_W19 : Old Z n0 h19 := O_W8.wr W19 H20
  have Kp_W19 : Keep h0 h19 [a3, a1] := Kp_W8.wr W19 (Or.inl (List.mem_of_getElem? (i := 1) rfl))
  have N21 := Fr.snoc X19 N13 H20
  have f22 := f16.same W19
  have f24 := ((H23.wr W8).wr W19)
  have f26 := (f18.wr W19)
  have f27 := ((H25.other W8 (Or.inl H15)).other W19 (Or.inr (slot_ne (Or.inl (ow hw 30 rfl)) (Or.inl (ow hw 67 rfl)) (by decide) (t := .int) (t' := .int) (by decide) (by decide))))
  have f29 := ((H28.other W8 (Or.inl H15)).other W19 (Or.inr (slot_ne (Or.inl (ow hw 33 rfl)) (Or.inl (ow hw 67 rfl)) (by decide) (t := (.array (.object "java/lang/Object"))) (t' := .int) (by decide) (by decide))))
  have f30 := (f11.other W19 (Ne.symm H15))
  have f31 := H9
  obtain ⟨fs, hr, hrun, hended, hW, hsame⟩ := X19.leave (v := none) (fun _ => rfl)
  refine ⟨_, _, pre0 _ ?_, hrun, hended, _, _, rfl, ?_, ⟨_, rfl⟩, hW, hsame.mono (by decide) (by decide)⟩
  · show St p e below s₁ m 0 #[rv a1, rv a2, rv a3, iv (1 : Int32)] [] _
    refine XS.iloadN X0.here hx rfl (hb hby d6_0) rfl ?_
    show St p e below s₁ m 1 #[rv a1, rv a2, rv a3, iv (1 : Int32)] [(.int (1 : Int32))] _
    refine XS.aloadN X0.here hx rfl (hb hby d6_1) rfl rfl ?_
    show St p e below s₁ m 2 #[rv a1, rv a2, rv a3, iv (1 : Int32)] [(.ref a3), (.int (1 : Int32))] _
    refine X0.arraylength hx (by rw [e0]; exact Ar7.1) (State.isArrayOf_alike hZ.alike Ar7.2.1) (g := (mkF m 2 #[rv a1, rv a2, rv a3, iv (1 : Int32)] [(.ref a3), (.int (1 : Int32))])) rfl rfl (hb hby d6_2) _ ?_
    rw [len_of S7 M7]
    show St p e below s₁ m 3 #[rv a1, rv a2, rv a3, iv (1 : Int32)] [(.int (10 : Int32)), (.int (1 : Int32))] _
    refine XS.icmpYes X0.here hx rfl (pc0 := 3) (pc' := 11) rfl (hb hby d6_3) rfl (feq (by decide : ¬ ((1 : Int32) = (10 : Int32)))).2 (by decide) (by decide) ?_
    show St p e below s₁ m 11 #[rv a1, rv a2, rv a3, iv (1 : Int32)] [] _
    refine XS.aloadN X0.here hx rfl (hb hby d6_11) rfl rfl ?_
    show St p e below s₁ m 12 #[rv a1, rv a2, rv a3, iv (1 : Int32)] [(.ref a3)] _
    refine XS.iloadN X0.here hx rfl (hb hby d6_12) rfl ?_
    show St p e below s₁ m 13 #[rv a1, rv a2, rv a3, iv (1 : Int32)] [(.int (1 : Int32)), (.ref a3)] _
    refine XS.aloadN X0.here hx rfl (hb hby d6_13) rfl rfl ?_
    show St p e below s₁ m 14 #[rv a1, rv a2, rv a3, iv (1 : Int32)] [(.ref a2), (.int (1 : Int32)), (.ref a3)] _
    refine st8 _ ?_
    show St p e below T8 m 15 #[rv a1, rv a2, rv a3, iv (1 : Int32)] [] _
    refine XS.aloadN X8.here hx rfl (hb hby d6_15) rfl rfl ?_
    show St p e below T8 m 16 #[rv a1, rv a2, rv a3, iv (1 : Int32)] [(.ref a1)] _
    refine XS.iloadN X8.here hx rfl (hb hby d6_16) rfl ?_
    show St p e below T8 m 17 #[rv a1, rv a2, rv a3, iv (1 : Int32)] [(.int (1 : Int32)), (.ref a1)] _
    refine XS.iconst X8.here hx rfl (hb hby d6_17) ?_
    show St p e below T8 m 18 #[rv a1, rv a2, rv a3, iv (1 : Int32)] [(.int (1 : Int32)), (.int (1 : Int32)), (.ref a1)] _
    refine XS.iadd X8.here hx rfl (hb hby d6_18) rfl ?_
    show St p e below T8 m 19 #[rv a1, rv a2, rv a3, iv (1 : Int32)] [(.int (2 : Int32)), (.ref a1)] _
    refine st19 _ ?_
    show St p e below T19 m 22 #[rv a1, rv a2, rv a3, iv (1 : Int32)] [] _
    exact X19.returnOut hx Bd.returns (hb hby d6_22) hr
  · show r6_2Q Z a1 a2 a3 k4 a5 h0 n0 _ T19.heap _
    rw [e19]
    exact ⟨rfl, N21, Kp_W19, f30, f31, f24, f22, f26, f27, f29⟩
def r5_2Q (Z : State) (a1 : Addr) (a2 : Addr) (a10 : Addr) (k18 : ClassId) (a19 : Addr) (h0 : Heap) (n0 : Nat) (v : Option Value) (h : Heap) (L : List Loc) : Prop := v = some (.int (1 : Int32)) ∧ Fr n0 L ∧ Keep h0 h [a1, a10] ∧ Fld Z h a1 "java/util/AbstractList" "modCount" "I" (.int (2 : Int32)) ∧ Exa Z h a1 "java/util/ArrayList" ∧ Fld Z h a1 "java/util/ArrayList" "elementData" "[Ljava/lang/Object;" (.ref a10) ∧ Fld Z h a1 "java/util/ArrayList" "size" "I" (.int (2 : Int32)) ∧ Arv Z h a10 k18 (.object "java/lang/Object") (10 : Int32) [(.ref a19), (.ref a2), .null, .null, .null, .null, .null, .null, .null, .null] .null ∧ Ovr Z k18 "java/lang/Object" ∧ Exa Z h a10 "[Ljava/lang/Object;"
theorem r5_2e (m : MethodId) (a1 : Addr) (a2 : Addr) (a10 : Addr) (k18 : ClassId) (a19 : Addr) : entryFrame m #[(.ref a1), (.ref a2)] 2 = mkF m 0 #[rv a1, rv a2] [] := by first | (simp [entryFrame, mkF, argsToLocals, Value.category]; done) | rfl
set_option maxRecDepth 65536 in
set_option maxHeartbeats 40000000 in
theorem r5_2 (l : Launch) (Z : State) (a0 : Array Value) (hw : HW a0 Z) (ws : List Jvm.Cond) (a1 : Addr) (a2 : Addr) (a10 : Addr) (k18 : ClassId) (a19 : Addr) (h0 : Heap) (n0 : Nat) (O0 : Old Z n0 h0) (H3 : Fld Z h0 a1 "java/util/AbstractList" "modCount" "I" (.int (1 : Int32))) (H5 : Exa Z h0 a1 "java/util/ArrayList") (H7 : n0 ≤ a1) (H11 : Fld Z h0 a1 "java/util/ArrayList" "elementData" "[Ljava/lang/Object;" (.ref a10)) (H15 : Fld Z h0 a1 "java/util/ArrayList" "size" "I" (.int (1 : Int32))) (H20 : Arv Z h0 a10 k18 (.object "java/lang/Object") (10 : Int32) [(.ref a19), .null, .null, .null, .null, .null, .null, .null, .null, .null] .null) (H21 : a10 ≠ a1) (H23 : Ovr Z k18 "java/lang/Object") (H25 : Exa Z Z.heap a2 "com/example/virtaus/virtaus/analysis/Analysis") (H26 : n0 ≤ a10) (H27 : Exa Z h0 a10 "[Ljava/lang/Object;") :
    MF l y5 jdk_38_method_25_code 2 (some .boolean) ws ({ frames := 1, cells := 0, slots := 0, locals := 15 } : Room) Z #[(.ref a1), (.ref a2)] h0 (r5_2Q Z a1 a2 a10 k18 a19 h0 n0) := by
  refine MetFree.of_bodySF (plainFor_of_name pn_java_util_ArrayList) hisR ?_
  intro p e s m args below meth c s₁ Bd hml0 hP hK
  obtain ⟨rfl, hZ, hh⟩ := hP
  have hx := Bd.exec
  have hby := Bd.bytes
  have hml : c.maxLocals = 2 := hml0
  have hown : s.vm.findClass "java/util/ArrayList" = some m.cls := findClass_of_methodNamed Bd.named
  have hnm := (name_of_methodNamed Bd.named Bd.method).1
  have X0 : Stand p l e ({ frames := 1, cells := 0, slots := 0, locals := 15 } : Room) s m #[(.ref a1), (.ref a2)] below meth c s₁ [] 0 0 := Stand.of_body Bd
  have e0 : s₁.heap = h0 := by rw [← hh, Bd.state]; rfl
  have N0 := Fr.nil n0
  have pre0 : ∀ t, Steps p.tables e below (s₁.setTop (mkF m 0 #[rv a1, rv a2] [])) t → Steps p.tables e below (s₁.setTop (entryFrame m #[(.ref a1), (.ref a2)] 2)) t := fun t k => castTop (r5_2e m a1 a2 a10 k18 a19) k
  obtain ⟨T4, X4, e4, st4⟩ := getF X0 hx hZ hown (host := "") (Or.inl (ow hw 64 rfl)) (Via.of (ow hw 65 rfl)) e0 H3 (g := (mkF m 2 #[rv a1, rv a2] [(.ref a1), (.ref a1)])) rfl rfl (hb hby d5_2)
  obtain ⟨T6, h6, X6, e6, W6, st6⟩ := putF X4 hx hZ hown (host := "") (Or.inl (ow hw 64 rfl)) (Via.of (ow hw 65 rfl)) e4 H3 H5 (Or.inl (ow hw 30 rfl)) (ow hw 9 rfl) (ty := .int) (by decide) rfl rfl (g := (mkF m 7 #[rv a1, rv a2] [(.int (2 : Int32)), (.ref a1)])) rfl rfl (hb hby d5_7)
  have O_W6 : Old Z n0 h6 := O0.wr W6 H7
  have Kp_W6 : Keep h0 h6 [a1, a10] := (Keep.refl h0 [a1, a10]).wr W6 (Or.inl (List.mem_of_getElem? (i := 0) rfl))
  have N8 := Fr.snoc X6 N0 H7
  have f9 := H3.same W6
  have f12 := (H5.wr W6)
  have f13 := (H11.other W6 (Or.inr (slot_ne (Or.inl (ow hw 33 rfl)) (Or.inl (ow hw 30 rfl)) (by decide) (t := (.array (.object "java/lang/Object"))) (t' := .int) (by decide) (by decide))))
  obtain ⟨T14, X14, e14, st14⟩ := getF X6 hx hZ hown (host := "") (Or.inl (ow hw 32 rfl)) Via.refl e6 f13 (g := (mkF m 13 #[rv a1, rv a2] [(.ref a1), (.ref a2), (.ref a1)])) rfl rfl (hb hby d5_13)
  have f16 := (H15.other W6 (Or.inr (slot_ne (Or.inl (ow hw 67 rfl)) (Or.inl (ow hw 30 rfl)) (by decide) (t := .int) (t' := .int) (by decide) (by decide))))
  obtain ⟨T17, X17, e17, st17⟩ := getF X14 hx hZ hown (host := "") (Or.inl (ow hw 66 rfl)) Via.refl e14 f16 (g := (mkF m 17 #[rv a1, rv a2] [(.ref a1), (.ref a10), (.ref a2), (.ref a1)])) rfl rfl (hb hby d5_17)
  have f22 := (H20.other W6 H21)
  have f24 := H23
  have f28 := (H27.wr W6)
  obtain ⟨cq29, q29, q29'⟩ := f12.cell
  obtain ⟨_, _, ⟨T29, L29, k29, n29⟩, -, X29, ⟨Lc29, hQ29, l29, y29, z29⟩, st29⟩ := X17.privateBack hx (y := y6) hown (mvT hZ (ow hw 68 rfl)) (mvT hZ (ow hw 69 rfl)) (mvT hZ (ow hw 71 rfl)) (Cond.privateMethod_at (mvP hZ (ow hw 70 rfl) (args := #[]))) (mvT hZ (ow hw 72 rfl)) (by decide) (backOf (W := 0) (r6_2 l Z a0 hw [] a1 a2 a10 k18 a19 h6 n0 O_W6 f22 f24 H25 H26 f16 (Ne.symm H21) f12 H7 f28 f9 f13) hZ (ow hw 72 rfl) (ow hw 10 rfl) (by decide) (by decide)) (g := (mkF m 20 #[rv a1, rv a2] [(.int (1 : Int32)), (.ref a10), (.ref a2), (.ref a1)])) rfl (by rw [hml]; rfl) (Steps.refl _) (a := a1) (by rw [e17]; exact q29) q29' (argsL := [(.ref a2), (.ref a10), (.int (1 : Int32))]) (rest := []) (lenOf pd__Ljava_lang_Object__Ljava_lang_Object_I_V rfl) rfl (by show 2 * 0 + _ ≤ _; exact Nat.le_of_eq rfl) (hb hby d5_20) (fun _ _ => ⟨rfl, e17, (by decide : 0 + 0 ≤ _), (by decide : 0 + 0 ≤ _)⟩)
  dsimp only [Pt.U, Pt.locs, Pt.cells, Pt.slots] at X29 l29 y29 z29 st29 hQ29
  subst l29 y29 z29
  obtain ⟨rfl, N29q, K29, f29_1, f29_2, f29_3, f29_4, f29_5, f29_6, f29_7⟩ := hQ29
  have N29 := Fr.app N8 N29q
  have O_K29 : Old Z n0 T29.heap := O_W6.keep K29 (allS H26 (allS H7 all0))
  have Kp_K29 : Keep h0 T29.heap [a1, a10] := Kp_W6.trans K29 (allS (Or.inl (List.mem_of_getElem? (i := 1) rfl)) (allS (Or.inl (List.mem_of_getElem? (i := 0) rfl)) all0))
  obtain ⟨fs, hr, hrun, hended, hW, hsame⟩ := X29.leave (v := some (.int (1 : Int32))) (fun h => by rw [Bd.returns] at h; cases h)
  refine ⟨_, _, pre0 _ ?_, hrun, hended, _, _, rfl, ?_, ⟨_, rfl⟩, hW, hsame.mono (by decide) (by decide)⟩
  · show St p e below s₁ m 0 #[rv a1, rv a2] [] _
    refine XS.aloadN X0.here hx rfl (hb hby d5_0) rfl rfl ?_
    show St p e below s₁ m 1 #[rv a1, rv a2] [(.ref a1)] _
    refine XS.dup X0.here hx rfl (hb hby d5_1) rfl rfl ?_
    show St p e below s₁ m 2 #[rv a1, rv a2] [(.ref a1), (.ref a1)] _
    refine st4 _ ?_
    show St p e below T4 m 5 #[rv a1, rv a2] [(.int (1 : Int32)), (.ref a1)] _
    refine XS.iconst X4.here hx rfl (hb hby d5_5) ?_
    show St p e below T4 m 6 #[rv a1, rv a2] [(.int (1 : Int32)), (.int (1 : Int32)), (.ref a1)] _
    refine XS.iadd X4.here hx rfl (hb hby d5_6) rfl ?_
    show St p e below T4 m 7 #[rv a1, rv a2] [(.int (2 : Int32)), (.ref a1)] _
    refine st6 _ ?_
    show St p e below T6 m 10 #[rv a1, rv a2] [] _
    refine XS.aloadN X6.here hx rfl (hb hby d5_10) rfl rfl ?_
    show St p e below T6 m 11 #[rv a1, rv a2] [(.ref a1)] _
    refine XS.aloadN X6.here hx rfl (hb hby d5_11) rfl rfl ?_
    show St p e below T6 m 12 #[rv a1, rv a2] [(.ref a2), (.ref a1)] _
    refine XS.aloadN X6.here hx rfl (hb hby d5_12) rfl rfl ?_
    show St p e below T6 m 13 #[rv a1, rv a2] [(.ref a1), (.ref a2), (.ref a1)] _
    refine st14 _ ?_
    show St p e below T14 m 16 #[rv a1, rv a2] [(.ref a10), (.ref a2), (.ref a1)] _
    refine XS.aloadN X14.here hx rfl (hb hby d5_16) rfl rfl ?_
    show St p e below T14 m 17 #[rv a1, rv a2] [(.ref a1), (.ref a10), (.ref a2), (.ref a1)] _
    refine st17 _ ?_
    show St p e below T17 m 20 #[rv a1, rv a2] [(.int (1 : Int32)), (.ref a10), (.ref a2), (.ref a1)] _
    refine st29.trans ?_
    show St p e below T29 m 23 #[rv a1, rv a2] [] _
    refine XS.iconst X29.here hx rfl (hb hby d5_23) ?_
    show St p e below T29 m 24 #[rv a1, rv a2] [(.int (1 : Int32))] _
    exact retN X29 hx (t := .boolean) Bd.returns (by simp) (hb hby d5_24) hr
  · show r5_2Q Z a1 a2 a10 k18 a19 h0 n0 _ T29.heap _
    exact ⟨rfl, N29, Kp_K29, f29_6, f29_5, f29_7, f29_4, f29_1, f29_2, f29_3⟩
def r0_2Q (Z : State) (a1 : Addr) (a7 : Addr) (a11 : Addr) (k13 : ClassId) (a14 : Addr) (a15 : Addr) (a16 : Addr) (a17 : Addr) (a23 : Addr) (k34 : ClassId) (a51 : Addr) (h0 : Heap) (n0 : Nat) (v : Option Value) (h : Heap) (L : List Loc) : Prop := ∃ (b2 : Addr) (b37_0 : Addr) (k37_0 : ClassId), v = some (.ref b2) ∧ Fr n0 L ∧ Keep h0 h [] ∧ h0.size ≤ b2 ∧ h0.size ≤ b37_0 ∧ b2 ≠ b37_0 ∧ Exa Z h b2 "java/util/ArrayList" ∧ Fld Z h b2 "java/util/AbstractList" "modCount" "I" (.int (2 : Int32)) ∧ Fld Z h b2 "java/util/ArrayList" "elementData" "[Ljava/lang/Object;" (.ref b37_0) ∧ Fld Z h b2 "java/util/ArrayList" "size" "I" (.int (2 : Int32)) ∧ Arv Z h b37_0 k37_0 (.object "java/lang/Object") (10 : Int32) [(.ref a15), (.ref a16), .null, .null, .null, .null, .null, .null, .null, .null] .null ∧ Exa Z h b37_0 "[Ljava/lang/Object;" ∧ Ovr Z k37_0 "java/lang/Object"
theorem r0_2e (m : MethodId) (a1 : Addr) (a7 : Addr) (a11 : Addr) (k13 : ClassId) (a14 : Addr) (a15 : Addr) (a16 : Addr) (a17 : Addr) (a23 : Addr) (k34 : ClassId) (a51 : Addr) : entryFrame m #[(.ref a1)] 6 = mkF m 0 #[rv a1, .unset, .unset, .unset, .unset, .unset] [] := by first | (simp [entryFrame, mkF, argsToLocals, Value.category]; done) | rfl
set_option maxRecDepth 65536 in
set_option maxHeartbeats 40000000 in
theorem r0_2 (l : Launch) (Z : State) (a0 : Array Value) (hw : HW a0 Z) (ws : List Jvm.Cond) (a1 : Addr) (a7 : Addr) (a11 : Addr) (k13 : ClassId) (a14 : Addr) (a15 : Addr) (a16 : Addr) (a17 : Addr) (a23 : Addr) (k34 : ClassId) (a51 : Addr) (h0 : Heap) (n0 : Nat) (O0 : Old Z n0 h0) (H8 : Sta Z Z.heap "java/util/ArrayList" "DEFAULTCAPACITY_EMPTY_ELEMENTDATA" "[Ljava/lang/Object;" (.ref a7)) (H12 : Sta Z Z.heap "com/example/virtaus/virtaus/analysis/Analysis" "$VALUES" "[Lcom/example/virtaus/virtaus/analysis/Analysis;" (.ref a11)) (H18 : Arv Z Z.heap a11 k13 (.object "com/example/virtaus/virtaus/analysis/Analysis") (4 : Int32) [(.ref a14), (.ref a15), (.ref a16), (.ref a17)] .null) (H19 : Exa Z Z.heap a11 "[Lcom/example/virtaus/virtaus/analysis/Analysis;") (H24 : Fld Z Z.heap a14 "com/example/virtaus/virtaus/analysis/Analysis" "multiplexing" "Lcom/example/virtaus/virtaus/network/Multiplexing;" (.ref a23)) (H26 : a23 ≠ a1) (H28 : Fld Z Z.heap a15 "com/example/virtaus/virtaus/analysis/Analysis" "multiplexing" "Lcom/example/virtaus/virtaus/network/Multiplexing;" (.ref a1)) (H35 : Arv Z Z.heap a7 k34 (.object "java/lang/Object") (0 : Int32) [] .null) (H36 : Exa Z Z.heap a15 "com/example/virtaus/virtaus/analysis/Analysis") (H41 : Fld Z Z.heap a16 "com/example/virtaus/virtaus/analysis/Analysis" "multiplexing" "Lcom/example/virtaus/virtaus/network/Multiplexing;" (.ref a1)) (H44 : Exa Z Z.heap a16 "com/example/virtaus/virtaus/analysis/Analysis") (H52 : Fld Z Z.heap a17 "com/example/virtaus/virtaus/analysis/Analysis" "multiplexing" "Lcom/example/virtaus/virtaus/network/Multiplexing;" (.ref a51)) (H54 : a51 ≠ a1) :
    MF l y0 prog_2_method_7_code 6 (some (.object "java/util/List")) ws ({ frames := 5, cells := 3, slots := 17, locals := 69 } : Room) Z #[(.ref a1)] h0 (r0_2Q Z a1 a7 a11 k13 a14 a15 a16 a17 a23 k34 a51 h0 n0) := by
  refine MetFree.of_bodySF (plainFor_of_name pn_com_example_virtaus_virtaus_analysis_Analysis) hisR ?_
  intro p e s m args below meth c s₁ Bd hml0 hP hK
  obtain ⟨rfl, hZ, hh⟩ := hP
  have hx := Bd.exec
  have hby := Bd.bytes
  have hml : c.maxLocals = 6 := hml0
  have hown : s.vm.findClass "com/example/virtaus/virtaus/analysis/Analysis" = some m.cls := findClass_of_methodNamed Bd.named
  have hnm := (name_of_methodNamed Bd.named Bd.method).1
  have X0 : Stand p l e ({ frames := 5, cells := 3, slots := 17, locals := 69 } : Room) s m #[(.ref a1)] below meth c s₁ [] 0 0 := Stand.of_body Bd
  have e0 : s₁.heap = h0 := by rw [← hh, Bd.state]; rfl
  have N0 := Fr.nil n0
  have pre0 : ∀ t, Steps p.tables e below (s₁.setTop (mkF m 0 #[rv a1, .unset, .unset, .unset, .unset, .unset] [])) t → Steps p.tables e below (s₁.setTop (entryFrame m #[(.ref a1)] 6)) t := fun t k => castTop (r0_2e m a1 a7 a11 k13 a14 a15 a16 a17 a23 k34 a51) k
  obtain ⟨T2, h2, X2, e2, E2, A2, D2, -, st2⟩ := newO X0 hx hZ hown (ow hw 8 rfl) (ow hw 9 rfl) (ow hw 10 rfl) e0 (g := (mkF m 0 #[rv a1, .unset, .unset, .unset, .unset, .unset] [])) rfl (hb hby d0_0) (by decide) (by decide)
  obtain ⟨b2, g2⟩ : ∃ z, z = h0.size := ⟨_, rfl⟩
  rw [← g2] at A2 D2 st2
  have O_E2 : Old Z n0 h2 := O0.ext E2
  have Kp_E2 : Keep h0 h2 [] := (Keep.refl h0 []).ext E2
  have f3 : Fld Z h2 b2 "java/util/AbstractList" "modCount" "I" (.int (0 : Int32)) := D2 (Or.inl (ow hw 30 rfl)) (ty := .int) (by decide)
  have g4 : n0 ≤ b2 := Nat.le_trans (Nat.le_trans (Nat.le_of_eq O0.1.symm) O0.2.1) (Nat.le_of_eq g2.symm)
  have f5 : Fld Z h2 b2 "java/util/ArrayList" "elementData" "[Ljava/lang/Object;" .null := D2 (Or.inl (ow hw 33 rfl)) (ty := (.array (.object "java/lang/Object"))) (by decide)
  have f6 : Fld Z h2 b2 "java/util/ArrayList" "size" "I" (.int (0 : Int32)) := D2 (Or.inl (ow hw 67 rfl)) (ty := .int) (by decide)
  obtain ⟨_, _, ⟨T9, L9, k9, n9⟩, -, X9, ⟨Lc9, hQ9, l9, y9, z9⟩, st9⟩ := X2.specialBack hx (y := y1) rfl hown (mvT hZ (ow hw 11 rfl)) (mvT hZ (ow hw 12 rfl)) (mvT hZ (ow hw 13 rfl)) (by decide) (backOf (W := 1) (r1_1 l Z a0 hw [] b2 a7 h2 n0 O_E2 f3 A2 g4 f5 f6 H8) hZ (ow hw 13 rfl) (ow hw 10 rfl) (by decide) (by decide)) (g := (mkF m 4 #[rv a1, .unset, .unset, .unset, .unset, .unset] [(.ref b2), (.ref b2)])) rfl (by rw [hml]; rfl) (Steps.refl _) (a := b2) (argsL := []) (rest := [(.ref b2)]) (lenOf pd___V rfl) rfl (by show 2 * 0 + _ ≤ _; exact Nat.le_of_eq rfl) (hb hby d0_4) (fun _ _ => ⟨rfl, e2, (by decide : 1 + 0 ≤ _), (by decide : 3 + 0 ≤ _)⟩)
  dsimp only [Pt.U, Pt.locs, Pt.cells, Pt.slots] at X9 l9 y9 z9 st9 hQ9
  subst l9 y9 z9
  obtain ⟨rfl, N9q, K9, f9_1, f9_2, f9_3, f9_4⟩ := hQ9
  have N9 := Fr.app N0 N9q
  have z10 : h0.size ≤ b2 := Nat.le_trans (Keep.refl h0 []).1 (Nat.le_of_eq g2.symm)
  have O_K9 : Old Z n0 T9.heap := O_E2.keep K9 (allS g4 all0)
  have Kp_K9 : Keep h0 T9.heap [] := Kp_E2.trans K9 (allS (Or.inr z10) all0)
  obtain ⟨_, _, ⟨T20, L20, k20, n20⟩, -, X20, ⟨Lc20, hQ20, l20, y20, z20⟩, st20⟩ := Jvm.LawKit.callS X9 hx (y := y4) hown (mvT hZ (ow hw 34 rfl)) (mvT hZ (ow hw 35 rfl)) (mvT hZ (ow hw 6 rfl)) (mvT hZ (ow hw 36 rfl)) (by decide) (backOf (W := 0) (r4_1 l Z a0 hw [] a11 k13 a14 a15 a16 a17 T9.heap n0 O_K9 H12 H18 H19) hZ (ow hw 36 rfl) (ow hw 6 rfl) (by decide) (by decide)) (g := (mkF m 8 #[rv a1, rv b2, .unset, .unset, .unset, .unset] [])) rfl (by rw [hml]; rfl) (argsL := []) (rest := []) (lenOf pd____Lcom_example_virtaus_virtaus_analysis_Analysis_ rfl) rfl (by show 2 * 0 + _ ≤ _; exact Nat.le_of_eq rfl) (hb hby d0_8) (fun _ _ => ⟨rfl, rfl, (by decide : 1 + 1 ≤ _), (by decide : 3 + 4 ≤ _)⟩)
  dsimp only [Pt.U, Pt.locs, Pt.cells, Pt.slots] at X20 l20 y20 z20 st20 hQ20
  subst l20 y20 z20
  obtain ⟨b20_0, rfl, N20q, K20, lo20_1, f20_2, f20_3⟩ := hQ20
  have N20 := Fr.app N9 N20q
  have O_K20 : Old Z n0 T20.heap := O_K9.keep K20 all0
  have Kp_K20 : Keep h0 T20.heap [] := Kp_K9.trans K20 all0
  obtain ⟨cl21, Ar21, q21, S21, M21, H21, G21⟩ := id f20_2
  obtain ⟨cl22, Ar22, q22, S22, M22, H22, G22⟩ := id f20_2
  have hin22 : ¬ ((0 : Int32) < 0 ∨ cl22.slots.size ≤ ((0 : Int32)).toNatClampNeg) := inb_of S22 ⟨by decide, by decide⟩
  obtain ⟨T25, X25, e25, st25⟩ := getF X20 hx hZ hown (host := "") (Or.inl (ow hw 53 rfl)) Via.refl rfl (H24.ext O_K20.2) (g := (mkF m 32 #[rv a1, rv b2, rv b20_0, iv (4 : Int32), iv (0 : Int32), rv a14] [(.ref a14)])) rfl rfl (hb hby d0_32)
  obtain ⟨cl27, Ar27, q27, S27, M27, H27, G27⟩ := id f20_2
  have hin27 : ¬ ((1 : Int32) < 0 ∨ cl27.slots.size ≤ ((1 : Int32)).toNatClampNeg) := inb_of S27 ⟨by decide, by decide⟩
  obtain ⟨T29, X29, e29, st29⟩ := getF X25 hx hZ hown (host := "") (Or.inl (ow hw 53 rfl)) Via.refl e25 (H28.ext O_K20.2) (g := (mkF m 32 #[rv a1, rv b2, rv b20_0, iv (4 : Int32), iv (1 : Int32), rv a15] [(.ref a15)])) rfl rfl (hb hby d0_32)
  have f30 := (f9_2.keep K20)
  have f31 := (f9_1.keep K20 nin0)
  have f32 := (f9_3.keep K20 nin0)
  have f33 := (f9_4.keep K20 nin0)
  obtain ⟨cq37, kq37, q37a, q37b, q37c⟩ := isOf hZ e29 f30
  obtain ⟨_, _, ⟨T37, L37, k37, n37⟩, -, X37, ⟨Lc37, hQ37, l37, y37, z37⟩, st37⟩ := X29.interfaceBack hx (xi := y10) (y := y5) hown (mvT hZ (ow hw 55 rfl)) (mvT hZ (ow hw 56 rfl)) (mvT hZ (ow hw 57 rfl)) (mvT hZ (ow hw 58 rfl)) (mvT hZ (ow hw 59 rfl)) (mvT hZ (ow hw 60 rfl)) (mvT hZ (ow hw 61 rfl)) (mvT hZ (ow hw 62 rfl)) (by decide) (backOf (W := 0) (r5_1 l Z a0 hw [] b2 a15 a7 k34 T20.heap n0 O_K20 f31 f30 g4 f32 f33 H35 H8 H36) hZ (ow hw 63 rfl) (ow hw 10 rfl) (by decide) (by decide)) q37a q37b q37c (g := (mkF m 42 #[rv a1, rv b2, rv b20_0, iv (4 : Int32), iv (1 : Int32), rv a15] [(.ref a15), (.ref b2)])) rfl (by rw [hml]; rfl) (Steps.refl _) (argsL := [(.ref a15)]) (rest := []) (lenOf pd__Ljava_lang_Object__Z rfl) rfl (by show 2 * 0 + _ ≤ _; exact Nat.le_of_eq rfl) (hb hby d0_42) (fun _ _ => ⟨rfl, e29, (by decide : 2 + 1 ≤ _), (by decide : 7 + 10 ≤ _)⟩)
  dsimp only [Pt.U, Pt.locs, Pt.cells, Pt.slots] at X37 l37 y37 z37 st37 hQ37
  subst l37 y37 z37
  obtain ⟨b37_0, k37_0, rfl, N37q, K37, lo37_1, f37_2, f37_3, f37_4, f37_5, f37_6, f37_7, f37_8⟩ := hQ37
  have N37 := Fr.app N20 N37q
  have O_K37 : Old Z n0 T37.heap := O_K20.keep K37 (allS g4 all0)
  have Kp_K37 : Keep h0 T37.heap [] := Kp_K20.trans K37 (allS (Or.inr z10) all0)
  have ne38 : b2 ≠ b20_0 := Nat.ne_of_lt (Nat.lt_of_lt_of_le (A2.keep K9).lt lo20_1)
  have f39 := (f20_2.keep K37 (ninS (Ne.symm ne38) nin0))
  obtain ⟨cl40, Ar40, q40, S40, M40, H40, G40⟩ := id f39
  have hin40 : ¬ ((2 : Int32) < 0 ∨ cl40.slots.size ≤ ((2 : Int32)).toNatClampNeg) := inb_of S40 ⟨by decide, by decide⟩
  obtain ⟨T42, X42, e42, st42⟩ := getF X37 hx hZ hown (host := "") (Or.inl (ow hw 53 rfl)) Via.refl rfl (H41.ext O_K37.2) (g := (mkF m 32 #[rv a1, rv b2, rv b20_0, iv (4 : Int32), iv (2 : Int32), rv a16] [(.ref a16)])) rfl rfl (hb hby d0_32)
  have ne43 : b2 ≠ b37_0 := Nat.ne_of_lt (Nat.lt_of_lt_of_le ((A2.keep K9).keep K20).lt lo37_1)
  have g45 : n0 ≤ b37_0 := Nat.le_trans (Nat.le_trans (Nat.le_of_eq O_K20.1.symm) O_K20.2.1) lo37_1
  obtain ⟨cq46, kq46, q46a, q46b, q46c⟩ := isOf hZ e42 f37_3
  obtain ⟨_, _, ⟨T46, L46, k46, n46⟩, -, X46, ⟨Lc46, hQ46, l46, y46, z46⟩, st46⟩ := X42.interfaceBack hx (xi := y10) (y := y5) hown (mvT hZ (ow hw 55 rfl)) (mvT hZ (ow hw 56 rfl)) (mvT hZ (ow hw 57 rfl)) (mvT hZ (ow hw 58 rfl)) (mvT hZ (ow hw 59 rfl)) (mvT hZ (ow hw 60 rfl)) (mvT hZ (ow hw 61 rfl)) (mvT hZ (ow hw 62 rfl)) (by decide) (backOf (W := 0) (r5_2 l Z a0 hw [] b2 a16 b37_0 k37_0 a15 T37.heap n0 O_K37 f37_2 f37_3 g4 f37_4 f37_5 f37_6 (Ne.symm ne43) f37_8 H44 g45 f37_7) hZ (ow hw 63 rfl) (ow hw 10 rfl) (by decide) (by decide)) q46a q46b q46c (g := (mkF m 42 #[rv a1, rv b2, rv b20_0, iv (4 : Int32), iv (2 : Int32), rv a16] [(.ref a16), (.ref b2)])) rfl (by rw [hml]; rfl) (Steps.refl _) (argsL := [(.ref a16)]) (rest := []) (lenOf pd__Ljava_lang_Object__Z rfl) rfl (by show 2 * 0 + _ ≤ _; exact Nat.le_of_eq rfl) (hb hby d0_42) (fun _ _ => ⟨rfl, e42, (by decide : 3 + 0 ≤ _), (by decide : 17 + 0 ≤ _)⟩)
  dsimp only [Pt.U, Pt.locs, Pt.cells, Pt.slots] at X46 l46 y46 z46 st46 hQ46
  subst l46 y46 z46
  obtain ⟨rfl, N46q, K46, f46_1, f46_2, f46_3, f46_4, f46_5, f46_6, f46_7⟩ := hQ46
  have N46 := Fr.app N37 N46q
  have z47 : h0.size ≤ b37_0 := Nat.le_trans Kp_K20.1 lo37_1
  have O_K46 : Old Z n0 T46.heap := O_K37.keep K46 (allS g4 (allS g45 all0))
  have Kp_K46 : Keep h0 T46.heap [] := Kp_K37.trans K46 (allS (Or.inr z10) (allS (Or.inr z47) all0))
  have ne48 : b20_0 ≠ b37_0 := Nat.ne_of_lt (Nat.lt_of_lt_of_le f20_3.lt lo37_1)
  have f49 := (f39.keep K46 (ninS (Ne.symm ne38) (ninS ne48 nin0)))
  obtain ⟨cl50, Ar50, q50, S50, M50, H50, G50⟩ := id f49
  have hin50 : ¬ ((3 : Int32) < 0 ∨ cl50.slots.size ≤ ((3 : Int32)).toNatClampNeg) := inb_of S50 ⟨by decide, by decide⟩
  obtain ⟨T53, X53, e53, st53⟩ := getF X46 hx hZ hown (host := "") (Or.inl (ow hw 53 rfl)) Via.refl rfl (H52.ext O_K46.2) (g := (mkF m 32 #[rv a1, rv b2, rv b20_0, iv (4 : Int32), iv (3 : Int32), rv a17] [(.ref a17)])) rfl rfl (hb hby d0_32)
  obtain ⟨fs, hr, hrun, hended, hW, hsame⟩ := X53.leave (v := some (.ref b2)) (fun h => by rw [Bd.returns] at h; cases h)
  refine ⟨_, _, pre0 _ ?_, hrun, hended, _, _, rfl, ?_, ⟨_, rfl⟩, hW, hsame.mono (by decide) (by decide)⟩
  · show St p e below s₁ m 0 #[rv a1, .unset, .unset, .unset, .unset, .unset] [] _
    refine st2 _ ?_
    show St p e below T2 m 3 #[rv a1, .unset, .unset, .unset, .unset, .unset] [(.ref b2)] _
    refine XS.dup X2.here hx rfl (hb hby d0_3) rfl rfl ?_
    show St p e below T2 m 4 #[rv a1, .unset, .unset, .unset, .unset, .unset] [(.ref b2), (.ref b2)] _
    refine st9.trans ?_
    show St p e below T9 m 7 #[rv a1, .unset, .unset, .unset, .unset, .unset] [(.ref b2)] _
    refine XS.astoreN X9.here hx rfl (hb hby d0_7) rfl rfl (l' := #[rv a1, rv b2, .unset, .unset, .unset, .unset]) rfl ?_
    show St p e below T9 m 8 #[rv a1, rv b2, .unset, .unset, .unset, .unset] [] _
    refine st20 _ ?_
    show St p e below T20 m 11 #[rv a1, rv b2, .unset, .unset, .unset, .unset] [(.ref b20_0)] _
    refine XS.astoreN X20.here hx rfl (hb hby d0_11) rfl rfl (l' := #[rv a1, rv b2, rv b20_0, .unset, .unset, .unset]) rfl ?_
    show St p e below T20 m 12 #[rv a1, rv b2, rv b20_0, .unset, .unset, .unset] [] _
    refine XS.aloadN X20.here hx rfl (hb hby d0_12) rfl rfl ?_
    show St p e below T20 m 13 #[rv a1, rv b2, rv b20_0, .unset, .unset, .unset] [(.ref b20_0)] _
    refine X20.arraylength hx Ar21.1 (State.isArrayOf_alike hZ.alike Ar21.2.1) (g := (mkF m 13 #[rv a1, rv b2, rv b20_0, .unset, .unset, .unset] [(.ref b20_0)])) rfl rfl (hb hby d0_13) _ ?_
    rw [len_of S21 M21]
    show St p e below T20 m 14 #[rv a1, rv b2, rv b20_0, .unset, .unset, .unset] [(.int (4 : Int32))] _
    refine XS.istoreN X20.here hx rfl (hb hby d0_14) rfl (l' := #[rv a1, rv b2, rv b20_0, iv (4 : Int32), .unset, .unset]) rfl ?_
    show St p e below T20 m 15 #[rv a1, rv b2, rv b20_0, iv (4 : Int32), .unset, .unset] [] _
    refine XS.iconst X20.here hx rfl (hb hby d0_15) ?_
    show St p e below T20 m 16 #[rv a1, rv b2, rv b20_0, iv (4 : Int32), .unset, .unset] [(.int (0 : Int32))] _
    refine XS.istore X20.here hx rfl (hb hby d0_16) rfl (l' := #[rv a1, rv b2, rv b20_0, iv (4 : Int32), iv (0 : Int32), .unset]) rfl ?_
    show St p e below T20 m 18 #[rv a1, rv b2, rv b20_0, iv (4 : Int32), iv (0 : Int32), .unset] [] _
    refine XS.iload X20.here hx rfl (hb hby d0_18) rfl ?_
    show St p e below T20 m 20 #[rv a1, rv b2, rv b20_0, iv (4 : Int32), iv (0 : Int32), .unset] [(.int (0 : Int32))] _
    refine XS.iloadN X20.here hx rfl (hb hby d0_20) rfl ?_
    show St p e below T20 m 21 #[rv a1, rv b2, rv b20_0, iv (4 : Int32), iv (0 : Int32), .unset] [(.int (4 : Int32)), (.int (0 : Int32))] _
    refine XS.icmpNo X20.here hx rfl (hb hby d0_21) rfl (tlt (by decide : (0 : Int32) < (4 : Int32))).2.1 ?_
    show St p e below T20 m 24 #[rv a1, rv b2, rv b20_0, iv (4 : Int32), iv (0 : Int32), .unset] [] _
    refine XS.aloadN X20.here hx rfl (hb hby d0_24) rfl rfl ?_
    show St p e below T20 m 25 #[rv a1, rv b2, rv b20_0, iv (4 : Int32), iv (0 : Int32), .unset] [(.ref b20_0)] _
    refine XS.iload X20.here hx rfl (hb hby d0_25) rfl ?_
    show St p e below T20 m 27 #[rv a1, rv b2, rv b20_0, iv (4 : Int32), iv (0 : Int32), .unset] [(.int (0 : Int32)), (.ref b20_0)] _
    refine X20.aaload hx (j := (0 : Int32)) (v := (.ref a14)) Ar22.1 (State.isArrayOf_alike hZ.alike Ar22.2.1) rfl Ar22.2.2 hin22 (Has.at H22 hin22 rfl) (g := (mkF m 27 #[rv a1, rv b2, rv b20_0, iv (4 : Int32), iv (0 : Int32), .unset] [(.int (0 : Int32)), (.ref b20_0)])) rfl rfl (hb hby d0_27) _ ?_
    show St p e below T20 m 28 #[rv a1, rv b2, rv b20_0, iv (4 : Int32), iv (0 : Int32), .unset] [(.ref a14)] _
    refine XS.astore X20.here hx rfl (hb hby d0_28) rfl rfl (l' := #[rv a1, rv b2, rv b20_0, iv (4 : Int32), iv (0 : Int32), rv a14]) rfl ?_
    show St p e below T20 m 30 #[rv a1, rv b2, rv b20_0, iv (4 : Int32), iv (0 : Int32), rv a14] [] _
    refine XS.aload X20.here hx rfl (hb hby d0_30) rfl rfl ?_
    show St p e below T20 m 32 #[rv a1, rv b2, rv b20_0, iv (4 : Int32), iv (0 : Int32), rv a14] [(.ref a14)] _
    refine st25 _ ?_
    show St p e below T25 m 35 #[rv a1, rv b2, rv b20_0, iv (4 : Int32), iv (0 : Int32), rv a14] [(.ref a23)] _
    refine XS.aloadN X25.here hx rfl (hb hby d0_35) rfl rfl ?_
    show St p e below T25 m 36 #[rv a1, rv b2, rv b20_0, iv (4 : Int32), iv (0 : Int32), rv a14] [(.ref a1), (.ref a23)] _
    refine Jvm.RoadKit.acmp (g := (mkF m 36 #[rv a1, rv b2, rv b20_0, iv (4 : Int32), iv (0 : Int32), rv a14] [(.ref a1), (.ref a23)])) X25 hx rfl rfl rfl (pc0 := 36) (pc' := 48) (same := false) rfl (hb hby d0_36) rfl (decide_eq_false fun q => H26 (Value.ref.inj q)) (by decide) (by decide) ?_
    show St p e below T25 m 48 #[rv a1, rv b2, rv b20_0, iv (4 : Int32), iv (0 : Int32), rv a14] [] _
    refine XS.iinc X25.here hx rfl (hb hby d0_48) rfl (l' := #[rv a1, rv b2, rv b20_0, iv (4 : Int32), iv (1 : Int32), rv a14]) rfl ?_
    show St p e below T25 m 51 #[rv a1, rv b2, rv b20_0, iv (4 : Int32), iv (1 : Int32), rv a14] [] _
    refine XS.goto X25.here hx rfl (pc0 := 51) (pc' := 18) rfl (hb hby d0_51) (by decide) (by decide) ?_
    show St p e below T25 m 18 #[rv a1, rv b2, rv b20_0, iv (4 : Int32), iv (1 : Int32), rv a14] [] _
    refine XS.iload X25.here hx rfl (hb hby d0_18) rfl ?_
    show St p e below T25 m 20 #[rv a1, rv b2, rv b20_0, iv (4 : Int32), iv (1 : Int32), rv a14] [(.int (1 : Int32))] _
    refine XS.iloadN X25.here hx rfl (hb hby d0_20) rfl ?_
    show St p e below T25 m 21 #[rv a1, rv b2, rv b20_0, iv (4 : Int32), iv (1 : Int32), rv a14] [(.int (4 : Int32)), (.int (1 : Int32))] _
    refine XS.icmpNo X25.here hx rfl (hb hby d0_21) rfl (tlt (by decide : (1 : Int32) < (4 : Int32))).2.1 ?_
    show St p e below T25 m 24 #[rv a1, rv b2, rv b20_0, iv (4 : Int32), iv (1 : Int32), rv a14] [] _
    refine XS.aloadN X25.here hx rfl (hb hby d0_24) rfl rfl ?_
    show St p e below T25 m 25 #[rv a1, rv b2, rv b20_0, iv (4 : Int32), iv (1 : Int32), rv a14] [(.ref b20_0)] _
    refine XS.iload X25.here hx rfl (hb hby d0_25) rfl ?_
    show St p e below T25 m 27 #[rv a1, rv b2, rv b20_0, iv (4 : Int32), iv (1 : Int32), rv a14] [(.int (1 : Int32)), (.ref b20_0)] _
    refine X25.aaload hx (j := (1 : Int32)) (v := (.ref a15)) (by rw [e25]; exact Ar27.1) (State.isArrayOf_alike hZ.alike Ar27.2.1) rfl Ar27.2.2 hin27 (Has.at H27 hin27 rfl) (g := (mkF m 27 #[rv a1, rv b2, rv b20_0, iv (4 : Int32), iv (1 : Int32), rv a14] [(.int (1 : Int32)), (.ref b20_0)])) rfl rfl (hb hby d0_27) _ ?_
    show St p e below T25 m 28 #[rv a1, rv b2, rv b20_0, iv (4 : Int32), iv (1 : Int32), rv a14] [(.ref a15)] _
    refine XS.astore X25.here hx rfl (hb hby d0_28) rfl rfl (l' := #[rv a1, rv b2, rv b20_0, iv (4 : Int32), iv (1 : Int32), rv a15]) rfl ?_
    show St p e below T25 m 30 #[rv a1, rv b2, rv b20_0, iv (4 : Int32), iv (1 : Int32), rv a15] [] _
    refine XS.aload X25.here hx rfl (hb hby d0_30) rfl rfl ?_
    show St p e below T25 m 32 #[rv a1, rv b2, rv b20_0, iv (4 : Int32), iv (1 : Int32), rv a15] [(.ref a15)] _
    refine st29 _ ?_
    show St p e below T29 m 35 #[rv a1, rv b2, rv b20_0, iv (4 : Int32), iv (1 : Int32), rv a15] [(.ref a1)] _
    refine XS.aloadN X29.here hx rfl (hb hby d0_35) rfl rfl ?_
    show St p e below T29 m 36 #[rv a1, rv b2, rv b20_0, iv (4 : Int32), iv (1 : Int32), rv a15] [(.ref a1), (.ref a1)] _
    refine Jvm.RoadKit.acmp (g := (mkF m 36 #[rv a1, rv b2, rv b20_0, iv (4 : Int32), iv (1 : Int32), rv a15] [(.ref a1), (.ref a1)])) X29 hx rfl rfl rfl (pc0 := 36) (pc' := 39) (same := true) rfl (hb hby d0_36) rfl (decide_eq_true rfl) (by decide) (by decide) ?_
    show St p e below T29 m 39 #[rv a1, rv b2, rv b20_0, iv (4 : Int32), iv (1 : Int32), rv a15] [] _
    refine XS.aloadN X29.here hx rfl (hb hby d0_39) rfl rfl ?_
    show St p e below T29 m 40 #[rv a1, rv b2, rv b20_0, iv (4 : Int32), iv (1 : Int32), rv a15] [(.ref b2)] _
    refine XS.aload X29.here hx rfl (hb hby d0_40) rfl rfl ?_
    show St p e below T29 m 42 #[rv a1, rv b2, rv b20_0, iv (4 : Int32), iv (1 : Int32), rv a15] [(.ref a15), (.ref b2)] _
    refine st37.trans ?_
    show St p e below T37 m 47 #[rv a1, rv b2, rv b20_0, iv (4 : Int32), iv (1 : Int32), rv a15] [(.int (1 : Int32))] _
    refine XS.pop X37.here hx rfl (hb hby d0_47) rfl rfl ?_
    show St p e below T37 m 48 #[rv a1, rv b2, rv b20_0, iv (4 : Int32), iv (1 : Int32), rv a15] [] _
    refine XS.iinc X37.here hx rfl (hb hby d0_48) rfl (l' := #[rv a1, rv b2, rv b20_0, iv (4 : Int32), iv (2 : Int32), rv a15]) rfl ?_
    show St p e below T37 m 51 #[rv a1, rv b2, rv b20_0, iv (4 : Int32), iv (2 : Int32), rv a15] [] _
    refine XS.goto X37.here hx rfl (pc0 := 51) (pc' := 18) rfl (hb hby d0_51) (by decide) (by decide) ?_
    show St p e below T37 m 18 #[rv a1, rv b2, rv b20_0, iv (4 : Int32), iv (2 : Int32), rv a15] [] _
    refine XS.iload X37.here hx rfl (hb hby d0_18) rfl ?_
    show St p e below T37 m 20 #[rv a1, rv b2, rv b20_0, iv (4 : Int32), iv (2 : Int32), rv a15] [(.int (2 : Int32))] _
    refine XS.iloadN X37.here hx rfl (hb hby d0_20) rfl ?_
    show St p e below T37 m 21 #[rv a1, rv b2, rv b20_0, iv (4 : Int32), iv (2 : Int32), rv a15] [(.int (4 : Int32)), (.int (2 : Int32))] _
    refine XS.icmpNo X37.here hx rfl (hb hby d0_21) rfl (tlt (by decide : (2 : Int32) < (4 : Int32))).2.1 ?_
    show St p e below T37 m 24 #[rv a1, rv b2, rv b20_0, iv (4 : Int32), iv (2 : Int32), rv a15] [] _
    refine XS.aloadN X37.here hx rfl (hb hby d0_24) rfl rfl ?_
    show St p e below T37 m 25 #[rv a1, rv b2, rv b20_0, iv (4 : Int32), iv (2 : Int32), rv a15] [(.ref b20_0)] _
    refine XS.iload X37.here hx rfl (hb hby d0_25) rfl ?_
    show St p e below T37 m 27 #[rv a1, rv b2, rv b20_0, iv (4 : Int32), iv (2 : Int32), rv a15] [(.int (2 : Int32)), (.ref b20_0)] _
    refine X37.aaload hx (j := (2 : Int32)) (v := (.ref a16)) Ar40.1 (State.isArrayOf_alike hZ.alike Ar40.2.1) rfl Ar40.2.2 hin40 (Has.at H40 hin40 rfl) (g := (mkF m 27 #[rv a1, rv b2, rv b20_0, iv (4 : Int32), iv (2 : Int32), rv a15] [(.int (2 : Int32)), (.ref b20_0)])) rfl rfl (hb hby d0_27) _ ?_
    show St p e below T37 m 28 #[rv a1, rv b2, rv b20_0, iv (4 : Int32), iv (2 : Int32), rv a15] [(.ref a16)] _
    refine XS.astore X37.here hx rfl (hb hby d0_28) rfl rfl (l' := #[rv a1, rv b2, rv b20_0, iv (4 : Int32), iv (2 : Int32), rv a16]) rfl ?_
    show St p e below T37 m 30 #[rv a1, rv b2, rv b20_0, iv (4 : Int32), iv (2 : Int32), rv a16] [] _
    refine XS.aload X37.here hx rfl (hb hby d0_30) rfl rfl ?_
    show St p e below T37 m 32 #[rv a1, rv b2, rv b20_0, iv (4 : Int32), iv (2 : Int32), rv a16] [(.ref a16)] _
    refine st42 _ ?_
    show St p e below T42 m 35 #[rv a1, rv b2, rv b20_0, iv (4 : Int32), iv (2 : Int32), rv a16] [(.ref a1)] _
    refine XS.aloadN X42.here hx rfl (hb hby d0_35) rfl rfl ?_
    show St p e below T42 m 36 #[rv a1, rv b2, rv b20_0, iv (4 : Int32), iv (2 : Int32), rv a16] [(.ref a1), (.ref a1)] _
    refine Jvm.RoadKit.acmp (g := (mkF m 36 #[rv a1, rv b2, rv b20_0, iv (4 : Int32), iv (2 : Int32), rv a16] [(.ref a1), (.ref a1)])) X42 hx rfl rfl rfl (pc0 := 36) (pc' := 39) (same := true) rfl (hb hby d0_36) rfl (decide_eq_true rfl) (by decide) (by decide) ?_
    show St p e below T42 m 39 #[rv a1, rv b2, rv b20_0, iv (4 : Int32), iv (2 : Int32), rv a16] [] _
    refine XS.aloadN X42.here hx rfl (hb hby d0_39) rfl rfl ?_
    show St p e below T42 m 40 #[rv a1, rv b2, rv b20_0, iv (4 : Int32), iv (2 : Int32), rv a16] [(.ref b2)] _
    refine XS.aload X42.here hx rfl (hb hby d0_40) rfl rfl ?_
    show St p e below T42 m 42 #[rv a1, rv b2, rv b20_0, iv (4 : Int32), iv (2 : Int32), rv a16] [(.ref a16), (.ref b2)] _
    refine st46.trans ?_
    show St p e below T46 m 47 #[rv a1, rv b2, rv b20_0, iv (4 : Int32), iv (2 : Int32), rv a16] [(.int (1 : Int32))] _
    refine XS.pop X46.here hx rfl (hb hby d0_47) rfl rfl ?_
    show St p e below T46 m 48 #[rv a1, rv b2, rv b20_0, iv (4 : Int32), iv (2 : Int32), rv a16] [] _
    refine XS.iinc X46.here hx rfl (hb hby d0_48) rfl (l' := #[rv a1, rv b2, rv b20_0, iv (4 : Int32), iv (3 : Int32), rv a16]) rfl ?_
    show St p e below T46 m 51 #[rv a1, rv b2, rv b20_0, iv (4 : Int32), iv (3 : Int32), rv a16] [] _
    refine XS.goto X46.here hx rfl (pc0 := 51) (pc' := 18) rfl (hb hby d0_51) (by decide) (by decide) ?_
    show St p e below T46 m 18 #[rv a1, rv b2, rv b20_0, iv (4 : Int32), iv (3 : Int32), rv a16] [] _
    refine XS.iload X46.here hx rfl (hb hby d0_18) rfl ?_
    show St p e below T46 m 20 #[rv a1, rv b2, rv b20_0, iv (4 : Int32), iv (3 : Int32), rv a16] [(.int (3 : Int32))] _
    refine XS.iloadN X46.here hx rfl (hb hby d0_20) rfl ?_
    show St p e below T46 m 21 #[rv a1, rv b2, rv b20_0, iv (4 : Int32), iv (3 : Int32), rv a16] [(.int (4 : Int32)), (.int (3 : Int32))] _
    refine XS.icmpNo X46.here hx rfl (hb hby d0_21) rfl (tlt (by decide : (3 : Int32) < (4 : Int32))).2.1 ?_
    show St p e below T46 m 24 #[rv a1, rv b2, rv b20_0, iv (4 : Int32), iv (3 : Int32), rv a16] [] _
    refine XS.aloadN X46.here hx rfl (hb hby d0_24) rfl rfl ?_
    show St p e below T46 m 25 #[rv a1, rv b2, rv b20_0, iv (4 : Int32), iv (3 : Int32), rv a16] [(.ref b20_0)] _
    refine XS.iload X46.here hx rfl (hb hby d0_25) rfl ?_
    show St p e below T46 m 27 #[rv a1, rv b2, rv b20_0, iv (4 : Int32), iv (3 : Int32), rv a16] [(.int (3 : Int32)), (.ref b20_0)] _
    refine X46.aaload hx (j := (3 : Int32)) (v := (.ref a17)) Ar50.1 (State.isArrayOf_alike hZ.alike Ar50.2.1) rfl Ar50.2.2 hin50 (Has.at H50 hin50 rfl) (g := (mkF m 27 #[rv a1, rv b2, rv b20_0, iv (4 : Int32), iv (3 : Int32), rv a16] [(.int (3 : Int32)), (.ref b20_0)])) rfl rfl (hb hby d0_27) _ ?_
    show St p e below T46 m 28 #[rv a1, rv b2, rv b20_0, iv (4 : Int32), iv (3 : Int32), rv a16] [(.ref a17)] _
    refine XS.astore X46.here hx rfl (hb hby d0_28) rfl rfl (l' := #[rv a1, rv b2, rv b20_0, iv (4 : Int32), iv (3 : Int32), rv a17]) rfl ?_
    show St p e below T46 m 30 #[rv a1, rv b2, rv b20_0, iv (4 : Int32), iv (3 : Int32), rv a17] [] _
    refine XS.aload X46.here hx rfl (hb hby d0_30) rfl rfl ?_
    show St p e below T46 m 32 #[rv a1, rv b2, rv b20_0, iv (4 : Int32), iv (3 : Int32), rv a17] [(.ref a17)] _
    refine st53 _ ?_
    show St p e below T53 m 35 #[rv a1, rv b2, rv b20_0, iv (4 : Int32), iv (3 : Int32), rv a17] [(.ref a51)] _
    refine XS.aloadN X53.here hx rfl (hb hby d0_35) rfl rfl ?_
    show St p e below T53 m 36 #[rv a1, rv b2, rv b20_0, iv (4 : Int32), iv (3 : Int32), rv a17] [(.ref a1), (.ref a51)] _
    refine Jvm.RoadKit.acmp (g := (mkF m 36 #[rv a1, rv b2, rv b20_0, iv (4 : Int32), iv (3 : Int32), rv a17] [(.ref a1), (.ref a51)])) X53 hx rfl rfl rfl (pc0 := 36) (pc' := 48) (same := false) rfl (hb hby d0_36) rfl (decide_eq_false fun q => H54 (Value.ref.inj q)) (by decide) (by decide) ?_
    show St p e below T53 m 48 #[rv a1, rv b2, rv b20_0, iv (4 : Int32), iv (3 : Int32), rv a17] [] _
    refine XS.iinc X53.here hx rfl (hb hby d0_48) rfl (l' := #[rv a1, rv b2, rv b20_0, iv (4 : Int32), iv (4 : Int32), rv a17]) rfl ?_
    show St p e below T53 m 51 #[rv a1, rv b2, rv b20_0, iv (4 : Int32), iv (4 : Int32), rv a17] [] _
    refine XS.goto X53.here hx rfl (pc0 := 51) (pc' := 18) rfl (hb hby d0_51) (by decide) (by decide) ?_
    show St p e below T53 m 18 #[rv a1, rv b2, rv b20_0, iv (4 : Int32), iv (4 : Int32), rv a17] [] _
    refine XS.iload X53.here hx rfl (hb hby d0_18) rfl ?_
    show St p e below T53 m 20 #[rv a1, rv b2, rv b20_0, iv (4 : Int32), iv (4 : Int32), rv a17] [(.int (4 : Int32))] _
    refine XS.iloadN X53.here hx rfl (hb hby d0_20) rfl ?_
    show St p e below T53 m 21 #[rv a1, rv b2, rv b20_0, iv (4 : Int32), iv (4 : Int32), rv a17] [(.int (4 : Int32)), (.int (4 : Int32))] _
    refine XS.icmpYes X53.here hx rfl (pc0 := 21) (pc' := 54) rfl (hb hby d0_21) rfl (flt (by decide : ¬ ((4 : Int32) < (4 : Int32)))).2.1 (by decide) (by decide) ?_
    show St p e below T53 m 54 #[rv a1, rv b2, rv b20_0, iv (4 : Int32), iv (4 : Int32), rv a17] [] _
    refine XS.aloadN X53.here hx rfl (hb hby d0_54) rfl rfl ?_
    show St p e below T53 m 55 #[rv a1, rv b2, rv b20_0, iv (4 : Int32), iv (4 : Int32), rv a17] [(.ref b2)] _
    jvm_step X53.here [X53.here.top, hx, (hb hby d0_55), X53.method', Bd.returns, Value.isRef, FieldType.isReference]
    first | (intro acts; rw [hr _ acts rfl rfl rfl]) | rw [hr _ _ rfl rfl rfl]
    exact Steps.refl _
  · show r0_2Q Z a1 a7 a11 k13 a14 a15 a16 a17 a23 k34 a51 h0 n0 _ T53.heap _
    rw [e53]
    exact ⟨b2, b37_0, k37_0, rfl, N46, Kp_K46, z10, z47, ne43, f46_2, f46_1, f46_3, f46_4, f46_5, f46_7, f46_6⟩
def r11_2Q (Z : State) (a1 : Addr) (h0 : Heap) (n0 : Nat) (v : Option Value) (h : Heap) (L : List Loc) : Prop := v = some (.int (2 : Int32)) ∧ Fr n0 L ∧ h = h0
theorem r11_2e (m : MethodId) (a1 : Addr) : entryFrame m #[(.ref a1)] 1 = mkF m 0 #[rv a1] [] := by first | (simp [entryFrame, mkF, argsToLocals, Value.category]; done) | rfl
set_option maxRecDepth 65536 in
set_option maxHeartbeats 40000000 in
theorem r11_2 (l : Launch) (Z : State) (a0 : Array Value) (hw : HW a0 Z) (ws : List Jvm.Cond) (a1 : Addr) (h0 : Heap) (n0 : Nat) (O0 : Old Z n0 h0) (H2 : Fld Z h0 a1 "java/util/ArrayList" "size" "I" (.int (2 : Int32))) :
    MF l y11 jdk_38_method_8_code 1 (some .int) ws ({ frames := 0, cells := 0, slots := 0, locals := 0 } : Room) Z #[(.ref a1)] h0 (r11_2Q Z a1 h0 n0) := by
  refine MetFree.of_bodySF (plainFor_of_name pn_java_util_ArrayList) hisR ?_
  intro p e s m args below meth c s₁ Bd hml0 hP hK
  obtain ⟨rfl, hZ, hh⟩ := hP
  have hx := Bd.exec
  have hby := Bd.bytes
  have hml : c.maxLocals = 1 := hml0
  have hown : s.vm.findClass "java/util/ArrayList" = some m.cls := findClass_of_methodNamed Bd.named
  have hnm := (name_of_methodNamed Bd.named Bd.method).1
  have X0 : Stand p l e ({ frames := 0, cells := 0, slots := 0, locals := 0 } : Room) s m #[(.ref a1)] below meth c s₁ [] 0 0 := Stand.of_body Bd
  have e0 : s₁.heap = h0 := by rw [← hh, Bd.state]; rfl
  have N0 := Fr.nil n0
  have pre0 : ∀ t, Steps p.tables e below (s₁.setTop (mkF m 0 #[rv a1] [])) t → Steps p.tables e below (s₁.setTop (entryFrame m #[(.ref a1)] 1)) t := fun t k => castTop (r11_2e m a1) k
  obtain ⟨T3, X3, e3, st3⟩ := getF X0 hx hZ hown (host := "") (Or.inl (ow hw 66 rfl)) Via.refl e0 H2 (g := (mkF m 1 #[rv a1] [(.ref a1)])) rfl rfl (hb hby d11_1)
  obtain ⟨fs, hr, hrun, hended, hW, hsame⟩ := X3.leave (v := some (.int (2 : Int32))) (fun h => by rw [Bd.returns] at h; cases h)
  refine ⟨_, _, pre0 _ ?_, hrun, hended, _, _, rfl, ?_, ⟨_, rfl⟩, hW, hsame.mono (by decide) (by decide)⟩
  · show St p e below s₁ m 0 #[rv a1] [] _
    refine XS.aloadN X0.here hx rfl (hb hby d11_0) rfl rfl ?_
    show St p e below s₁ m 1 #[rv a1] [(.ref a1)] _
    refine st3 _ ?_
    show St p e below T3 m 4 #[rv a1] [(.int (2 : Int32))] _
    exact retI X3 hx Bd.returns (hb hby d11_4) hr
  · show r11_2Q Z a1 h0 n0 _ T3.heap _
    rw [e3]
    exact ⟨rfl, N0, rfl⟩
def r15_2Q (Z : State) (h0 : Heap) (n0 : Nat) (v : Option Value) (h : Heap) (L : List Loc) : Prop := v = some (.int (0 : Int32)) ∧ Fr n0 L ∧ h = h0
theorem r15_2e (m : MethodId) : entryFrame m #[(.int (0 : Int32)), (.int (2 : Int32)), .null] 3 = mkF m 0 #[iv (0 : Int32), iv (2 : Int32), .val .null] [] := by first | (simp [entryFrame, mkF, argsToLocals, Value.category]; done) | rfl
set_option maxRecDepth 65536 in
set_option maxHeartbeats 40000000 in
theorem r15_2 (l : Launch) (Z : State) (a0 : Array Value) (hw : HW a0 Z) (ws : List Jvm.Cond) (h0 : Heap) (n0 : Nat) (O0 : Old Z n0 h0) :
    MF l y15 jdk_41_method_11_code 3 (some .int) ws ({ frames := 0, cells := 0, slots := 0, locals := 0 } : Room) Z #[(.int (0 : Int32)), (.int (2 : Int32)), .null] h0 (r15_2Q Z h0 n0) := by
  refine MetFree.of_bodySF (plainFor_of_name pn_jdk_internal_util_Preconditions) hisR ?_
  intro p e s m args below meth c s₁ Bd hml0 hP hK
  obtain ⟨rfl, hZ, hh⟩ := hP
  have hx := Bd.exec
  have hby := Bd.bytes
  have hml : c.maxLocals = 3 := hml0
  have hown : s.vm.findClass "jdk/internal/util/Preconditions" = some m.cls := findClass_of_methodNamed Bd.named
  have hnm := (name_of_methodNamed Bd.named Bd.method).1
  have X0 : Stand p l e ({ frames := 0, cells := 0, slots := 0, locals := 0 } : Room) s m #[(.int (0 : Int32)), (.int (2 : Int32)), .null] below meth c s₁ [] 0 0 := Stand.of_body Bd
  have e0 : s₁.heap = h0 := by rw [← hh, Bd.state]; rfl
  have N0 := Fr.nil n0
  have pre0 : ∀ t, Steps p.tables e below (s₁.setTop (mkF m 0 #[iv (0 : Int32), iv (2 : Int32), .val .null] [])) t → Steps p.tables e below (s₁.setTop (entryFrame m #[(.int (0 : Int32)), (.int (2 : Int32)), .null] 3)) t := fun t k => castTop (r15_2e m) k
  obtain ⟨fs, hr, hrun, hended, hW, hsame⟩ := X0.leave (v := some (.int (0 : Int32))) (fun h => by rw [Bd.returns] at h; cases h)
  refine ⟨_, _, pre0 _ ?_, hrun, hended, _, _, rfl, ?_, ⟨_, rfl⟩, hW, hsame.mono (by decide) (by decide)⟩
  · show St p e below s₁ m 0 #[iv (0 : Int32), iv (2 : Int32), .val .null] [] _
    refine XS.iloadN X0.here hx rfl (hb hby d15_0) rfl ?_
    show St p e below s₁ m 1 #[iv (0 : Int32), iv (2 : Int32), .val .null] [(.int (0 : Int32))] _
    refine XS.ifNo X0.here hx rfl (hb hby d15_1) rfl ((if0 _ _).trans (flt (by decide : ¬ ((0 : Int32) < (0 : Int32)))).1) ?_
    show St p e below s₁ m 4 #[iv (0 : Int32), iv (2 : Int32), .val .null] [] _
    refine XS.iloadN X0.here hx rfl (hb hby d15_4) rfl ?_
    show St p e below s₁ m 5 #[iv (0 : Int32), iv (2 : Int32), .val .null] [(.int (0 : Int32))] _
    refine XS.iloadN X0.here hx rfl (hb hby d15_5) rfl ?_
    show St p e below s₁ m 6 #[iv (0 : Int32), iv (2 : Int32), .val .null] [(.int (2 : Int32)), (.int (0 : Int32))] _
    refine XS.icmpYes X0.here hx rfl (pc0 := 6) (pc' := 16) rfl (hb hby d15_6) rfl (tlt (by decide : (0 : Int32) < (2 : Int32))).1 (by decide) (by decide) ?_
    show St p e below s₁ m 16 #[iv (0 : Int32), iv (2 : Int32), .val .null] [] _
    refine XS.iloadN X0.here hx rfl (hb hby d15_16) rfl ?_
    show St p e below s₁ m 17 #[iv (0 : Int32), iv (2 : Int32), .val .null] [(.int (0 : Int32))] _
    exact retI X0 hx Bd.returns (hb hby d15_17) hr
  · show r15_2Q Z h0 n0 _ s₁.heap _
    rw [e0]
    exact ⟨rfl, N0, rfl⟩
def r14_2Q (Z : State) (h0 : Heap) (n0 : Nat) (v : Option Value) (h : Heap) (L : List Loc) : Prop := v = some (.int (0 : Int32)) ∧ Fr n0 L ∧ h = h0
theorem r14_2e (m : MethodId) : entryFrame m #[(.int (0 : Int32)), (.int (2 : Int32))] 2 = mkF m 0 #[iv (0 : Int32), iv (2 : Int32)] [] := by first | (simp [entryFrame, mkF, argsToLocals, Value.category]; done) | rfl
set_option maxRecDepth 65536 in
set_option maxHeartbeats 40000000 in
theorem r14_2 (l : Launch) (Z : State) (a0 : Array Value) (hw : HW a0 Z) (ws : List Jvm.Cond) (h0 : Heap) (n0 : Nat) (O0 : Old Z n0 h0) :
    MF l y14 jdk_31_method_17_code 2 (some .int) ws ({ frames := 1, cells := 0, slots := 0, locals := 14 } : Room) Z #[(.int (0 : Int32)), (.int (2 : Int32))] h0 (r14_2Q Z h0 n0) := by
  refine MetFree.of_bodySF (plainFor_of_name pn_java_util_Objects) hisR ?_
  intro p e s m args below meth c s₁ Bd hml0 hP hK
  obtain ⟨rfl, hZ, hh⟩ := hP
  have hx := Bd.exec
  have hby := Bd.bytes
  have hml : c.maxLocals = 2 := hml0
  have hown : s.vm.findClass "java/util/Objects" = some m.cls := findClass_of_methodNamed Bd.named
  have hnm := (name_of_methodNamed Bd.named Bd.method).1
  have X0 : Stand p l e ({ frames := 1, cells := 0, slots := 0, locals := 14 } : Room) s m #[(.int (0 : Int32)), (.int (2 : Int32))] below meth c s₁ [] 0 0 := Stand.of_body Bd
  have e0 : s₁.heap = h0 := by rw [← hh, Bd.state]; rfl
  have N0 := Fr.nil n0
  have pre0 : ∀ t, Steps p.tables e below (s₁.setTop (mkF m 0 #[iv (0 : Int32), iv (2 : Int32)] [])) t → Steps p.tables e below (s₁.setTop (entryFrame m #[(.int (0 : Int32)), (.int (2 : Int32))] 2)) t := fun t k => castTop (r14_2e m) k
  obtain ⟨_, _, ⟨T1, L1, k1, n1⟩, -, X1, ⟨Lc1, hQ1, l1, y1, z1⟩, st1⟩ := Jvm.LawKit.callS X0 hx (y := y15) hown (mvT hZ (ow hw 112 rfl)) (mvT hZ (ow hw 113 rfl)) (mvT hZ (ow hw 114 rfl)) (mvT hZ (ow hw 115 rfl)) (by decide) (backOf (W := 0) (r15_2 l Z a0 hw [] h0 n0 O0) hZ (ow hw 115 rfl) (ow hw 114 rfl) (by decide) (by decide)) (g := (mkF m 3 #[iv (0 : Int32), iv (2 : Int32)] [.null, (.int (2 : Int32)), (.int (0 : Int32))])) rfl (by rw [hml]; rfl) (argsL := [(.int (0 : Int32)), (.int (2 : Int32)), .null]) (rest := []) (lenOf pd__IILjava_util_function_BiFunction__I rfl) rfl (by show 2 * 0 + _ ≤ _; exact Nat.le_of_eq rfl) (hb hby d14_3) (fun _ _ => ⟨rfl, e0, (by decide : 0 + 0 ≤ _), (by decide : 0 + 0 ≤ _)⟩)
  dsimp only [Pt.U, Pt.locs, Pt.cells, Pt.slots] at X1 l1 y1 z1 st1 hQ1
  subst l1 y1 z1
  obtain ⟨rfl, N1q, e1⟩ := hQ1
  have N1 := Fr.app N0 N1q
  obtain ⟨fs, hr, hrun, hended, hW, hsame⟩ := X1.leave (v := some (.int (0 : Int32))) (fun h => by rw [Bd.returns] at h; cases h)
  refine ⟨_, _, pre0 _ ?_, hrun, hended, _, _, rfl, ?_, ⟨_, rfl⟩, hW, hsame.mono (by decide) (by decide)⟩
  · show St p e below s₁ m 0 #[iv (0 : Int32), iv (2 : Int32)] [] _
    refine XS.iloadN X0.here hx rfl (hb hby d14_0) rfl ?_
    show St p e below s₁ m 1 #[iv (0 : Int32), iv (2 : Int32)] [(.int (0 : Int32))] _
    refine XS.iloadN X0.here hx rfl (hb hby d14_1) rfl ?_
    show St p e below s₁ m 2 #[iv (0 : Int32), iv (2 : Int32)] [(.int (2 : Int32)), (.int (0 : Int32))] _
    refine XS.aconstNull X0.here hx rfl (hb hby d14_2) ?_
    show St p e below s₁ m 3 #[iv (0 : Int32), iv (2 : Int32)] [.null, (.int (2 : Int32)), (.int (0 : Int32))] _
    refine st1 _ ?_
    show St p e below T1 m 6 #[iv (0 : Int32), iv (2 : Int32)] [(.int (0 : Int32))] _
    exact retI X1 hx Bd.returns (hb hby d14_6) hr
  · show r14_2Q Z h0 n0 _ T1.heap _
    rw [e1]
    exact ⟨rfl, N1, rfl⟩
def r16_2Q (Z : State) (a1 : Addr) (a2 : Addr) (k5 : ClassId) (a6 : Addr) (a7 : Addr) (h0 : Heap) (n0 : Nat) (v : Option Value) (h : Heap) (L : List Loc) : Prop := v = some (.ref a6) ∧ Fr n0 L ∧ h = h0
theorem r16_2e (m : MethodId) (a1 : Addr) (a2 : Addr) (k5 : ClassId) (a6 : Addr) (a7 : Addr) : entryFrame m #[(.ref a1), (.int (0 : Int32))] 2 = mkF m 0 #[rv a1, iv (0 : Int32)] [] := by first | (simp [entryFrame, mkF, argsToLocals, Value.category]; done) | rfl
set_option maxRecDepth 65536 in
set_option maxHeartbeats 40000000 in
theorem r16_2 (l : Launch) (Z : State) (a0 : Array Value) (hw : HW a0 Z) (ws : List Jvm.Cond) (a1 : Addr) (a2 : Addr) (k5 : ClassId) (a6 : Addr) (a7 : Addr) (h0 : Heap) (n0 : Nat) (O0 : Old Z n0 h0) (H3 : Fld Z h0 a1 "java/util/ArrayList" "elementData" "[Ljava/lang/Object;" (.ref a2)) (H8 : Arv Z h0 a2 k5 (.object "java/lang/Object") (10 : Int32) [(.ref a6), (.ref a7), .null, .null, .null, .null, .null, .null, .null, .null] .null) :
    MF l y16 jdk_38_method_18_code 2 (some (.object "java/lang/Object")) ws ({ frames := 0, cells := 0, slots := 0, locals := 0 } : Room) Z #[(.ref a1), (.int (0 : Int32))] h0 (r16_2Q Z a1 a2 k5 a6 a7 h0 n0) := by
  refine MetFree.of_bodySF (plainFor_of_name pn_java_util_ArrayList) hisR ?_
  intro p e s m args below meth c s₁ Bd hml0 hP hK
  obtain ⟨rfl, hZ, hh⟩ := hP
  have hx := Bd.exec
  have hby := Bd.bytes
  have hml : c.maxLocals = 2 := hml0
  have hown : s.vm.findClass "java/util/ArrayList" = some m.cls := findClass_of_methodNamed Bd.named
  have hnm := (name_of_methodNamed Bd.named Bd.method).1
  have X0 : Stand p l e ({ frames := 0, cells := 0, slots := 0, locals := 0 } : Room) s m #[(.ref a1), (.int (0 : Int32))] below meth c s₁ [] 0 0 := Stand.of_body Bd
  have e0 : s₁.heap = h0 := by rw [← hh, Bd.state]; rfl
  have N0 := Fr.nil n0
  have pre0 : ∀ t, Steps p.tables e below (s₁.setTop (mkF m 0 #[rv a1, iv (0 : Int32)] [])) t → Steps p.tables e below (s₁.setTop (entryFrame m #[(.ref a1), (.int (0 : Int32))] 2)) t := fun t k => castTop (r16_2e m a1 a2 k5 a6 a7) k
  obtain ⟨T4, X4, e4, st4⟩ := getF X0 hx hZ hown (host := "") (Or.inl (ow hw 32 rfl)) Via.refl e0 H3 (g := (mkF m 1 #[rv a1, iv (0 : Int32)] [(.ref a1)])) rfl rfl (hb hby d16_1)
  obtain ⟨cl9, Ar9, q9, S9, M9, H9, G9⟩ := id H8
  have hin9 : ¬ ((0 : Int32) < 0 ∨ cl9.slots.size ≤ ((0 : Int32)).toNatClampNeg) := inb_of S9 ⟨by decide, by decide⟩
  obtain ⟨fs, hr, hrun, hended, hW, hsame⟩ := X4.leave (v := some (.ref a6)) (fun h => by rw [Bd.returns] at h; cases h)
  refine ⟨_, _, pre0 _ ?_, hrun, hended, _, _, rfl, ?_, ⟨_, rfl⟩, hW, hsame.mono (by decide) (by decide)⟩
  · show St p e below s₁ m 0 #[rv a1, iv (0 : Int32)] [] _
    refine XS.aloadN X0.here hx rfl (hb hby d16_0) rfl rfl ?_
    show St p e below s₁ m 1 #[rv a1, iv (0 : Int32)] [(.ref a1)] _
    refine st4 _ ?_
    show St p e below T4 m 4 #[rv a1, iv (0 : Int32)] [(.ref a2)] _
    refine XS.iloadN X4.here hx rfl (hb hby d16_4) rfl ?_
    show St p e below T4 m 5 #[rv a1, iv (0 : Int32)] [(.int (0 : Int32)), (.ref a2)] _
    refine X4.aaload hx (j := (0 : Int32)) (v := (.ref a6)) (by rw [e4]; exact Ar9.1) (State.isArrayOf_alike hZ.alike Ar9.2.1) rfl Ar9.2.2 hin9 (Has.at H9 hin9 rfl) (g := (mkF m 5 #[rv a1, iv (0 : Int32)] [(.int (0 : Int32)), (.ref a2)])) rfl rfl (hb hby d16_5) _ ?_
    show St p e below T4 m 6 #[rv a1, iv (0 : Int32)] [(.ref a6)] _
    jvm_step X4.here [X4.here.top, hx, (hb hby d16_6), X4.method', Bd.returns, Value.isRef, FieldType.isReference]
    first | (intro acts; rw [hr _ acts rfl rfl rfl]) | rw [hr _ _ rfl rfl rfl]
    exact Steps.refl _
  · show r16_2Q Z a1 a2 k5 a6 a7 h0 n0 _ T4.heap _
    rw [e4]
    exact ⟨rfl, N0, rfl⟩
def r13_2Q (Z : State) (a1 : Addr) (a6 : Addr) (k8 : ClassId) (a9 : Addr) (a10 : Addr) (h0 : Heap) (n0 : Nat) (v : Option Value) (h : Heap) (L : List Loc) : Prop := v = some (.ref a9) ∧ Fr n0 L ∧ h = h0
theorem r13_2e (m : MethodId) (a1 : Addr) (a6 : Addr) (k8 : ClassId) (a9 : Addr) (a10 : Addr) : entryFrame m #[(.ref a1), (.int (0 : Int32))] 2 = mkF m 0 #[rv a1, iv (0 : Int32)] [] := by first | (simp [entryFrame, mkF, argsToLocals, Value.category]; done) | rfl
set_option maxRecDepth 65536 in
set_option maxHeartbeats 40000000 in
theorem r13_2 (l : Launch) (Z : State) (a0 : Array Value) (hw : HW a0 Z) (ws : List Jvm.Cond) (a1 : Addr) (a6 : Addr) (k8 : ClassId) (a9 : Addr) (a10 : Addr) (h0 : Heap) (n0 : Nat) (O0 : Old Z n0 h0) (H2 : Fld Z h0 a1 "java/util/ArrayList" "size" "I" (.int (2 : Int32))) (H5 : Exa Z h0 a1 "java/util/ArrayList") (H7 : Fld Z h0 a1 "java/util/ArrayList" "elementData" "[Ljava/lang/Object;" (.ref a6)) (H11 : Arv Z h0 a6 k8 (.object "java/lang/Object") (10 : Int32) [(.ref a9), (.ref a10), .null, .null, .null, .null, .null, .null, .null, .null] .null) :
    MF l y13 jdk_38_method_20_code 2 (some (.object "java/lang/Object")) ws ({ frames := 2, cells := 0, slots := 0, locals := 27 } : Room) Z #[(.ref a1), (.int (0 : Int32))] h0 (r13_2Q Z a1 a6 k8 a9 a10 h0 n0) := by
  refine MetFree.of_bodySF (plainFor_of_name pn_java_util_ArrayList) hisR ?_
  intro p e s m args below meth c s₁ Bd hml0 hP hK
  obtain ⟨rfl, hZ, hh⟩ := hP
  have hx := Bd.exec
  have hby := Bd.bytes
  have hml : c.maxLocals = 2 := hml0
  have hown : s.vm.findClass "java/util/ArrayList" = some m.cls := findClass_of_methodNamed Bd.named
  have hnm := (name_of_methodNamed Bd.named Bd.method).1
  have X0 : Stand p l e ({ frames := 2, cells := 0, slots := 0, locals := 27 } : Room) s m #[(.ref a1), (.int (0 : Int32))] below meth c s₁ [] 0 0 := Stand.of_body Bd
  have e0 : s₁.heap = h0 := by rw [← hh, Bd.state]; rfl
  have N0 := Fr.nil n0
  have pre0 : ∀ t, Steps p.tables e below (s₁.setTop (mkF m 0 #[rv a1, iv (0 : Int32)] [])) t → Steps p.tables e below (s₁.setTop (entryFrame m #[(.ref a1), (.int (0 : Int32))] 2)) t := fun t k => castTop (r13_2e m a1 a6 k8 a9 a10) k
  obtain ⟨T3, X3, e3, st3⟩ := getF X0 hx hZ hown (host := "") (Or.inl (ow hw 66 rfl)) Via.refl e0 H2 (g := (mkF m 2 #[rv a1, iv (0 : Int32)] [(.ref a1), (.int (0 : Int32))])) rfl rfl (hb hby d13_2)
  obtain ⟨_, _, ⟨T4, L4, k4, n4⟩, -, X4, ⟨Lc4, hQ4, l4, y4, z4⟩, st4⟩ := Jvm.LawKit.callS X3 hx (y := y14) hown (mvT hZ (ow hw 108 rfl)) (mvT hZ (ow hw 109 rfl)) (mvT hZ (ow hw 110 rfl)) (mvT hZ (ow hw 111 rfl)) (by decide) (backOf (W := 0) (r14_2 l Z a0 hw [] h0 n0 O0) hZ (ow hw 111 rfl) (ow hw 110 rfl) (by decide) (by decide)) (g := (mkF m 5 #[rv a1, iv (0 : Int32)] [(.int (2 : Int32)), (.int (0 : Int32))])) rfl (by rw [hml]; rfl) (argsL := [(.int (0 : Int32)), (.int (2 : Int32))]) (rest := []) (lenOf pd__II_I rfl) rfl (by show 2 * 0 + _ ≤ _; exact Nat.le_of_eq rfl) (hb hby d13_5) (fun _ _ => ⟨rfl, e3, (by decide : 0 + 0 ≤ _), (by decide : 0 + 0 ≤ _)⟩)
  dsimp only [Pt.U, Pt.locs, Pt.cells, Pt.slots] at X4 l4 y4 z4 st4 hQ4
  subst l4 y4 z4
  obtain ⟨rfl, N4q, e4⟩ := hQ4
  have N4 := Fr.app N0 N4q
  obtain ⟨cq12, kq12, q12a, q12b, q12c⟩ := isOf hZ e4 H5
  obtain ⟨_, _, ⟨T12, L12, k12, n12⟩, -, X12, ⟨Lc12, hQ12, l12, y12, z12⟩, st12⟩ := X4.virtualBack hx (y := y16) (z := y16) hown (mvT hZ (ow hw 116 rfl)) (mvT hZ (ow hw 117 rfl)) (notFace_of_selects (args := #[]) (mvT hZ (ow hw 119 rfl))) (mvT hZ (ow hw 119 rfl)) (mvT hZ (ow hw 118 rfl)) (by decide) (backOf (W := 0) (r16_2 l Z a0 hw [] a1 a6 k8 a9 a10 h0 n0 O0 H7 H11) hZ (ow hw 120 rfl) (ow hw 10 rfl) (by decide) (by decide)) q12a q12c (g := (mkF m 11 #[rv a1, iv (0 : Int32)] [(.int (0 : Int32)), (.ref a1)])) rfl (by rw [hml]; rfl) (Steps.refl _) (argsL := [(.int (0 : Int32))]) (rest := []) (lenOf pd__I_Ljava_lang_Object_ rfl) rfl (by show 2 * 0 + _ ≤ _; exact Nat.le_of_eq rfl) (hb hby d13_11) (fun _ _ => ⟨rfl, e4, (by decide : 0 + 0 ≤ _), (by decide : 0 + 0 ≤ _)⟩)
  dsimp only [Pt.U, Pt.locs, Pt.cells, Pt.slots] at X12 l12 y12 z12 st12 hQ12
  subst l12 y12 z12
  obtain ⟨rfl, N12q, e12⟩ := hQ12
  have N12 := Fr.app N4 N12q
  obtain ⟨fs, hr, hrun, hended, hW, hsame⟩ := X12.leave (v := some (.ref a9)) (fun h => by rw [Bd.returns] at h; cases h)
  refine ⟨_, _, pre0 _ ?_, hrun, hended, _, _, rfl, ?_, ⟨_, rfl⟩, hW, hsame.mono (by decide) (by decide)⟩
  · show St p e below s₁ m 0 #[rv a1, iv (0 : Int32)] [] _
    refine XS.iloadN X0.here hx rfl (hb hby d13_0) rfl ?_
    show St p e below s₁ m 1 #[rv a1, iv (0 : Int32)] [(.int (0 : Int32))] _
    refine XS.aloadN X0.here hx rfl (hb hby d13_1) rfl rfl ?_
    show St p e below s₁ m 2 #[rv a1, iv (0 : Int32)] [(.ref a1), (.int (0 : Int32))] _
    refine st3 _ ?_
    show St p e below T3 m 5 #[rv a1, iv (0 : Int32)] [(.int (2 : Int32)), (.int (0 : Int32))] _
    refine st4 _ ?_
    show St p e below T4 m 8 #[rv a1, iv (0 : Int32)] [(.int (0 : Int32))] _
    refine XS.pop X4.here hx rfl (hb hby d13_8) rfl rfl ?_
    show St p e below T4 m 9 #[rv a1, iv (0 : Int32)] [] _
    refine XS.aloadN X4.here hx rfl (hb hby d13_9) rfl rfl ?_
    show St p e below T4 m 10 #[rv a1, iv (0 : Int32)] [(.ref a1)] _
    refine XS.iloadN X4.here hx rfl (hb hby d13_10) rfl ?_
    show St p e below T4 m 11 #[rv a1, iv (0 : Int32)] [(.int (0 : Int32)), (.ref a1)] _
    refine st12.trans ?_
    show St p e below T12 m 14 #[rv a1, iv (0 : Int32)] [(.ref a9)] _
    jvm_step X12.here [X12.here.top, hx, (hb hby d13_14), X12.method', Bd.returns, Value.isRef, FieldType.isReference]
    first | (intro acts; rw [hr _ acts rfl rfl rfl]) | rw [hr _ _ rfl rfl rfl]
    exact Steps.refl _
  · show r13_2Q Z a1 a6 k8 a9 a10 h0 n0 _ T12.heap _
    rw [e12]
    exact ⟨rfl, N12, rfl⟩
def r15_3Q (Z : State) (h0 : Heap) (n0 : Nat) (v : Option Value) (h : Heap) (L : List Loc) : Prop := v = some (.int (1 : Int32)) ∧ Fr n0 L ∧ h = h0
theorem r15_3e (m : MethodId) : entryFrame m #[(.int (1 : Int32)), (.int (2 : Int32)), .null] 3 = mkF m 0 #[iv (1 : Int32), iv (2 : Int32), .val .null] [] := by first | (simp [entryFrame, mkF, argsToLocals, Value.category]; done) | rfl
set_option maxRecDepth 65536 in
set_option maxHeartbeats 40000000 in
theorem r15_3 (l : Launch) (Z : State) (a0 : Array Value) (hw : HW a0 Z) (ws : List Jvm.Cond) (h0 : Heap) (n0 : Nat) (O0 : Old Z n0 h0) :
    MF l y15 jdk_41_method_11_code 3 (some .int) ws ({ frames := 0, cells := 0, slots := 0, locals := 0 } : Room) Z #[(.int (1 : Int32)), (.int (2 : Int32)), .null] h0 (r15_3Q Z h0 n0) := by
  refine MetFree.of_bodySF (plainFor_of_name pn_jdk_internal_util_Preconditions) hisR ?_
  intro p e s m args below meth c s₁ Bd hml0 hP hK
  obtain ⟨rfl, hZ, hh⟩ := hP
  have hx := Bd.exec
  have hby := Bd.bytes
  have hml : c.maxLocals = 3 := hml0
  have hown : s.vm.findClass "jdk/internal/util/Preconditions" = some m.cls := findClass_of_methodNamed Bd.named
  have hnm := (name_of_methodNamed Bd.named Bd.method).1
  have X0 : Stand p l e ({ frames := 0, cells := 0, slots := 0, locals := 0 } : Room) s m #[(.int (1 : Int32)), (.int (2 : Int32)), .null] below meth c s₁ [] 0 0 := Stand.of_body Bd
  have e0 : s₁.heap = h0 := by rw [← hh, Bd.state]; rfl
  have N0 := Fr.nil n0
  have pre0 : ∀ t, Steps p.tables e below (s₁.setTop (mkF m 0 #[iv (1 : Int32), iv (2 : Int32), .val .null] [])) t → Steps p.tables e below (s₁.setTop (entryFrame m #[(.int (1 : Int32)), (.int (2 : Int32)), .null] 3)) t := fun t k => castTop (r15_3e m) k
  obtain ⟨fs, hr, hrun, hended, hW, hsame⟩ := X0.leave (v := some (.int (1 : Int32))) (fun h => by rw [Bd.returns] at h; cases h)
  refine ⟨_, _, pre0 _ ?_, hrun, hended, _, _, rfl, ?_, ⟨_, rfl⟩, hW, hsame.mono (by decide) (by decide)⟩
  · show St p e below s₁ m 0 #[iv (1 : Int32), iv (2 : Int32), .val .null] [] _
    refine XS.iloadN X0.here hx rfl (hb hby d15_0) rfl ?_
    show St p e below s₁ m 1 #[iv (1 : Int32), iv (2 : Int32), .val .null] [(.int (1 : Int32))] _
    refine XS.ifNo X0.here hx rfl (hb hby d15_1) rfl ((if0 _ _).trans (flt (by decide : ¬ ((1 : Int32) < (0 : Int32)))).1) ?_
    show St p e below s₁ m 4 #[iv (1 : Int32), iv (2 : Int32), .val .null] [] _
    refine XS.iloadN X0.here hx rfl (hb hby d15_4) rfl ?_
    show St p e below s₁ m 5 #[iv (1 : Int32), iv (2 : Int32), .val .null] [(.int (1 : Int32))] _
    refine XS.iloadN X0.here hx rfl (hb hby d15_5) rfl ?_
    show St p e below s₁ m 6 #[iv (1 : Int32), iv (2 : Int32), .val .null] [(.int (2 : Int32)), (.int (1 : Int32))] _
    refine XS.icmpYes X0.here hx rfl (pc0 := 6) (pc' := 16) rfl (hb hby d15_6) rfl (tlt (by decide : (1 : Int32) < (2 : Int32))).1 (by decide) (by decide) ?_
    show St p e below s₁ m 16 #[iv (1 : Int32), iv (2 : Int32), .val .null] [] _
    refine XS.iloadN X0.here hx rfl (hb hby d15_16) rfl ?_
    show St p e below s₁ m 17 #[iv (1 : Int32), iv (2 : Int32), .val .null] [(.int (1 : Int32))] _
    exact retI X0 hx Bd.returns (hb hby d15_17) hr
  · show r15_3Q Z h0 n0 _ s₁.heap _
    rw [e0]
    exact ⟨rfl, N0, rfl⟩
def r14_3Q (Z : State) (h0 : Heap) (n0 : Nat) (v : Option Value) (h : Heap) (L : List Loc) : Prop := v = some (.int (1 : Int32)) ∧ Fr n0 L ∧ h = h0
theorem r14_3e (m : MethodId) : entryFrame m #[(.int (1 : Int32)), (.int (2 : Int32))] 2 = mkF m 0 #[iv (1 : Int32), iv (2 : Int32)] [] := by first | (simp [entryFrame, mkF, argsToLocals, Value.category]; done) | rfl
set_option maxRecDepth 65536 in
set_option maxHeartbeats 40000000 in
theorem r14_3 (l : Launch) (Z : State) (a0 : Array Value) (hw : HW a0 Z) (ws : List Jvm.Cond) (h0 : Heap) (n0 : Nat) (O0 : Old Z n0 h0) :
    MF l y14 jdk_31_method_17_code 2 (some .int) ws ({ frames := 1, cells := 0, slots := 0, locals := 14 } : Room) Z #[(.int (1 : Int32)), (.int (2 : Int32))] h0 (r14_3Q Z h0 n0) := by
  refine MetFree.of_bodySF (plainFor_of_name pn_java_util_Objects) hisR ?_
  intro p e s m args below meth c s₁ Bd hml0 hP hK
  obtain ⟨rfl, hZ, hh⟩ := hP
  have hx := Bd.exec
  have hby := Bd.bytes
  have hml : c.maxLocals = 2 := hml0
  have hown : s.vm.findClass "java/util/Objects" = some m.cls := findClass_of_methodNamed Bd.named
  have hnm := (name_of_methodNamed Bd.named Bd.method).1
  have X0 : Stand p l e ({ frames := 1, cells := 0, slots := 0, locals := 14 } : Room) s m #[(.int (1 : Int32)), (.int (2 : Int32))] below meth c s₁ [] 0 0 := Stand.of_body Bd
  have e0 : s₁.heap = h0 := by rw [← hh, Bd.state]; rfl
  have N0 := Fr.nil n0
  have pre0 : ∀ t, Steps p.tables e below (s₁.setTop (mkF m 0 #[iv (1 : Int32), iv (2 : Int32)] [])) t → Steps p.tables e below (s₁.setTop (entryFrame m #[(.int (1 : Int32)), (.int (2 : Int32))] 2)) t := fun t k => castTop (r14_3e m) k
  obtain ⟨_, _, ⟨T1, L1, k1, n1⟩, -, X1, ⟨Lc1, hQ1, l1, y1, z1⟩, st1⟩ := Jvm.LawKit.callS X0 hx (y := y15) hown (mvT hZ (ow hw 112 rfl)) (mvT hZ (ow hw 113 rfl)) (mvT hZ (ow hw 114 rfl)) (mvT hZ (ow hw 115 rfl)) (by decide) (backOf (W := 0) (r15_3 l Z a0 hw [] h0 n0 O0) hZ (ow hw 115 rfl) (ow hw 114 rfl) (by decide) (by decide)) (g := (mkF m 3 #[iv (1 : Int32), iv (2 : Int32)] [.null, (.int (2 : Int32)), (.int (1 : Int32))])) rfl (by rw [hml]; rfl) (argsL := [(.int (1 : Int32)), (.int (2 : Int32)), .null]) (rest := []) (lenOf pd__IILjava_util_function_BiFunction__I rfl) rfl (by show 2 * 0 + _ ≤ _; exact Nat.le_of_eq rfl) (hb hby d14_3) (fun _ _ => ⟨rfl, e0, (by decide : 0 + 0 ≤ _), (by decide : 0 + 0 ≤ _)⟩)
  dsimp only [Pt.U, Pt.locs, Pt.cells, Pt.slots] at X1 l1 y1 z1 st1 hQ1
  subst l1 y1 z1
  obtain ⟨rfl, N1q, e1⟩ := hQ1
  have N1 := Fr.app N0 N1q
  obtain ⟨fs, hr, hrun, hended, hW, hsame⟩ := X1.leave (v := some (.int (1 : Int32))) (fun h => by rw [Bd.returns] at h; cases h)
  refine ⟨_, _, pre0 _ ?_, hrun, hended, _, _, rfl, ?_, ⟨_, rfl⟩, hW, hsame.mono (by decide) (by decide)⟩
  · show St p e below s₁ m 0 #[iv (1 : Int32), iv (2 : Int32)] [] _
    refine XS.iloadN X0.here hx rfl (hb hby d14_0) rfl ?_
    show St p e below s₁ m 1 #[iv (1 : Int32), iv (2 : Int32)] [(.int (1 : Int32))] _
    refine XS.iloadN X0.here hx rfl (hb hby d14_1) rfl ?_
    show St p e below s₁ m 2 #[iv (1 : Int32), iv (2 : Int32)] [(.int (2 : Int32)), (.int (1 : Int32))] _
    refine XS.aconstNull X0.here hx rfl (hb hby d14_2) ?_
    show St p e below s₁ m 3 #[iv (1 : Int32), iv (2 : Int32)] [.null, (.int (2 : Int32)), (.int (1 : Int32))] _
    refine st1 _ ?_
    show St p e below T1 m 6 #[iv (1 : Int32), iv (2 : Int32)] [(.int (1 : Int32))] _
    exact retI X1 hx Bd.returns (hb hby d14_6) hr
  · show r14_3Q Z h0 n0 _ T1.heap _
    rw [e1]
    exact ⟨rfl, N1, rfl⟩
def r16_3Q (Z : State) (a1 : Addr) (a2 : Addr) (k5 : ClassId) (a6 : Addr) (a7 : Addr) (h0 : Heap) (n0 : Nat) (v : Option Value) (h : Heap) (L : List Loc) : Prop := v = some (.ref a7) ∧ Fr n0 L ∧ h = h0
theorem r16_3e (m : MethodId) (a1 : Addr) (a2 : Addr) (k5 : ClassId) (a6 : Addr) (a7 : Addr) : entryFrame m #[(.ref a1), (.int (1 : Int32))] 2 = mkF m 0 #[rv a1, iv (1 : Int32)] [] := by first | (simp [entryFrame, mkF, argsToLocals, Value.category]; done) | rfl
set_option maxRecDepth 65536 in
set_option maxHeartbeats 40000000 in
theorem r16_3 (l : Launch) (Z : State) (a0 : Array Value) (hw : HW a0 Z) (ws : List Jvm.Cond) (a1 : Addr) (a2 : Addr) (k5 : ClassId) (a6 : Addr) (a7 : Addr) (h0 : Heap) (n0 : Nat) (O0 : Old Z n0 h0) (H3 : Fld Z h0 a1 "java/util/ArrayList" "elementData" "[Ljava/lang/Object;" (.ref a2)) (H8 : Arv Z h0 a2 k5 (.object "java/lang/Object") (10 : Int32) [(.ref a6), (.ref a7), .null, .null, .null, .null, .null, .null, .null, .null] .null) :
    MF l y16 jdk_38_method_18_code 2 (some (.object "java/lang/Object")) ws ({ frames := 0, cells := 0, slots := 0, locals := 0 } : Room) Z #[(.ref a1), (.int (1 : Int32))] h0 (r16_3Q Z a1 a2 k5 a6 a7 h0 n0) := by
  refine MetFree.of_bodySF (plainFor_of_name pn_java_util_ArrayList) hisR ?_
  intro p e s m args below meth c s₁ Bd hml0 hP hK
  obtain ⟨rfl, hZ, hh⟩ := hP
  have hx := Bd.exec
  have hby := Bd.bytes
  have hml : c.maxLocals = 2 := hml0
  have hown : s.vm.findClass "java/util/ArrayList" = some m.cls := findClass_of_methodNamed Bd.named
  have hnm := (name_of_methodNamed Bd.named Bd.method).1
  have X0 : Stand p l e ({ frames := 0, cells := 0, slots := 0, locals := 0 } : Room) s m #[(.ref a1), (.int (1 : Int32))] below meth c s₁ [] 0 0 := Stand.of_body Bd
  have e0 : s₁.heap = h0 := by rw [← hh, Bd.state]; rfl
  have N0 := Fr.nil n0
  have pre0 : ∀ t, Steps p.tables e below (s₁.setTop (mkF m 0 #[rv a1, iv (1 : Int32)] [])) t → Steps p.tables e below (s₁.setTop (entryFrame m #[(.ref a1), (.int (1 : Int32))] 2)) t := fun t k => castTop (r16_3e m a1 a2 k5 a6 a7) k
  obtain ⟨T4, X4, e4, st4⟩ := getF X0 hx hZ hown (host := "") (Or.inl (ow hw 32 rfl)) Via.refl e0 H3 (g := (mkF m 1 #[rv a1, iv (1 : Int32)] [(.ref a1)])) rfl rfl (hb hby d16_1)
  obtain ⟨cl9, Ar9, q9, S9, M9, H9, G9⟩ := id H8
  have hin9 : ¬ ((1 : Int32) < 0 ∨ cl9.slots.size ≤ ((1 : Int32)).toNatClampNeg) := inb_of S9 ⟨by decide, by decide⟩
  obtain ⟨fs, hr, hrun, hended, hW, hsame⟩ := X4.leave (v := some (.ref a7)) (fun h => by rw [Bd.returns] at h; cases h)
  refine ⟨_, _, pre0 _ ?_, hrun, hended, _, _, rfl, ?_, ⟨_, rfl⟩, hW, hsame.mono (by decide) (by decide)⟩
  · show St p e below s₁ m 0 #[rv a1, iv (1 : Int32)] [] _
    refine XS.aloadN X0.here hx rfl (hb hby d16_0) rfl rfl ?_
    show St p e below s₁ m 1 #[rv a1, iv (1 : Int32)] [(.ref a1)] _
    refine st4 _ ?_
    show St p e below T4 m 4 #[rv a1, iv (1 : Int32)] [(.ref a2)] _
    refine XS.iloadN X4.here hx rfl (hb hby d16_4) rfl ?_
    show St p e below T4 m 5 #[rv a1, iv (1 : Int32)] [(.int (1 : Int32)), (.ref a2)] _
    refine X4.aaload hx (j := (1 : Int32)) (v := (.ref a7)) (by rw [e4]; exact Ar9.1) (State.isArrayOf_alike hZ.alike Ar9.2.1) rfl Ar9.2.2 hin9 (Has.at H9 hin9 rfl) (g := (mkF m 5 #[rv a1, iv (1 : Int32)] [(.int (1 : Int32)), (.ref a2)])) rfl rfl (hb hby d16_5) _ ?_
    show St p e below T4 m 6 #[rv a1, iv (1 : Int32)] [(.ref a7)] _
    jvm_step X4.here [X4.here.top, hx, (hb hby d16_6), X4.method', Bd.returns, Value.isRef, FieldType.isReference]
    first | (intro acts; rw [hr _ acts rfl rfl rfl]) | rw [hr _ _ rfl rfl rfl]
    exact Steps.refl _
  · show r16_3Q Z a1 a2 k5 a6 a7 h0 n0 _ T4.heap _
    rw [e4]
    exact ⟨rfl, N0, rfl⟩
def r13_3Q (Z : State) (a1 : Addr) (a6 : Addr) (k8 : ClassId) (a9 : Addr) (a10 : Addr) (h0 : Heap) (n0 : Nat) (v : Option Value) (h : Heap) (L : List Loc) : Prop := v = some (.ref a10) ∧ Fr n0 L ∧ h = h0
theorem r13_3e (m : MethodId) (a1 : Addr) (a6 : Addr) (k8 : ClassId) (a9 : Addr) (a10 : Addr) : entryFrame m #[(.ref a1), (.int (1 : Int32))] 2 = mkF m 0 #[rv a1, iv (1 : Int32)] [] := by first | (simp [entryFrame, mkF, argsToLocals, Value.category]; done) | rfl
set_option maxRecDepth 65536 in
set_option maxHeartbeats 40000000 in
theorem r13_3 (l : Launch) (Z : State) (a0 : Array Value) (hw : HW a0 Z) (ws : List Jvm.Cond) (a1 : Addr) (a6 : Addr) (k8 : ClassId) (a9 : Addr) (a10 : Addr) (h0 : Heap) (n0 : Nat) (O0 : Old Z n0 h0) (H2 : Fld Z h0 a1 "java/util/ArrayList" "size" "I" (.int (2 : Int32))) (H5 : Exa Z h0 a1 "java/util/ArrayList") (H7 : Fld Z h0 a1 "java/util/ArrayList" "elementData" "[Ljava/lang/Object;" (.ref a6)) (H11 : Arv Z h0 a6 k8 (.object "java/lang/Object") (10 : Int32) [(.ref a9), (.ref a10), .null, .null, .null, .null, .null, .null, .null, .null] .null) :
    MF l y13 jdk_38_method_20_code 2 (some (.object "java/lang/Object")) ws ({ frames := 2, cells := 0, slots := 0, locals := 27 } : Room) Z #[(.ref a1), (.int (1 : Int32))] h0 (r13_3Q Z a1 a6 k8 a9 a10 h0 n0) := by
  refine MetFree.of_bodySF (plainFor_of_name pn_java_util_ArrayList) hisR ?_
  intro p e s m args below meth c s₁ Bd hml0 hP hK
  obtain ⟨rfl, hZ, hh⟩ := hP
  have hx := Bd.exec
  have hby := Bd.bytes
  have hml : c.maxLocals = 2 := hml0
  have hown : s.vm.findClass "java/util/ArrayList" = some m.cls := findClass_of_methodNamed Bd.named
  have hnm := (name_of_methodNamed Bd.named Bd.method).1
  have X0 : Stand p l e ({ frames := 2, cells := 0, slots := 0, locals := 27 } : Room) s m #[(.ref a1), (.int (1 : Int32))] below meth c s₁ [] 0 0 := Stand.of_body Bd
  have e0 : s₁.heap = h0 := by rw [← hh, Bd.state]; rfl
  have N0 := Fr.nil n0
  have pre0 : ∀ t, Steps p.tables e below (s₁.setTop (mkF m 0 #[rv a1, iv (1 : Int32)] [])) t → Steps p.tables e below (s₁.setTop (entryFrame m #[(.ref a1), (.int (1 : Int32))] 2)) t := fun t k => castTop (r13_3e m a1 a6 k8 a9 a10) k
  obtain ⟨T3, X3, e3, st3⟩ := getF X0 hx hZ hown (host := "") (Or.inl (ow hw 66 rfl)) Via.refl e0 H2 (g := (mkF m 2 #[rv a1, iv (1 : Int32)] [(.ref a1), (.int (1 : Int32))])) rfl rfl (hb hby d13_2)
  obtain ⟨_, _, ⟨T4, L4, k4, n4⟩, -, X4, ⟨Lc4, hQ4, l4, y4, z4⟩, st4⟩ := Jvm.LawKit.callS X3 hx (y := y14) hown (mvT hZ (ow hw 108 rfl)) (mvT hZ (ow hw 109 rfl)) (mvT hZ (ow hw 110 rfl)) (mvT hZ (ow hw 111 rfl)) (by decide) (backOf (W := 0) (r14_3 l Z a0 hw [] h0 n0 O0) hZ (ow hw 111 rfl) (ow hw 110 rfl) (by decide) (by decide)) (g := (mkF m 5 #[rv a1, iv (1 : Int32)] [(.int (2 : Int32)), (.int (1 : Int32))])) rfl (by rw [hml]; rfl) (argsL := [(.int (1 : Int32)), (.int (2 : Int32))]) (rest := []) (lenOf pd__II_I rfl) rfl (by show 2 * 0 + _ ≤ _; exact Nat.le_of_eq rfl) (hb hby d13_5) (fun _ _ => ⟨rfl, e3, (by decide : 0 + 0 ≤ _), (by decide : 0 + 0 ≤ _)⟩)
  dsimp only [Pt.U, Pt.locs, Pt.cells, Pt.slots] at X4 l4 y4 z4 st4 hQ4
  subst l4 y4 z4
  obtain ⟨rfl, N4q, e4⟩ := hQ4
  have N4 := Fr.app N0 N4q
  obtain ⟨cq12, kq12, q12a, q12b, q12c⟩ := isOf hZ e4 H5
  obtain ⟨_, _, ⟨T12, L12, k12, n12⟩, -, X12, ⟨Lc12, hQ12, l12, y12, z12⟩, st12⟩ := X4.virtualBack hx (y := y16) (z := y16) hown (mvT hZ (ow hw 116 rfl)) (mvT hZ (ow hw 117 rfl)) (notFace_of_selects (args := #[]) (mvT hZ (ow hw 119 rfl))) (mvT hZ (ow hw 119 rfl)) (mvT hZ (ow hw 118 rfl)) (by decide) (backOf (W := 0) (r16_3 l Z a0 hw [] a1 a6 k8 a9 a10 h0 n0 O0 H7 H11) hZ (ow hw 120 rfl) (ow hw 10 rfl) (by decide) (by decide)) q12a q12c (g := (mkF m 11 #[rv a1, iv (1 : Int32)] [(.int (1 : Int32)), (.ref a1)])) rfl (by rw [hml]; rfl) (Steps.refl _) (argsL := [(.int (1 : Int32))]) (rest := []) (lenOf pd__I_Ljava_lang_Object_ rfl) rfl (by show 2 * 0 + _ ≤ _; exact Nat.le_of_eq rfl) (hb hby d13_11) (fun _ _ => ⟨rfl, e4, (by decide : 0 + 0 ≤ _), (by decide : 0 + 0 ≤ _)⟩)
  dsimp only [Pt.U, Pt.locs, Pt.cells, Pt.slots] at X12 l12 y12 z12 st12 hQ12
  subst l12 y12 z12
  obtain ⟨rfl, N12q, e12⟩ := hQ12
  have N12 := Fr.app N4 N12q
  obtain ⟨fs, hr, hrun, hended, hW, hsame⟩ := X12.leave (v := some (.ref a10)) (fun h => by rw [Bd.returns] at h; cases h)
  refine ⟨_, _, pre0 _ ?_, hrun, hended, _, _, rfl, ?_, ⟨_, rfl⟩, hW, hsame.mono (by decide) (by decide)⟩
  · show St p e below s₁ m 0 #[rv a1, iv (1 : Int32)] [] _
    refine XS.iloadN X0.here hx rfl (hb hby d13_0) rfl ?_
    show St p e below s₁ m 1 #[rv a1, iv (1 : Int32)] [(.int (1 : Int32))] _
    refine XS.aloadN X0.here hx rfl (hb hby d13_1) rfl rfl ?_
    show St p e below s₁ m 2 #[rv a1, iv (1 : Int32)] [(.ref a1), (.int (1 : Int32))] _
    refine st3 _ ?_
    show St p e below T3 m 5 #[rv a1, iv (1 : Int32)] [(.int (2 : Int32)), (.int (1 : Int32))] _
    refine st4 _ ?_
    show St p e below T4 m 8 #[rv a1, iv (1 : Int32)] [(.int (1 : Int32))] _
    refine XS.pop X4.here hx rfl (hb hby d13_8) rfl rfl ?_
    show St p e below T4 m 9 #[rv a1, iv (1 : Int32)] [] _
    refine XS.aloadN X4.here hx rfl (hb hby d13_9) rfl rfl ?_
    show St p e below T4 m 10 #[rv a1, iv (1 : Int32)] [(.ref a1)] _
    refine XS.iloadN X4.here hx rfl (hb hby d13_10) rfl ?_
    show St p e below T4 m 11 #[rv a1, iv (1 : Int32)] [(.int (1 : Int32)), (.ref a1)] _
    refine st12.trans ?_
    show St p e below T12 m 14 #[rv a1, iv (1 : Int32)] [(.ref a10)] _
    jvm_step X12.here [X12.here.top, hx, (hb hby d13_14), X12.method', Bd.returns, Value.isRef, FieldType.isReference]
    first | (intro acts; rw [hr _ acts rfl rfl rfl]) | rw [hr _ _ rfl rfl rfl]
    exact Steps.refl _
  · show r13_3Q Z a1 a6 k8 a9 a10 h0 n0 _ T12.heap _
    rw [e12]
    exact ⟨rfl, N12, rfl⟩
def law_2Q (Z : State) (wMultiplexing_FIFO : Addr) (wAnalysis__VALUES : Addr) (wAnalysis_FIFO : Addr) (wAnalysis_SFA : Addr) (wAnalysis_PMOO : Addr) (wAnalysis_PRIORITY : Addr) (wMultiplexing_ARBITRARY : Addr) (wMultiplexing_PRIORITY : Addr) (wArrayList_EMPTY_ELEMENTDATA : Addr) (wArrayList_DEFAULTCAPACITY_EMPTY_ELEMENTDATA : Addr) (k_wAnalysis__VALUES : ClassId) (k_wArrayList_EMPTY_ELEMENTDATA : ClassId) (k_wArrayList_DEFAULTCAPACITY_EMPTY_ELEMENTDATA : ClassId) (i0 : Int32) (h0 : Heap) (n0 : Nat) (v : Option Value) (h : Heap) (L : List Loc) : Prop := v = some (.int (1 : Int32)) ∧ Fr n0 L
theorem law_2e (m : MethodId) (wMultiplexing_FIFO : Addr) (wAnalysis__VALUES : Addr) (wAnalysis_FIFO : Addr) (wAnalysis_SFA : Addr) (wAnalysis_PMOO : Addr) (wAnalysis_PRIORITY : Addr) (wMultiplexing_ARBITRARY : Addr) (wMultiplexing_PRIORITY : Addr) (wArrayList_EMPTY_ELEMENTDATA : Addr) (wArrayList_DEFAULTCAPACITY_EMPTY_ELEMENTDATA : Addr) (k_wAnalysis__VALUES : ClassId) (k_wArrayList_EMPTY_ELEMENTDATA : ClassId) (k_wArrayList_DEFAULTCAPACITY_EMPTY_ELEMENTDATA : ClassId) (i0 : Int32) : entryFrame m #[(.int i0)] maxLocals = mkF m 0 #[iv i0, .unset, .unset, .unset, .unset] [] := by first | (simp [entryFrame, mkF, argsToLocals, Value.category, maxLocals]; done) | rfl
set_option maxRecDepth 65536 in
set_option maxHeartbeats 40000000 in
theorem law_2 (l : Launch) (Z : State) (a0 : Array Value) (hw : HW a0 Z) (ws : List Jvm.Cond) (wMultiplexing_FIFO : Addr) (wAnalysis__VALUES : Addr) (wAnalysis_FIFO : Addr) (wAnalysis_SFA : Addr) (wAnalysis_PMOO : Addr) (wAnalysis_PRIORITY : Addr) (wMultiplexing_ARBITRARY : Addr) (wMultiplexing_PRIORITY : Addr) (wArrayList_EMPTY_ELEMENTDATA : Addr) (wArrayList_DEFAULTCAPACITY_EMPTY_ELEMENTDATA : Addr) (k_wAnalysis__VALUES : ClassId) (k_wArrayList_EMPTY_ELEMENTDATA : ClassId) (k_wArrayList_DEFAULTCAPACITY_EMPTY_ELEMENTDATA : ClassId) (B : Base Z wMultiplexing_FIFO wAnalysis__VALUES wAnalysis_FIFO wAnalysis_SFA wAnalysis_PMOO wAnalysis_PRIORITY wMultiplexing_ARBITRARY wMultiplexing_PRIORITY wArrayList_EMPTY_ELEMENTDATA wArrayList_DEFAULTCAPACITY_EMPTY_ELEMENTDATA k_wAnalysis__VALUES k_wArrayList_EMPTY_ELEMENTDATA k_wArrayList_DEFAULTCAPACITY_EMPTY_ELEMENTDATA) (i0 : Int32) (h0 : Heap) (n0 : Nat) (O0 : Old Z n0 h0) (pin0 : ((i0 &&& (2147483647 : Int32)) % (3 : Int32)) = (1 : Int32)) :
    MetFree l x (head1 (Jvm.Cond.code x code maxLocals ret :: ws) room_1) (fun a U => a = #[(.int i0)] ∧ Z.Warmed39 U.vm ∧ U.heap = h0) (fun _ _ _ _ _ => True) (fun _ U o U' => ∃ v L, o = .returned v ∧ law_2Q Z wMultiplexing_FIFO wAnalysis__VALUES wAnalysis_FIFO wAnalysis_SFA wAnalysis_PMOO wAnalysis_PRIORITY wMultiplexing_ARBITRARY wMultiplexing_PRIORITY wArrayList_EMPTY_ELEMENTDATA wArrayList_DEFAULTCAPACITY_EMPTY_ELEMENTDATA k_wAnalysis__VALUES k_wArrayList_EMPTY_ELEMENTDATA k_wArrayList_DEFAULTCAPACITY_EMPTY_ELEMENTDATA i0 h0 n0 v U'.heap L ∧ FrameEnd U o U' L room_1.cells room_1.slots) := by
  refine MetFree.of_bodySF (plainFor_of_name pn_com_example_virtaus_virtaus_analysis_AnalysisAvailableForPinLaw) hisR ?_
  intro p e s m args below meth c s₁ Bd hml0 hP hK
  obtain ⟨rfl, hZ, hh⟩ := hP
  have hx := Bd.exec
  have hby := Bd.bytes
  have hml : c.maxLocals = 5 := hml0
  have hown : s.vm.findClass "com/example/virtaus/virtaus/analysis/AnalysisAvailableForPinLaw" = some m.cls := findClass_of_methodNamed Bd.named
  have hnm := (name_of_methodNamed Bd.named Bd.method).1
  have X0 : Stand p l e room_1 s m #[(.int i0)] below meth c s₁ [] 0 0 := Stand.of_body Bd
  have e0 : s₁.heap = h0 := by rw [← hh, Bd.state]; rfl
  have N0 := Fr.nil n0
  have pre0 : ∀ t, Steps p.tables e below (s₁.setTop (mkF m 0 #[iv i0, .unset, .unset, .unset, .unset] [])) t → Steps p.tables e below (s₁.setTop (entryFrame m #[(.int i0)] maxLocals)) t := fun t k => castTop (law_2e m wMultiplexing_FIFO wAnalysis__VALUES wAnalysis_FIFO wAnalysis_SFA wAnalysis_PMOO wAnalysis_PRIORITY wMultiplexing_ARBITRARY wMultiplexing_PRIORITY wArrayList_EMPTY_ELEMENTDATA wArrayList_DEFAULTCAPACITY_EMPTY_ELEMENTDATA k_wAnalysis__VALUES k_wArrayList_EMPTY_ELEMENTDATA k_wArrayList_DEFAULTCAPACITY_EMPTY_ELEMENTDATA i0) k
  obtain ⟨T1, X1, e1, st1⟩ := getS2 X0 hx hZ hown (host := "") (Or.inl (ow hw 124 rfl)) Via.refl e0 (B.2.2.2.2.2.2.2.2.2.2.2.2.1.ext O0.2) (g := (mkF m 23 #[iv i0, iv (1 : Int32), .unset, .unset, .unset] [])) rfl (hb hby at_23)
  obtain ⟨_, _, ⟨T2, L2, k2, n2⟩, -, X2, ⟨Lc2, hQ2, l2, y2, z2⟩, st2⟩ := Jvm.LawKit.callS X1 hx (y := y0) hown (mvT hZ (ow hw 4 rfl)) (mvT hZ (ow hw 5 rfl)) (mvT hZ (ow hw 6 rfl)) (mvT hZ (ow hw 7 rfl)) (by decide) (backOf (W := 0) (r0_2 l Z a0 hw [] wMultiplexing_ARBITRARY wArrayList_DEFAULTCAPACITY_EMPTY_ELEMENTDATA wAnalysis__VALUES k_wAnalysis__VALUES wAnalysis_FIFO wAnalysis_SFA wAnalysis_PMOO wAnalysis_PRIORITY wMultiplexing_FIFO k_wArrayList_DEFAULTCAPACITY_EMPTY_ELEMENTDATA wMultiplexing_PRIORITY h0 n0 O0 B.2.2.2.2.2.2.2.2.2.2.2.2.2.2.2.2.2.2.1 B.2.2.1 B.2.2.2.2.2.2.2.2.2.2.2.2.2.2.2.2.2.2.2.2.2.2.2.2.2.2.2.1 B.2.2.2.1 B.2.2.2.2.2.2.2.2.2.2.2.2.2.2.2.2.2.2.2.2.2.2.2.1 B.2.2.2.2.2.2.2.2.2.2.2.2.2.2.2.2.2.2.2.2.2.2.2.2.2.2.2.2.2.2.2.2.2.2.2.1 B.2.2.2.2.2.2.2.2.2.2.2.2.2.2.2.2.2.2.2.2.2.2.2.2.1 B.2.2.2.2.2.2.2.2.2.2.2.2.2.2.2.2.2.2.2.2.2.2.2.2.2.2.2.2.2.1 B.2.2.2.2.2.2.2.1 B.2.2.2.2.2.2.2.2.2.2.2.2.2.2.2.2.2.2.2.2.2.2.2.2.2.1 B.2.2.2.2.2.2.2.2.2.1 B.2.2.2.2.2.2.2.2.2.2.2.2.2.2.2.2.2.2.2.2.2.2.2.2.2.2.1 (Ne.symm B.2.2.2.2.2.2.2.2.2.2.2.2.2.2.2.2.2.2.2.2.2.2.2.2.2.2.2.2.2.2.2.2.2.2.2.2.2.2.2.2.2.2.2.2.2.2.2.2.2.2.2.2.2.2.2.2.2.2.2.2.2.2.2.1)) hZ (ow hw 7 rfl) (ow hw 6 rfl) (by decide) (by decide)) (g := (mkF m 35 #[iv i0, iv (1 : Int32), rv wMultiplexing_ARBITRARY, .unset, .unset] [(.ref wMultiplexing_ARBITRARY)])) rfl (by rw [hml]; rfl) (argsL := [(.ref wMultiplexing_ARBITRARY)]) (rest := []) (lenOf pd__Lcom_example_virtaus_virtaus_network_Multiplexing__Ljava_util_List_ rfl) rfl (by show 2 * 0 + _ ≤ _; exact Nat.le_of_eq rfl) (hb hby at_35) (fun _ _ => ⟨rfl, e1, (by decide : 0 + 3 ≤ _), (by decide : 0 + 17 ≤ _)⟩)
  dsimp only [Pt.U, Pt.locs, Pt.cells, Pt.slots] at X2 l2 y2 z2 st2 hQ2
  subst l2 y2 z2
  obtain ⟨b2_0, b2_1, k2_0, rfl, N2q, K2, lo2_1, lo2_2, nq2_3, f2_4, f2_5, f2_6, f2_7, f2_8, f2_9, f2_10⟩ := hQ2
  have N2 := Fr.app N0 N2q
  have O_K2 : Old Z n0 T2.heap := O0.keep K2 all0
  have Kp_K2 : Keep h0 T2.heap [] := (Keep.refl h0 []).trans K2 all0
  obtain ⟨cq3, kq3, q3a, q3b, q3c⟩ := isOf hZ rfl f2_4
  obtain ⟨_, _, ⟨T3, L3, k3, n3⟩, -, X3, ⟨Lc3, hQ3, l3, y3, z3⟩, st3⟩ := X2.interfaceBack hx (xi := y12) (y := y11) hown (mvT hZ (ow hw 92 rfl)) (mvT hZ (ow hw 93 rfl)) (mvT hZ (ow hw 94 rfl)) (mvT hZ (ow hw 95 rfl)) (mvT hZ (ow hw 96 rfl)) (mvT hZ (ow hw 97 rfl)) (mvT hZ (ow hw 98 rfl)) (mvT hZ (ow hw 62 rfl)) (by decide) (backOf (W := 0) (r11_2 l Z a0 hw [] b2_0 T2.heap n0 O_K2 f2_7) hZ (ow hw 99 rfl) (ow hw 10 rfl) (by decide) (by decide)) q3a q3b q3c (g := (mkF m 82 #[iv i0, iv (1 : Int32), rv wMultiplexing_ARBITRARY, rv b2_0, .unset] [(.ref b2_0)])) rfl (by rw [hml]; rfl) (Steps.refl _) (argsL := []) (rest := []) (lenOf pd___I rfl) rfl (by show 2 * 0 + _ ≤ _; exact Nat.le_of_eq rfl) (hb hby at_82) (fun _ _ => ⟨rfl, rfl, (by decide : 3 + 0 ≤ _), (by decide : 17 + 0 ≤ _)⟩)
  dsimp only [Pt.U, Pt.locs, Pt.cells, Pt.slots] at X3 l3 y3 z3 st3 hQ3
  subst l3 y3 z3
  obtain ⟨rfl, N3q, e3⟩ := hQ3
  have N3 := Fr.app N2 N3q
  obtain ⟨cq4, kq4, q4a, q4b, q4c⟩ := isOf hZ e3 f2_4
  obtain ⟨_, _, ⟨T4, L4, k4, n4⟩, -, X4, ⟨Lc4, hQ4, l4, y4, z4⟩, st4⟩ := X3.interfaceBack hx (xi := y17) (y := y13) hown (mvT hZ (ow hw 100 rfl)) (mvT hZ (ow hw 101 rfl)) (mvT hZ (ow hw 102 rfl)) (mvT hZ (ow hw 103 rfl)) (mvT hZ (ow hw 104 rfl)) (mvT hZ (ow hw 105 rfl)) (mvT hZ (ow hw 106 rfl)) (mvT hZ (ow hw 62 rfl)) (by decide) (backOf (W := 0) (r13_2 l Z a0 hw [] b2_0 b2_1 k2_0 wAnalysis_SFA wAnalysis_PMOO T2.heap n0 O_K2 f2_7 f2_4 f2_6 f2_8) hZ (ow hw 107 rfl) (ow hw 10 rfl) (by decide) (by decide)) q4a q4b q4c (g := (mkF m 93 #[iv i0, iv (1 : Int32), rv wMultiplexing_ARBITRARY, rv b2_0, .unset] [(.int (0 : Int32)), (.ref b2_0)])) rfl (by rw [hml]; rfl) (Steps.refl _) (argsL := [(.int (0 : Int32))]) (rest := []) (lenOf pd__I_Ljava_lang_Object_ rfl) rfl (by show 2 * 0 + _ ≤ _; exact Nat.le_of_eq rfl) (hb hby at_93) (fun _ _ => ⟨rfl, e3, (by decide : 3 + 0 ≤ _), (by decide : 17 + 0 ≤ _)⟩)
  dsimp only [Pt.U, Pt.locs, Pt.cells, Pt.slots] at X4 l4 y4 z4 st4 hQ4
  subst l4 y4 z4
  obtain ⟨rfl, N4q, e4⟩ := hQ4
  have N4 := Fr.app N3 N4q
  obtain ⟨T5, X5, e5, st5⟩ := getS2 X4 hx hZ hown (host := "") (Or.inl (ow hw 125 rfl)) Via.refl e4 (B.2.2.2.2.2.2.1.ext O_K2.2) (g := (mkF m 98 #[iv i0, iv (1 : Int32), rv wMultiplexing_ARBITRARY, rv b2_0, .unset] [(.ref wAnalysis_SFA)])) rfl (hb hby at_98)
  obtain ⟨cq6, kq6, q6a, q6b, q6c⟩ := isOf hZ e5 f2_4
  obtain ⟨_, _, ⟨T6, L6, k6, n6⟩, -, X6, ⟨Lc6, hQ6, l6, y6, z6⟩, st6⟩ := X5.interfaceBack hx (xi := y17) (y := y13) hown (mvT hZ (ow hw 100 rfl)) (mvT hZ (ow hw 101 rfl)) (mvT hZ (ow hw 102 rfl)) (mvT hZ (ow hw 103 rfl)) (mvT hZ (ow hw 104 rfl)) (mvT hZ (ow hw 105 rfl)) (mvT hZ (ow hw 106 rfl)) (mvT hZ (ow hw 62 rfl)) (by decide) (backOf (W := 0) (r13_3 l Z a0 hw [] b2_0 b2_1 k2_0 wAnalysis_SFA wAnalysis_PMOO T2.heap n0 O_K2 f2_7 f2_4 f2_6 f2_8) hZ (ow hw 107 rfl) (ow hw 10 rfl) (by decide) (by decide)) q6a q6b q6c (g := (mkF m 106 #[iv i0, iv (1 : Int32), rv wMultiplexing_ARBITRARY, rv b2_0, .unset] [(.int (1 : Int32)), (.ref b2_0)])) rfl (by rw [hml]; rfl) (Steps.refl _) (argsL := [(.int (1 : Int32))]) (rest := []) (lenOf pd__I_Ljava_lang_Object_ rfl) rfl (by show 2 * 0 + _ ≤ _; exact Nat.le_of_eq rfl) (hb hby at_106) (fun _ _ => ⟨rfl, e5, (by decide : 3 + 0 ≤ _), (by decide : 17 + 0 ≤ _)⟩)
  dsimp only [Pt.U, Pt.locs, Pt.cells, Pt.slots] at X6 l6 y6 z6 st6 hQ6
  subst l6 y6 z6
  obtain ⟨rfl, N6q, e6⟩ := hQ6
  have N6 := Fr.app N4 N6q
  obtain ⟨T7, X7, e7, st7⟩ := getS2 X6 hx hZ hown (host := "") (Or.inl (ow hw 126 rfl)) Via.refl e6 (B.2.2.2.2.2.2.2.2.1.ext O_K2.2) (g := (mkF m 111 #[iv i0, iv (1 : Int32), rv wMultiplexing_ARBITRARY, rv b2_0, .unset] [(.ref wAnalysis_PMOO)])) rfl (hb hby at_111)
  obtain ⟨fs, hr, hrun, hended, hW, hsame⟩ := X7.leave (v := some (.int (1 : Int32))) (fun h => by rw [Bd.returns] at h; cases h)
  refine ⟨_, _, pre0 _ ?_, hrun, hended, _, _, rfl, ?_, ⟨_, rfl⟩, hW, hsame.mono (by decide) (by decide)⟩
  · show St p e below s₁ m 0 #[iv i0, .unset, .unset, .unset, .unset] [] _
    refine XS.iloadN X0.here hx rfl (hb hby at_0) rfl ?_
    show St p e below s₁ m 1 #[iv i0, .unset, .unset, .unset, .unset] [(.int i0)] _
    refine X0.ldcInt hx hown (mvT hZ (ow hw 0 rfl)) (g := (mkF m 1 #[iv i0, .unset, .unset, .unset, .unset] [(.int i0)])) rfl (hb hby at_1) _ ?_
    show St p e below s₁ m 3 #[iv i0, .unset, .unset, .unset, .unset] [(.int (2147483647 : Int32)), (.int i0)] _
    refine XS.iand X0.here hx rfl (hb hby at_3) rfl ?_
    show St p e below s₁ m 4 #[iv i0, .unset, .unset, .unset, .unset] [(.int (i0 &&& (2147483647 : Int32)))] _
    refine XS.iconst X0.here hx rfl (hb hby at_4) ?_
    show St p e below s₁ m 5 #[iv i0, .unset, .unset, .unset, .unset] [(.int (3 : Int32)), (.int (i0 &&& (2147483647 : Int32)))] _
    refine Jvm.RoadKit.iremM (g := (mkF m 5 #[iv i0, .unset, .unset, .unset, .unset] [(.int (3 : Int32)), (.int (i0 &&& (2147483647 : Int32)))])) X0 hx rfl (hb hby at_5) rfl (by decide : ¬ ((3 : Int32) = (0 : Int32))) ?_
    show St p e below s₁ m 6 #[iv i0, .unset, .unset, .unset, .unset] [(.int ((i0 &&& (2147483647 : Int32)) % (3 : Int32)))] _
    rw [pin0]
    show St p e below s₁ m 6 #[iv i0, .unset, .unset, .unset, .unset] [(.int (1 : Int32))] _
    refine XS.istoreN X0.here hx rfl (hb hby at_6) rfl (l' := #[iv i0, iv (1 : Int32), .unset, .unset, .unset]) rfl ?_
    show St p e below s₁ m 7 #[iv i0, iv (1 : Int32), .unset, .unset, .unset] [] _
    refine XS.iloadN X0.here hx rfl (hb hby at_7) rfl ?_
    show St p e below s₁ m 8 #[iv i0, iv (1 : Int32), .unset, .unset, .unset] [(.int (1 : Int32))] _
    refine XS.ifYes X0.here hx rfl (pc0 := 8) (pc' := 18) rfl (hb hby at_8) rfl ((if0 _ _).trans (feq (by decide : ¬ ((1 : Int32) = (0 : Int32)))).2) (by decide) (by decide) ?_
    show St p e below s₁ m 18 #[iv i0, iv (1 : Int32), .unset, .unset, .unset] [] _
    refine XS.iloadN X0.here hx rfl (hb hby at_18) rfl ?_
    show St p e below s₁ m 19 #[iv i0, iv (1 : Int32), .unset, .unset, .unset] [(.int (1 : Int32))] _
    refine XS.iconst X0.here hx rfl (hb hby at_19) ?_
    show St p e below s₁ m 20 #[iv i0, iv (1 : Int32), .unset, .unset, .unset] [(.int (1 : Int32)), (.int (1 : Int32))] _
    refine XS.icmpNo X0.here hx rfl (hb hby at_20) rfl (teq (rfl : (1 : Int32) = (1 : Int32))).2 ?_
    show St p e below s₁ m 23 #[iv i0, iv (1 : Int32), .unset, .unset, .unset] [] _
    refine st1 _ ?_
    show St p e below T1 m 26 #[iv i0, iv (1 : Int32), .unset, .unset, .unset] [(.ref wMultiplexing_ARBITRARY)] _
    refine XS.astoreN X1.here hx rfl (hb hby at_26) rfl rfl (l' := #[iv i0, iv (1 : Int32), rv wMultiplexing_ARBITRARY, .unset, .unset]) rfl ?_
    show St p e below T1 m 27 #[iv i0, iv (1 : Int32), rv wMultiplexing_ARBITRARY, .unset, .unset] [] _
    refine XS.goto X1.here hx rfl (pc0 := 27) (pc' := 34) rfl (hb hby at_27) (by decide) (by decide) ?_
    show St p e below T1 m 34 #[iv i0, iv (1 : Int32), rv wMultiplexing_ARBITRARY, .unset, .unset] [] _
    refine XS.aloadN X1.here hx rfl (hb hby at_34) rfl rfl ?_
    show St p e below T1 m 35 #[iv i0, iv (1 : Int32), rv wMultiplexing_ARBITRARY, .unset, .unset] [(.ref wMultiplexing_ARBITRARY)] _
    refine st2 _ ?_
    show St p e below T2 m 38 #[iv i0, iv (1 : Int32), rv wMultiplexing_ARBITRARY, .unset, .unset] [(.ref b2_0)] _
    refine XS.astoreN X2.here hx rfl (hb hby at_38) rfl rfl (l' := #[iv i0, iv (1 : Int32), rv wMultiplexing_ARBITRARY, rv b2_0, .unset]) rfl ?_
    show St p e below T2 m 39 #[iv i0, iv (1 : Int32), rv wMultiplexing_ARBITRARY, rv b2_0, .unset] [] _
    refine XS.iloadN X2.here hx rfl (hb hby at_39) rfl ?_
    show St p e below T2 m 40 #[iv i0, iv (1 : Int32), rv wMultiplexing_ARBITRARY, rv b2_0, .unset] [(.int (1 : Int32))] _
    refine XS.ifYes X2.here hx rfl (pc0 := 40) (pc' := 76) rfl (hb hby at_40) rfl ((if0 _ _).trans (feq (by decide : ¬ ((1 : Int32) = (0 : Int32)))).2) (by decide) (by decide) ?_
    show St p e below T2 m 76 #[iv i0, iv (1 : Int32), rv wMultiplexing_ARBITRARY, rv b2_0, .unset] [] _
    refine XS.iloadN X2.here hx rfl (hb hby at_76) rfl ?_
    show St p e below T2 m 77 #[iv i0, iv (1 : Int32), rv wMultiplexing_ARBITRARY, rv b2_0, .unset] [(.int (1 : Int32))] _
    refine XS.iconst X2.here hx rfl (hb hby at_77) ?_
    show St p e below T2 m 78 #[iv i0, iv (1 : Int32), rv wMultiplexing_ARBITRARY, rv b2_0, .unset] [(.int (1 : Int32)), (.int (1 : Int32))] _
    refine XS.icmpNo X2.here hx rfl (hb hby at_78) rfl (teq (rfl : (1 : Int32) = (1 : Int32))).2 ?_
    show St p e below T2 m 81 #[iv i0, iv (1 : Int32), rv wMultiplexing_ARBITRARY, rv b2_0, .unset] [] _
    refine XS.aloadN X2.here hx rfl (hb hby at_81) rfl rfl ?_
    show St p e below T2 m 82 #[iv i0, iv (1 : Int32), rv wMultiplexing_ARBITRARY, rv b2_0, .unset] [(.ref b2_0)] _
    refine st3.trans ?_
    show St p e below T3 m 87 #[iv i0, iv (1 : Int32), rv wMultiplexing_ARBITRARY, rv b2_0, .unset] [(.int (2 : Int32))] _
    refine XS.iconst X3.here hx rfl (hb hby at_87) ?_
    show St p e below T3 m 88 #[iv i0, iv (1 : Int32), rv wMultiplexing_ARBITRARY, rv b2_0, .unset] [(.int (2 : Int32)), (.int (2 : Int32))] _
    refine XS.icmpNo X3.here hx rfl (hb hby at_88) rfl (teq (rfl : (2 : Int32) = (2 : Int32))).2 ?_
    show St p e below T3 m 91 #[iv i0, iv (1 : Int32), rv wMultiplexing_ARBITRARY, rv b2_0, .unset] [] _
    refine XS.aloadN X3.here hx rfl (hb hby at_91) rfl rfl ?_
    show St p e below T3 m 92 #[iv i0, iv (1 : Int32), rv wMultiplexing_ARBITRARY, rv b2_0, .unset] [(.ref b2_0)] _
    refine XS.iconst X3.here hx rfl (hb hby at_92) ?_
    show St p e below T3 m 93 #[iv i0, iv (1 : Int32), rv wMultiplexing_ARBITRARY, rv b2_0, .unset] [(.int (0 : Int32)), (.ref b2_0)] _
    refine st4.trans ?_
    show St p e below T4 m 98 #[iv i0, iv (1 : Int32), rv wMultiplexing_ARBITRARY, rv b2_0, .unset] [(.ref wAnalysis_SFA)] _
    refine st5 _ ?_
    show St p e below T5 m 101 #[iv i0, iv (1 : Int32), rv wMultiplexing_ARBITRARY, rv b2_0, .unset] [(.ref wAnalysis_SFA), (.ref wAnalysis_SFA)] _
    refine Jvm.RoadKit.acmp (g := (mkF m 101 #[iv i0, iv (1 : Int32), rv wMultiplexing_ARBITRARY, rv b2_0, .unset] [(.ref wAnalysis_SFA), (.ref wAnalysis_SFA)])) X5 hx rfl rfl rfl (pc0 := 101) (pc' := 104) (same := true) rfl (hb hby at_101) rfl (decide_eq_true rfl) (by decide) (by decide) ?_
    show St p e below T5 m 104 #[iv i0, iv (1 : Int32), rv wMultiplexing_ARBITRARY, rv b2_0, .unset] [] _
    refine XS.aloadN X5.here hx rfl (hb hby at_104) rfl rfl ?_
    show St p e below T5 m 105 #[iv i0, iv (1 : Int32), rv wMultiplexing_ARBITRARY, rv b2_0, .unset] [(.ref b2_0)] _
    refine XS.iconst X5.here hx rfl (hb hby at_105) ?_
    show St p e below T5 m 106 #[iv i0, iv (1 : Int32), rv wMultiplexing_ARBITRARY, rv b2_0, .unset] [(.int (1 : Int32)), (.ref b2_0)] _
    refine st6.trans ?_
    show St p e below T6 m 111 #[iv i0, iv (1 : Int32), rv wMultiplexing_ARBITRARY, rv b2_0, .unset] [(.ref wAnalysis_PMOO)] _
    refine st7 _ ?_
    show St p e below T7 m 114 #[iv i0, iv (1 : Int32), rv wMultiplexing_ARBITRARY, rv b2_0, .unset] [(.ref wAnalysis_PMOO), (.ref wAnalysis_PMOO)] _
    refine Jvm.RoadKit.acmp (g := (mkF m 114 #[iv i0, iv (1 : Int32), rv wMultiplexing_ARBITRARY, rv b2_0, .unset] [(.ref wAnalysis_PMOO), (.ref wAnalysis_PMOO)])) X7 hx rfl rfl rfl (pc0 := 114) (pc' := 117) (same := true) rfl (hb hby at_114) rfl (decide_eq_true rfl) (by decide) (by decide) ?_
    show St p e below T7 m 117 #[iv i0, iv (1 : Int32), rv wMultiplexing_ARBITRARY, rv b2_0, .unset] [] _
    refine XS.iconst X7.here hx rfl (hb hby at_117) ?_
    show St p e below T7 m 118 #[iv i0, iv (1 : Int32), rv wMultiplexing_ARBITRARY, rv b2_0, .unset] [(.int (1 : Int32))] _
    refine XS.goto X7.here hx rfl (pc0 := 118) (pc' := 122) rfl (hb hby at_118) (by decide) (by decide) ?_
    show St p e below T7 m 122 #[iv i0, iv (1 : Int32), rv wMultiplexing_ARBITRARY, rv b2_0, .unset] [(.int (1 : Int32))] _
    refine XS.istore X7.here hx rfl (hb hby at_122) rfl (l' := #[iv i0, iv (1 : Int32), rv wMultiplexing_ARBITRARY, rv b2_0, iv (1 : Int32)]) rfl ?_
    show St p e below T7 m 124 #[iv i0, iv (1 : Int32), rv wMultiplexing_ARBITRARY, rv b2_0, iv (1 : Int32)] [] _
    refine XS.goto X7.here hx rfl (pc0 := 124) (pc' := 157) rfl (hb hby at_124) (by decide) (by decide) ?_
    show St p e below T7 m 157 #[iv i0, iv (1 : Int32), rv wMultiplexing_ARBITRARY, rv b2_0, iv (1 : Int32)] [] _
    refine XS.iload X7.here hx rfl (hb hby at_157) rfl ?_
    show St p e below T7 m 159 #[iv i0, iv (1 : Int32), rv wMultiplexing_ARBITRARY, rv b2_0, iv (1 : Int32)] [(.int (1 : Int32))] _
    exact retN X7 hx (t := .boolean) Bd.returns (by simp) (hb hby at_159) hr
  · show law_2Q Z wMultiplexing_FIFO wAnalysis__VALUES wAnalysis_FIFO wAnalysis_SFA wAnalysis_PMOO wAnalysis_PRIORITY wMultiplexing_ARBITRARY wMultiplexing_PRIORITY wArrayList_EMPTY_ELEMENTDATA wArrayList_DEFAULTCAPACITY_EMPTY_ELEMENTDATA k_wAnalysis__VALUES k_wArrayList_EMPTY_ELEMENTDATA k_wArrayList_DEFAULTCAPACITY_EMPTY_ELEMENTDATA i0 h0 n0 _ T7.heap _
    rw [e7]
    exact ⟨rfl, N6⟩
def r0_3Q (Z : State) (a1 : Addr) (a7 : Addr) (a11 : Addr) (k13 : ClassId) (a14 : Addr) (a15 : Addr) (a16 : Addr) (a17 : Addr) (a23 : Addr) (a28 : Addr) (k42 : ClassId) (h0 : Heap) (n0 : Nat) (v : Option Value) (h : Heap) (L : List Loc) : Prop := ∃ (b2 : Addr) (b45_0 : Addr) (k45_0 : ClassId), v = some (.ref b2) ∧ Fr n0 L ∧ Keep h0 h [] ∧ h0.size ≤ b2 ∧ h0.size ≤ b45_0 ∧ b2 ≠ b45_0 ∧ Exa Z h b2 "java/util/ArrayList" ∧ Fld Z h b2 "java/util/AbstractList" "modCount" "I" (.int (1 : Int32)) ∧ Fld Z h b2 "java/util/ArrayList" "elementData" "[Ljava/lang/Object;" (.ref b45_0) ∧ Fld Z h b2 "java/util/ArrayList" "size" "I" (.int (1 : Int32)) ∧ Arv Z h b45_0 k45_0 (.object "java/lang/Object") (10 : Int32) [(.ref a17), .null, .null, .null, .null, .null, .null, .null, .null, .null] .null ∧ Exa Z h b45_0 "[Ljava/lang/Object;" ∧ Ovr Z k45_0 "java/lang/Object"
theorem r0_3e (m : MethodId) (a1 : Addr) (a7 : Addr) (a11 : Addr) (k13 : ClassId) (a14 : Addr) (a15 : Addr) (a16 : Addr) (a17 : Addr) (a23 : Addr) (a28 : Addr) (k42 : ClassId) : entryFrame m #[(.ref a1)] 6 = mkF m 0 #[rv a1, .unset, .unset, .unset, .unset, .unset] [] := by first | (simp [entryFrame, mkF, argsToLocals, Value.category]; done) | rfl
set_option maxRecDepth 65536 in
set_option maxHeartbeats 40000000 in
theorem r0_3 (l : Launch) (Z : State) (a0 : Array Value) (hw : HW a0 Z) (ws : List Jvm.Cond) (a1 : Addr) (a7 : Addr) (a11 : Addr) (k13 : ClassId) (a14 : Addr) (a15 : Addr) (a16 : Addr) (a17 : Addr) (a23 : Addr) (a28 : Addr) (k42 : ClassId) (h0 : Heap) (n0 : Nat) (O0 : Old Z n0 h0) (H8 : Sta Z Z.heap "java/util/ArrayList" "DEFAULTCAPACITY_EMPTY_ELEMENTDATA" "[Ljava/lang/Object;" (.ref a7)) (H12 : Sta Z Z.heap "com/example/virtaus/virtaus/analysis/Analysis" "$VALUES" "[Lcom/example/virtaus/virtaus/analysis/Analysis;" (.ref a11)) (H18 : Arv Z Z.heap a11 k13 (.object "com/example/virtaus/virtaus/analysis/Analysis") (4 : Int32) [(.ref a14), (.ref a15), (.ref a16), (.ref a17)] .null) (H19 : Exa Z Z.heap a11 "[Lcom/example/virtaus/virtaus/analysis/Analysis;") (H24 : Fld Z Z.heap a14 "com/example/virtaus/virtaus/analysis/Analysis" "multiplexing" "Lcom/example/virtaus/virtaus/network/Multiplexing;" (.ref a23)) (H26 : a23 ≠ a1) (H29 : Fld Z Z.heap a15 "com/example/virtaus/virtaus/analysis/Analysis" "multiplexing" "Lcom/example/virtaus/virtaus/network/Multiplexing;" (.ref a28)) (H31 : a28 ≠ a1) (H33 : Fld Z Z.heap a16 "com/example/virtaus/virtaus/analysis/Analysis" "multiplexing" "Lcom/example/virtaus/virtaus/network/Multiplexing;" (.ref a28)) (H36 : Fld Z Z.heap a17 "com/example/virtaus/virtaus/analysis/Analysis" "multiplexing" "Lcom/example/virtaus/virtaus/network/Multiplexing;" (.ref a1)) (H43 : Arv Z Z.heap a7 k42 (.object "java/lang/Object") (0 : Int32) [] .null) (H44 : Exa Z Z.heap a17 "com/example/virtaus/virtaus/analysis/Analysis") :
    MF l y0 prog_2_method_7_code 6 (some (.object "java/util/List")) ws ({ frames := 5, cells := 3, slots := 17, locals := 69 } : Room) Z #[(.ref a1)] h0 (r0_3Q Z a1 a7 a11 k13 a14 a15 a16 a17 a23 a28 k42 h0 n0) := by
  refine MetFree.of_bodySF (plainFor_of_name pn_com_example_virtaus_virtaus_analysis_Analysis) hisR ?_
  intro p e s m args below meth c s₁ Bd hml0 hP hK
  obtain ⟨rfl, hZ, hh⟩ := hP
  have hx := Bd.exec
  have hby := Bd.bytes
  have hml : c.maxLocals = 6 := hml0
  have hown : s.vm.findClass "com/example/virtaus/virtaus/analysis/Analysis" = some m.cls := findClass_of_methodNamed Bd.named
  have hnm := (name_of_methodNamed Bd.named Bd.method).1
  have X0 : Stand p l e ({ frames := 5, cells := 3, slots := 17, locals := 69 } : Room) s m #[(.ref a1)] below meth c s₁ [] 0 0 := Stand.of_body Bd
  have e0 : s₁.heap = h0 := by rw [← hh, Bd.state]; rfl
  have N0 := Fr.nil n0
  have pre0 : ∀ t, Steps p.tables e below (s₁.setTop (mkF m 0 #[rv a1, .unset, .unset, .unset, .unset, .unset] [])) t → Steps p.tables e below (s₁.setTop (entryFrame m #[(.ref a1)] 6)) t := fun t k => castTop (r0_3e m a1 a7 a11 k13 a14 a15 a16 a17 a23 a28 k42) k
  obtain ⟨T2, h2, X2, e2, E2, A2, D2, -, st2⟩ := newO X0 hx hZ hown (ow hw 8 rfl) (ow hw 9 rfl) (ow hw 10 rfl) e0 (g := (mkF m 0 #[rv a1, .unset, .unset, .unset, .unset, .unset] [])) rfl (hb hby d0_0) (by decide) (by decide)
  obtain ⟨b2, g2⟩ : ∃ z, z = h0.size := ⟨_, rfl⟩
  rw [← g2] at A2 D2 st2
  have O_E2 : Old Z n0 h2 := O0.ext E2
  have Kp_E2 : Keep h0 h2 [] := (Keep.refl h0 []).ext E2
  have f3 : Fld Z h2 b2 "java/util/AbstractList" "modCount" "I" (.int (0 : Int32)) := D2 (Or.inl (ow hw 30 rfl)) (ty := .int) (by decide)
  have g4 : n0 ≤ b2 := Nat.le_trans (Nat.le_trans (Nat.le_of_eq O0.1.symm) O0.2.1) (Nat.le_of_eq g2.symm)
  have f5 : Fld Z h2 b2 "java/util/ArrayList" "elementData" "[Ljava/lang/Object;" .null := D2 (Or.inl (ow hw 33 rfl)) (ty := (.array (.object "java/lang/Object"))) (by decide)
  have f6 : Fld Z h2 b2 "java/util/ArrayList" "size" "I" (.int (0 : Int32)) := D2 (Or.inl (ow hw 67 rfl)) (ty := .int) (by decide)
  obtain ⟨_, _, ⟨T9, L9, k9, n9⟩, -, X9, ⟨Lc9, hQ9, l9, y9, z9⟩, st9⟩ := X2.specialBack hx (y := y1) rfl hown (mvT hZ (ow hw 11 rfl)) (mvT hZ (ow hw 12 rfl)) (mvT hZ (ow hw 13 rfl)) (by decide) (backOf (W := 1) (r1_1 l Z a0 hw [] b2 a7 h2 n0 O_E2 f3 A2 g4 f5 f6 H8) hZ (ow hw 13 rfl) (ow hw 10 rfl) (by decide) (by decide)) (g := (mkF m 4 #[rv a1, .unset, .unset, .unset, .unset, .unset] [(.ref b2), (.ref b2)])) rfl (by rw [hml]; rfl) (Steps.refl _) (a := b2) (argsL := []) (rest := [(.ref b2)]) (lenOf pd___V rfl) rfl (by show 2 * 0 + _ ≤ _; exact Nat.le_of_eq rfl) (hb hby d0_4) (fun _ _ => ⟨rfl, e2, (by decide : 1 + 0 ≤ _), (by decide : 3 + 0 ≤ _)⟩)
  dsimp only [Pt.U, Pt.locs, Pt.cells, Pt.slots] at X9 l9 y9 z9 st9 hQ9
  subst l9 y9 z9
  obtain ⟨rfl, N9q, K9, f9_1, f9_2, f9_3, f9_4⟩ := hQ9
  have N9 := Fr.app N0 N9q
  have z10 : h0.size ≤ b2 := Nat.le_trans (Keep.refl h0 []).1 (Nat.le_of_eq g2.symm)
  have O_K9 : Old Z n0 T9.heap := O_E2.keep K9 (allS g4 all0)
  have Kp_K9 : Keep h0 T9.heap [] := Kp_E2.trans K9 (allS (Or.inr z10) all0)
  obtain ⟨_, _, ⟨T20, L20, k20, n20⟩, -, X20, ⟨Lc20, hQ20, l20, y20, z20⟩, st20⟩ := Jvm.LawKit.callS X9 hx (y := y4) hown (mvT hZ (ow hw 34 rfl)) (mvT hZ (ow hw 35 rfl)) (mvT hZ (ow hw 6 rfl)) (mvT hZ (ow hw 36 rfl)) (by decide) (backOf (W := 0) (r4_1 l Z a0 hw [] a11 k13 a14 a15 a16 a17 T9.heap n0 O_K9 H12 H18 H19) hZ (ow hw 36 rfl) (ow hw 6 rfl) (by decide) (by decide)) (g := (mkF m 8 #[rv a1, rv b2, .unset, .unset, .unset, .unset] [])) rfl (by rw [hml]; rfl) (argsL := []) (rest := []) (lenOf pd____Lcom_example_virtaus_virtaus_analysis_Analysis_ rfl) rfl (by show 2 * 0 + _ ≤ _; exact Nat.le_of_eq rfl) (hb hby d0_8) (fun _ _ => ⟨rfl, rfl, (by decide : 1 + 1 ≤ _), (by decide : 3 + 4 ≤ _)⟩)
  dsimp only [Pt.U, Pt.locs, Pt.cells, Pt.slots] at X20 l20 y20 z20 st20 hQ20
  subst l20 y20 z20
  obtain ⟨b20_0, rfl, N20q, K20, lo20_1, f20_2, f20_3⟩ := hQ20
  have N20 := Fr.app N9 N20q
  have O_K20 : Old Z n0 T20.heap := O_K9.keep K20 all0
  have Kp_K20 : Keep h0 T20.heap [] := Kp_K9.trans K20 all0
  obtain ⟨cl21, Ar21, q21, S21, M21, H21, G21⟩ := id f20_2
  obtain ⟨cl22, Ar22, q22, S22, M22, H22, G22⟩ := id f20_2
  have hin22 : ¬ ((0 : Int32) < 0 ∨ cl22.slots.size ≤ ((0 : Int32)).toNatClampNeg) := inb_of S22 ⟨by decide, by decide⟩
  obtain ⟨T25, X25, e25, st25⟩ := getF X20 hx hZ hown (host := "") (Or.inl (ow hw 53 rfl)) Via.refl rfl (H24.ext O_K20.2) (g := (mkF m 32 #[rv a1, rv b2, rv b20_0, iv (4 : Int32), iv (0 : Int32), rv a14] [(.ref a14)])) rfl rfl (hb hby d0_32)
  obtain ⟨cl27, Ar27, q27, S27, M27, H27, G27⟩ := id f20_2
  have hin27 : ¬ ((1 : Int32) < 0 ∨ cl27.slots.size ≤ ((1 : Int32)).toNatClampNeg) := inb_of S27 ⟨by decide, by decide⟩
  obtain ⟨T30, X30, e30, st30⟩ := getF X25 hx hZ hown (host := "") (Or.inl (ow hw 53 rfl)) Via.refl e25 (H29.ext O_K20.2) (g := (mkF m 32 #[rv a1, rv b2, rv b20_0, iv (4 : Int32), iv (1 : Int32), rv a15] [(.ref a15)])) rfl rfl (hb hby d0_32)
  obtain ⟨cl32, Ar32, q32, S32, M32, H32, G32⟩ := id f20_2
  have hin32 : ¬ ((2 : Int32) < 0 ∨ cl32.slots.size ≤ ((2 : Int32)).toNatClampNeg) := inb_of S32 ⟨by decide, by decide⟩
  obtain ⟨T34, X34, e34, st34⟩ := getF X30 hx hZ hown (host := "") (Or.inl (ow hw 53 rfl)) Via.refl e30 (H33.ext O_K20.2) (g := (mkF m 32 #[rv a1, rv b2, rv b20_0, iv (4 : Int32), iv (2 : Int32), rv a16] [(.ref a16)])) rfl rfl (hb hby d0_32)
  obtain ⟨cl35, Ar35, q35, S35, M35, H35, G35⟩ := id f20_2
  have hin35 : ¬ ((3 : Int32) < 0 ∨ cl35.slots.size ≤ ((3 : Int32)).toNatClampNeg) := inb_of S35 ⟨by decide, by decide⟩
  obtain ⟨T37, X37, e37, st37⟩ := getF X34 hx hZ hown (host := "") (Or.inl (ow hw 53 rfl)) Via.refl e34 (H36.ext O_K20.2) (g := (mkF m 32 #[rv a1, rv b2, rv b20_0, iv (4 : Int32), iv (3 : Int32), rv a17] [(.ref a17)])) rfl rfl (hb hby d0_32)
  have f38 := (f9_2.keep K20)
  have f39 := (f9_1.keep K20 nin0)
  have f40 := (f9_3.keep K20 nin0)
  have f41 := (f9_4.keep K20 nin0)
  obtain ⟨cq45, kq45, q45a, q45b, q45c⟩ := isOf hZ e37 f38
  obtain ⟨_, _, ⟨T45, L45, k45, n45⟩, -, X45, ⟨Lc45, hQ45, l45, y45, z45⟩, st45⟩ := X37.interfaceBack hx (xi := y10) (y := y5) hown (mvT hZ (ow hw 55 rfl)) (mvT hZ (ow hw 56 rfl)) (mvT hZ (ow hw 57 rfl)) (mvT hZ (ow hw 58 rfl)) (mvT hZ (ow hw 59 rfl)) (mvT hZ (ow hw 60 rfl)) (mvT hZ (ow hw 61 rfl)) (mvT hZ (ow hw 62 rfl)) (by decide) (backOf (W := 0) (r5_1 l Z a0 hw [] b2 a17 a7 k42 T20.heap n0 O_K20 f39 f38 g4 f40 f41 H43 H8 H44) hZ (ow hw 63 rfl) (ow hw 10 rfl) (by decide) (by decide)) q45a q45b q45c (g := (mkF m 42 #[rv a1, rv b2, rv b20_0, iv (4 : Int32), iv (3 : Int32), rv a17] [(.ref a17), (.ref b2)])) rfl (by rw [hml]; rfl) (Steps.refl _) (argsL := [(.ref a17)]) (rest := []) (lenOf pd__Ljava_lang_Object__Z rfl) rfl (by show 2 * 0 + _ ≤ _; exact Nat.le_of_eq rfl) (hb hby d0_42) (fun _ _ => ⟨rfl, e37, (by decide : 2 + 1 ≤ _), (by decide : 7 + 10 ≤ _)⟩)
  dsimp only [Pt.U, Pt.locs, Pt.cells, Pt.slots] at X45 l45 y45 z45 st45 hQ45
  subst l45 y45 z45
  obtain ⟨b45_0, k45_0, rfl, N45q, K45, lo45_1, f45_2, f45_3, f45_4, f45_5, f45_6, f45_7, f45_8⟩ := hQ45
  have N45 := Fr.app N20 N45q
  have O_K45 : Old Z n0 T45.heap := O_K20.keep K45 (allS g4 all0)
  have Kp_K45 : Keep h0 T45.heap [] := Kp_K20.trans K45 (allS (Or.inr z10) all0)
  have z46 : h0.size ≤ b45_0 := Nat.le_trans Kp_K20.1 lo45_1
  have ne47 : b2 ≠ b45_0 := Nat.ne_of_lt (Nat.lt_of_lt_of_le ((A2.keep K9).keep K20).lt lo45_1)
  obtain ⟨fs, hr, hrun, hended, hW, hsame⟩ := X45.leave (v := some (.ref b2)) (fun h => by rw [Bd.returns] at h; cases h)
  refine ⟨_, _, pre0 _ ?_, hrun, hended, _, _, rfl, ?_, ⟨_, rfl⟩, hW, hsame.mono (by decide) (by decide)⟩
  · show St p e below s₁ m 0 #[rv a1, .unset, .unset, .unset, .unset, .unset] [] _
    refine st2 _ ?_
    show St p e below T2 m 3 #[rv a1, .unset, .unset, .unset, .unset, .unset] [(.ref b2)] _
    refine XS.dup X2.here hx rfl (hb hby d0_3) rfl rfl ?_
    show St p e below T2 m 4 #[rv a1, .unset, .unset, .unset, .unset, .unset] [(.ref b2), (.ref b2)] _
    refine st9.trans ?_
    show St p e below T9 m 7 #[rv a1, .unset, .unset, .unset, .unset, .unset] [(.ref b2)] _
    refine XS.astoreN X9.here hx rfl (hb hby d0_7) rfl rfl (l' := #[rv a1, rv b2, .unset, .unset, .unset, .unset]) rfl ?_
    show St p e below T9 m 8 #[rv a1, rv b2, .unset, .unset, .unset, .unset] [] _
    refine st20 _ ?_
    show St p e below T20 m 11 #[rv a1, rv b2, .unset, .unset, .unset, .unset] [(.ref b20_0)] _
    refine XS.astoreN X20.here hx rfl (hb hby d0_11) rfl rfl (l' := #[rv a1, rv b2, rv b20_0, .unset, .unset, .unset]) rfl ?_
    show St p e below T20 m 12 #[rv a1, rv b2, rv b20_0, .unset, .unset, .unset] [] _
    refine XS.aloadN X20.here hx rfl (hb hby d0_12) rfl rfl ?_
    show St p e below T20 m 13 #[rv a1, rv b2, rv b20_0, .unset, .unset, .unset] [(.ref b20_0)] _
    refine X20.arraylength hx Ar21.1 (State.isArrayOf_alike hZ.alike Ar21.2.1) (g := (mkF m 13 #[rv a1, rv b2, rv b20_0, .unset, .unset, .unset] [(.ref b20_0)])) rfl rfl (hb hby d0_13) _ ?_
    rw [len_of S21 M21]
    show St p e below T20 m 14 #[rv a1, rv b2, rv b20_0, .unset, .unset, .unset] [(.int (4 : Int32))] _
    refine XS.istoreN X20.here hx rfl (hb hby d0_14) rfl (l' := #[rv a1, rv b2, rv b20_0, iv (4 : Int32), .unset, .unset]) rfl ?_
    show St p e below T20 m 15 #[rv a1, rv b2, rv b20_0, iv (4 : Int32), .unset, .unset] [] _
    refine XS.iconst X20.here hx rfl (hb hby d0_15) ?_
    show St p e below T20 m 16 #[rv a1, rv b2, rv b20_0, iv (4 : Int32), .unset, .unset] [(.int (0 : Int32))] _
    refine XS.istore X20.here hx rfl (hb hby d0_16) rfl (l' := #[rv a1, rv b2, rv b20_0, iv (4 : Int32), iv (0 : Int32), .unset]) rfl ?_
    show St p e below T20 m 18 #[rv a1, rv b2, rv b20_0, iv (4 : Int32), iv (0 : Int32), .unset] [] _
    refine XS.iload X20.here hx rfl (hb hby d0_18) rfl ?_
    show St p e below T20 m 20 #[rv a1, rv b2, rv b20_0, iv (4 : Int32), iv (0 : Int32), .unset] [(.int (0 : Int32))] _
    refine XS.iloadN X20.here hx rfl (hb hby d0_20) rfl ?_
    show St p e below T20 m 21 #[rv a1, rv b2, rv b20_0, iv (4 : Int32), iv (0 : Int32), .unset] [(.int (4 : Int32)), (.int (0 : Int32))] _
    refine XS.icmpNo X20.here hx rfl (hb hby d0_21) rfl (tlt (by decide : (0 : Int32) < (4 : Int32))).2.1 ?_
    show St p e below T20 m 24 #[rv a1, rv b2, rv b20_0, iv (4 : Int32), iv (0 : Int32), .unset] [] _
    refine XS.aloadN X20.here hx rfl (hb hby d0_24) rfl rfl ?_
    show St p e below T20 m 25 #[rv a1, rv b2, rv b20_0, iv (4 : Int32), iv (0 : Int32), .unset] [(.ref b20_0)] _
    refine XS.iload X20.here hx rfl (hb hby d0_25) rfl ?_
    show St p e below T20 m 27 #[rv a1, rv b2, rv b20_0, iv (4 : Int32), iv (0 : Int32), .unset] [(.int (0 : Int32)), (.ref b20_0)] _
    refine X20.aaload hx (j := (0 : Int32)) (v := (.ref a14)) Ar22.1 (State.isArrayOf_alike hZ.alike Ar22.2.1) rfl Ar22.2.2 hin22 (Has.at H22 hin22 rfl) (g := (mkF m 27 #[rv a1, rv b2, rv b20_0, iv (4 : Int32), iv (0 : Int32), .unset] [(.int (0 : Int32)), (.ref b20_0)])) rfl rfl (hb hby d0_27) _ ?_
    show St p e below T20 m 28 #[rv a1, rv b2, rv b20_0, iv (4 : Int32), iv (0 : Int32), .unset] [(.ref a14)] _
    refine XS.astore X20.here hx rfl (hb hby d0_28) rfl rfl (l' := #[rv a1, rv b2, rv b20_0, iv (4 : Int32), iv (0 : Int32), rv a14]) rfl ?_
    show St p e below T20 m 30 #[rv a1, rv b2, rv b20_0, iv (4 : Int32), iv (0 : Int32), rv a14] [] _
    refine XS.aload X20.here hx rfl (hb hby d0_30) rfl rfl ?_
    show St p e below T20 m 32 #[rv a1, rv b2, rv b20_0, iv (4 : Int32), iv (0 : Int32), rv a14] [(.ref a14)] _
    refine st25 _ ?_
    show St p e below T25 m 35 #[rv a1, rv b2, rv b20_0, iv (4 : Int32), iv (0 : Int32), rv a14] [(.ref a23)] _
    refine XS.aloadN X25.here hx rfl (hb hby d0_35) rfl rfl ?_
    show St p e below T25 m 36 #[rv a1, rv b2, rv b20_0, iv (4 : Int32), iv (0 : Int32), rv a14] [(.ref a1), (.ref a23)] _
    refine Jvm.RoadKit.acmp (g := (mkF m 36 #[rv a1, rv b2, rv b20_0, iv (4 : Int32), iv (0 : Int32), rv a14] [(.ref a1), (.ref a23)])) X25 hx rfl rfl rfl (pc0 := 36) (pc' := 48) (same := false) rfl (hb hby d0_36) rfl (decide_eq_false fun q => H26 (Value.ref.inj q)) (by decide) (by decide) ?_
    show St p e below T25 m 48 #[rv a1, rv b2, rv b20_0, iv (4 : Int32), iv (0 : Int32), rv a14] [] _
    refine XS.iinc X25.here hx rfl (hb hby d0_48) rfl (l' := #[rv a1, rv b2, rv b20_0, iv (4 : Int32), iv (1 : Int32), rv a14]) rfl ?_
    show St p e below T25 m 51 #[rv a1, rv b2, rv b20_0, iv (4 : Int32), iv (1 : Int32), rv a14] [] _
    refine XS.goto X25.here hx rfl (pc0 := 51) (pc' := 18) rfl (hb hby d0_51) (by decide) (by decide) ?_
    show St p e below T25 m 18 #[rv a1, rv b2, rv b20_0, iv (4 : Int32), iv (1 : Int32), rv a14] [] _
    refine XS.iload X25.here hx rfl (hb hby d0_18) rfl ?_
    show St p e below T25 m 20 #[rv a1, rv b2, rv b20_0, iv (4 : Int32), iv (1 : Int32), rv a14] [(.int (1 : Int32))] _
    refine XS.iloadN X25.here hx rfl (hb hby d0_20) rfl ?_
    show St p e below T25 m 21 #[rv a1, rv b2, rv b20_0, iv (4 : Int32), iv (1 : Int32), rv a14] [(.int (4 : Int32)), (.int (1 : Int32))] _
    refine XS.icmpNo X25.here hx rfl (hb hby d0_21) rfl (tlt (by decide : (1 : Int32) < (4 : Int32))).2.1 ?_
    show St p e below T25 m 24 #[rv a1, rv b2, rv b20_0, iv (4 : Int32), iv (1 : Int32), rv a14] [] _
    refine XS.aloadN X25.here hx rfl (hb hby d0_24) rfl rfl ?_
    show St p e below T25 m 25 #[rv a1, rv b2, rv b20_0, iv (4 : Int32), iv (1 : Int32), rv a14] [(.ref b20_0)] _
    refine XS.iload X25.here hx rfl (hb hby d0_25) rfl ?_
    show St p e below T25 m 27 #[rv a1, rv b2, rv b20_0, iv (4 : Int32), iv (1 : Int32), rv a14] [(.int (1 : Int32)), (.ref b20_0)] _
    refine X25.aaload hx (j := (1 : Int32)) (v := (.ref a15)) (by rw [e25]; exact Ar27.1) (State.isArrayOf_alike hZ.alike Ar27.2.1) rfl Ar27.2.2 hin27 (Has.at H27 hin27 rfl) (g := (mkF m 27 #[rv a1, rv b2, rv b20_0, iv (4 : Int32), iv (1 : Int32), rv a14] [(.int (1 : Int32)), (.ref b20_0)])) rfl rfl (hb hby d0_27) _ ?_
    show St p e below T25 m 28 #[rv a1, rv b2, rv b20_0, iv (4 : Int32), iv (1 : Int32), rv a14] [(.ref a15)] _
    refine XS.astore X25.here hx rfl (hb hby d0_28) rfl rfl (l' := #[rv a1, rv b2, rv b20_0, iv (4 : Int32), iv (1 : Int32), rv a15]) rfl ?_
    show St p e below T25 m 30 #[rv a1, rv b2, rv b20_0, iv (4 : Int32), iv (1 : Int32), rv a15] [] _
    refine XS.aload X25.here hx rfl (hb hby d0_30) rfl rfl ?_
    show St p e below T25 m 32 #[rv a1, rv b2, rv b20_0, iv (4 : Int32), iv (1 : Int32), rv a15] [(.ref a15)] _
    refine st30 _ ?_
    show St p e below T30 m 35 #[rv a1, rv b2, rv b20_0, iv (4 : Int32), iv (1 : Int32), rv a15] [(.ref a28)] _
    refine XS.aloadN X30.here hx rfl (hb hby d0_35) rfl rfl ?_
    show St p e below T30 m 36 #[rv a1, rv b2, rv b20_0, iv (4 : Int32), iv (1 : Int32), rv a15] [(.ref a1), (.ref a28)] _
    refine Jvm.RoadKit.acmp (g := (mkF m 36 #[rv a1, rv b2, rv b20_0, iv (4 : Int32), iv (1 : Int32), rv a15] [(.ref a1), (.ref a28)])) X30 hx rfl rfl rfl (pc0 := 36) (pc' := 48) (same := false) rfl (hb hby d0_36) rfl (decide_eq_false fun q => H31 (Value.ref.inj q)) (by decide) (by decide) ?_
    show St p e below T30 m 48 #[rv a1, rv b2, rv b20_0, iv (4 : Int32), iv (1 : Int32), rv a15] [] _
    refine XS.iinc X30.here hx rfl (hb hby d0_48) rfl (l' := #[rv a1, rv b2, rv b20_0, iv (4 : Int32), iv (2 : Int32), rv a15]) rfl ?_
    show St p e below T30 m 51 #[rv a1, rv b2, rv b20_0, iv (4 : Int32), iv (2 : Int32), rv a15] [] _
    refine XS.goto X30.here hx rfl (pc0 := 51) (pc' := 18) rfl (hb hby d0_51) (by decide) (by decide) ?_
    show St p e below T30 m 18 #[rv a1, rv b2, rv b20_0, iv (4 : Int32), iv (2 : Int32), rv a15] [] _
    refine XS.iload X30.here hx rfl (hb hby d0_18) rfl ?_
    show St p e below T30 m 20 #[rv a1, rv b2, rv b20_0, iv (4 : Int32), iv (2 : Int32), rv a15] [(.int (2 : Int32))] _
    refine XS.iloadN X30.here hx rfl (hb hby d0_20) rfl ?_
    show St p e below T30 m 21 #[rv a1, rv b2, rv b20_0, iv (4 : Int32), iv (2 : Int32), rv a15] [(.int (4 : Int32)), (.int (2 : Int32))] _
    refine XS.icmpNo X30.here hx rfl (hb hby d0_21) rfl (tlt (by decide : (2 : Int32) < (4 : Int32))).2.1 ?_
    show St p e below T30 m 24 #[rv a1, rv b2, rv b20_0, iv (4 : Int32), iv (2 : Int32), rv a15] [] _
    refine XS.aloadN X30.here hx rfl (hb hby d0_24) rfl rfl ?_
    show St p e below T30 m 25 #[rv a1, rv b2, rv b20_0, iv (4 : Int32), iv (2 : Int32), rv a15] [(.ref b20_0)] _
    refine XS.iload X30.here hx rfl (hb hby d0_25) rfl ?_
    show St p e below T30 m 27 #[rv a1, rv b2, rv b20_0, iv (4 : Int32), iv (2 : Int32), rv a15] [(.int (2 : Int32)), (.ref b20_0)] _
    refine X30.aaload hx (j := (2 : Int32)) (v := (.ref a16)) (by rw [e30]; exact Ar32.1) (State.isArrayOf_alike hZ.alike Ar32.2.1) rfl Ar32.2.2 hin32 (Has.at H32 hin32 rfl) (g := (mkF m 27 #[rv a1, rv b2, rv b20_0, iv (4 : Int32), iv (2 : Int32), rv a15] [(.int (2 : Int32)), (.ref b20_0)])) rfl rfl (hb hby d0_27) _ ?_
    show St p e below T30 m 28 #[rv a1, rv b2, rv b20_0, iv (4 : Int32), iv (2 : Int32), rv a15] [(.ref a16)] _
    refine XS.astore X30.here hx rfl (hb hby d0_28) rfl rfl (l' := #[rv a1, rv b2, rv b20_0, iv (4 : Int32), iv (2 : Int32), rv a16]) rfl ?_
    show St p e below T30 m 30 #[rv a1, rv b2, rv b20_0, iv (4 : Int32), iv (2 : Int32), rv a16] [] _
    refine XS.aload X30.here hx rfl (hb hby d0_30) rfl rfl ?_
    show St p e below T30 m 32 #[rv a1, rv b2, rv b20_0, iv (4 : Int32), iv (2 : Int32), rv a16] [(.ref a16)] _
    refine st34 _ ?_
    show St p e below T34 m 35 #[rv a1, rv b2, rv b20_0, iv (4 : Int32), iv (2 : Int32), rv a16] [(.ref a28)] _
    refine XS.aloadN X34.here hx rfl (hb hby d0_35) rfl rfl ?_
    show St p e below T34 m 36 #[rv a1, rv b2, rv b20_0, iv (4 : Int32), iv (2 : Int32), rv a16] [(.ref a1), (.ref a28)] _
    refine Jvm.RoadKit.acmp (g := (mkF m 36 #[rv a1, rv b2, rv b20_0, iv (4 : Int32), iv (2 : Int32), rv a16] [(.ref a1), (.ref a28)])) X34 hx rfl rfl rfl (pc0 := 36) (pc' := 48) (same := false) rfl (hb hby d0_36) rfl (decide_eq_false fun q => H31 (Value.ref.inj q)) (by decide) (by decide) ?_
    show St p e below T34 m 48 #[rv a1, rv b2, rv b20_0, iv (4 : Int32), iv (2 : Int32), rv a16] [] _
    refine XS.iinc X34.here hx rfl (hb hby d0_48) rfl (l' := #[rv a1, rv b2, rv b20_0, iv (4 : Int32), iv (3 : Int32), rv a16]) rfl ?_
    show St p e below T34 m 51 #[rv a1, rv b2, rv b20_0, iv (4 : Int32), iv (3 : Int32), rv a16] [] _
    refine XS.goto X34.here hx rfl (pc0 := 51) (pc' := 18) rfl (hb hby d0_51) (by decide) (by decide) ?_
    show St p e below T34 m 18 #[rv a1, rv b2, rv b20_0, iv (4 : Int32), iv (3 : Int32), rv a16] [] _
    refine XS.iload X34.here hx rfl (hb hby d0_18) rfl ?_
    show St p e below T34 m 20 #[rv a1, rv b2, rv b20_0, iv (4 : Int32), iv (3 : Int32), rv a16] [(.int (3 : Int32))] _
    refine XS.iloadN X34.here hx rfl (hb hby d0_20) rfl ?_
    show St p e below T34 m 21 #[rv a1, rv b2, rv b20_0, iv (4 : Int32), iv (3 : Int32), rv a16] [(.int (4 : Int32)), (.int (3 : Int32))] _
    refine XS.icmpNo X34.here hx rfl (hb hby d0_21) rfl (tlt (by decide : (3 : Int32) < (4 : Int32))).2.1 ?_
    show St p e below T34 m 24 #[rv a1, rv b2, rv b20_0, iv (4 : Int32), iv (3 : Int32), rv a16] [] _
    refine XS.aloadN X34.here hx rfl (hb hby d0_24) rfl rfl ?_
    show St p e below T34 m 25 #[rv a1, rv b2, rv b20_0, iv (4 : Int32), iv (3 : Int32), rv a16] [(.ref b20_0)] _
    refine XS.iload X34.here hx rfl (hb hby d0_25) rfl ?_
    show St p e below T34 m 27 #[rv a1, rv b2, rv b20_0, iv (4 : Int32), iv (3 : Int32), rv a16] [(.int (3 : Int32)), (.ref b20_0)] _
    refine X34.aaload hx (j := (3 : Int32)) (v := (.ref a17)) (by rw [e34]; exact Ar35.1) (State.isArrayOf_alike hZ.alike Ar35.2.1) rfl Ar35.2.2 hin35 (Has.at H35 hin35 rfl) (g := (mkF m 27 #[rv a1, rv b2, rv b20_0, iv (4 : Int32), iv (3 : Int32), rv a16] [(.int (3 : Int32)), (.ref b20_0)])) rfl rfl (hb hby d0_27) _ ?_
    show St p e below T34 m 28 #[rv a1, rv b2, rv b20_0, iv (4 : Int32), iv (3 : Int32), rv a16] [(.ref a17)] _
    refine XS.astore X34.here hx rfl (hb hby d0_28) rfl rfl (l' := #[rv a1, rv b2, rv b20_0, iv (4 : Int32), iv (3 : Int32), rv a17]) rfl ?_
    show St p e below T34 m 30 #[rv a1, rv b2, rv b20_0, iv (4 : Int32), iv (3 : Int32), rv a17] [] _
    refine XS.aload X34.here hx rfl (hb hby d0_30) rfl rfl ?_
    show St p e below T34 m 32 #[rv a1, rv b2, rv b20_0, iv (4 : Int32), iv (3 : Int32), rv a17] [(.ref a17)] _
    refine st37 _ ?_
    show St p e below T37 m 35 #[rv a1, rv b2, rv b20_0, iv (4 : Int32), iv (3 : Int32), rv a17] [(.ref a1)] _
    refine XS.aloadN X37.here hx rfl (hb hby d0_35) rfl rfl ?_
    show St p e below T37 m 36 #[rv a1, rv b2, rv b20_0, iv (4 : Int32), iv (3 : Int32), rv a17] [(.ref a1), (.ref a1)] _
    refine Jvm.RoadKit.acmp (g := (mkF m 36 #[rv a1, rv b2, rv b20_0, iv (4 : Int32), iv (3 : Int32), rv a17] [(.ref a1), (.ref a1)])) X37 hx rfl rfl rfl (pc0 := 36) (pc' := 39) (same := true) rfl (hb hby d0_36) rfl (decide_eq_true rfl) (by decide) (by decide) ?_
    show St p e below T37 m 39 #[rv a1, rv b2, rv b20_0, iv (4 : Int32), iv (3 : Int32), rv a17] [] _
    refine XS.aloadN X37.here hx rfl (hb hby d0_39) rfl rfl ?_
    show St p e below T37 m 40 #[rv a1, rv b2, rv b20_0, iv (4 : Int32), iv (3 : Int32), rv a17] [(.ref b2)] _
    refine XS.aload X37.here hx rfl (hb hby d0_40) rfl rfl ?_
    show St p e below T37 m 42 #[rv a1, rv b2, rv b20_0, iv (4 : Int32), iv (3 : Int32), rv a17] [(.ref a17), (.ref b2)] _
    refine st45.trans ?_
    show St p e below T45 m 47 #[rv a1, rv b2, rv b20_0, iv (4 : Int32), iv (3 : Int32), rv a17] [(.int (1 : Int32))] _
    refine XS.pop X45.here hx rfl (hb hby d0_47) rfl rfl ?_
    show St p e below T45 m 48 #[rv a1, rv b2, rv b20_0, iv (4 : Int32), iv (3 : Int32), rv a17] [] _
    refine XS.iinc X45.here hx rfl (hb hby d0_48) rfl (l' := #[rv a1, rv b2, rv b20_0, iv (4 : Int32), iv (4 : Int32), rv a17]) rfl ?_
    show St p e below T45 m 51 #[rv a1, rv b2, rv b20_0, iv (4 : Int32), iv (4 : Int32), rv a17] [] _
    refine XS.goto X45.here hx rfl (pc0 := 51) (pc' := 18) rfl (hb hby d0_51) (by decide) (by decide) ?_
    show St p e below T45 m 18 #[rv a1, rv b2, rv b20_0, iv (4 : Int32), iv (4 : Int32), rv a17] [] _
    refine XS.iload X45.here hx rfl (hb hby d0_18) rfl ?_
    show St p e below T45 m 20 #[rv a1, rv b2, rv b20_0, iv (4 : Int32), iv (4 : Int32), rv a17] [(.int (4 : Int32))] _
    refine XS.iloadN X45.here hx rfl (hb hby d0_20) rfl ?_
    show St p e below T45 m 21 #[rv a1, rv b2, rv b20_0, iv (4 : Int32), iv (4 : Int32), rv a17] [(.int (4 : Int32)), (.int (4 : Int32))] _
    refine XS.icmpYes X45.here hx rfl (pc0 := 21) (pc' := 54) rfl (hb hby d0_21) rfl (flt (by decide : ¬ ((4 : Int32) < (4 : Int32)))).2.1 (by decide) (by decide) ?_
    show St p e below T45 m 54 #[rv a1, rv b2, rv b20_0, iv (4 : Int32), iv (4 : Int32), rv a17] [] _
    refine XS.aloadN X45.here hx rfl (hb hby d0_54) rfl rfl ?_
    show St p e below T45 m 55 #[rv a1, rv b2, rv b20_0, iv (4 : Int32), iv (4 : Int32), rv a17] [(.ref b2)] _
    jvm_step X45.here [X45.here.top, hx, (hb hby d0_55), X45.method', Bd.returns, Value.isRef, FieldType.isReference]
    first | (intro acts; rw [hr _ acts rfl rfl rfl]) | rw [hr _ _ rfl rfl rfl]
    exact Steps.refl _
  · show r0_3Q Z a1 a7 a11 k13 a14 a15 a16 a17 a23 a28 k42 h0 n0 _ T45.heap _
    exact ⟨b2, b45_0, k45_0, rfl, N45, Kp_K45, z10, z46, ne47, f45_3, f45_2, f45_4, f45_5, f45_6, f45_7, f45_8⟩
def law_3Q (Z : State) (wMultiplexing_FIFO : Addr) (wAnalysis__VALUES : Addr) (wAnalysis_FIFO : Addr) (wAnalysis_SFA : Addr) (wAnalysis_PMOO : Addr) (wAnalysis_PRIORITY : Addr) (wMultiplexing_ARBITRARY : Addr) (wMultiplexing_PRIORITY : Addr) (wArrayList_EMPTY_ELEMENTDATA : Addr) (wArrayList_DEFAULTCAPACITY_EMPTY_ELEMENTDATA : Addr) (k_wAnalysis__VALUES : ClassId) (k_wArrayList_EMPTY_ELEMENTDATA : ClassId) (k_wArrayList_DEFAULTCAPACITY_EMPTY_ELEMENTDATA : ClassId) (i0 : Int32) (h0 : Heap) (n0 : Nat) (v : Option Value) (h : Heap) (L : List Loc) : Prop := v = some (.int (1 : Int32)) ∧ Fr n0 L
theorem law_3e (m : MethodId) (wMultiplexing_FIFO : Addr) (wAnalysis__VALUES : Addr) (wAnalysis_FIFO : Addr) (wAnalysis_SFA : Addr) (wAnalysis_PMOO : Addr) (wAnalysis_PRIORITY : Addr) (wMultiplexing_ARBITRARY : Addr) (wMultiplexing_PRIORITY : Addr) (wArrayList_EMPTY_ELEMENTDATA : Addr) (wArrayList_DEFAULTCAPACITY_EMPTY_ELEMENTDATA : Addr) (k_wAnalysis__VALUES : ClassId) (k_wArrayList_EMPTY_ELEMENTDATA : ClassId) (k_wArrayList_DEFAULTCAPACITY_EMPTY_ELEMENTDATA : ClassId) (i0 : Int32) : entryFrame m #[(.int i0)] maxLocals = mkF m 0 #[iv i0, .unset, .unset, .unset, .unset] [] := by first | (simp [entryFrame, mkF, argsToLocals, Value.category, maxLocals]; done) | rfl
set_option maxRecDepth 65536 in
set_option maxHeartbeats 40000000 in
theorem law_3 (l : Launch) (Z : State) (a0 : Array Value) (hw : HW a0 Z) (ws : List Jvm.Cond) (wMultiplexing_FIFO : Addr) (wAnalysis__VALUES : Addr) (wAnalysis_FIFO : Addr) (wAnalysis_SFA : Addr) (wAnalysis_PMOO : Addr) (wAnalysis_PRIORITY : Addr) (wMultiplexing_ARBITRARY : Addr) (wMultiplexing_PRIORITY : Addr) (wArrayList_EMPTY_ELEMENTDATA : Addr) (wArrayList_DEFAULTCAPACITY_EMPTY_ELEMENTDATA : Addr) (k_wAnalysis__VALUES : ClassId) (k_wArrayList_EMPTY_ELEMENTDATA : ClassId) (k_wArrayList_DEFAULTCAPACITY_EMPTY_ELEMENTDATA : ClassId) (B : Base Z wMultiplexing_FIFO wAnalysis__VALUES wAnalysis_FIFO wAnalysis_SFA wAnalysis_PMOO wAnalysis_PRIORITY wMultiplexing_ARBITRARY wMultiplexing_PRIORITY wArrayList_EMPTY_ELEMENTDATA wArrayList_DEFAULTCAPACITY_EMPTY_ELEMENTDATA k_wAnalysis__VALUES k_wArrayList_EMPTY_ELEMENTDATA k_wArrayList_DEFAULTCAPACITY_EMPTY_ELEMENTDATA) (i0 : Int32) (h0 : Heap) (n0 : Nat) (O0 : Old Z n0 h0) (pin0 : ((i0 &&& (2147483647 : Int32)) % (3 : Int32)) = (2 : Int32)) :
    MetFree l x (head1 (Jvm.Cond.code x code maxLocals ret :: ws) room_1) (fun a U => a = #[(.int i0)] ∧ Z.Warmed39 U.vm ∧ U.heap = h0) (fun _ _ _ _ _ => True) (fun _ U o U' => ∃ v L, o = .returned v ∧ law_3Q Z wMultiplexing_FIFO wAnalysis__VALUES wAnalysis_FIFO wAnalysis_SFA wAnalysis_PMOO wAnalysis_PRIORITY wMultiplexing_ARBITRARY wMultiplexing_PRIORITY wArrayList_EMPTY_ELEMENTDATA wArrayList_DEFAULTCAPACITY_EMPTY_ELEMENTDATA k_wAnalysis__VALUES k_wArrayList_EMPTY_ELEMENTDATA k_wArrayList_DEFAULTCAPACITY_EMPTY_ELEMENTDATA i0 h0 n0 v U'.heap L ∧ FrameEnd U o U' L room_1.cells room_1.slots) := by
  refine MetFree.of_bodySF (plainFor_of_name pn_com_example_virtaus_virtaus_analysis_AnalysisAvailableForPinLaw) hisR ?_
  intro p e s m args below meth c s₁ Bd hml0 hP hK
  obtain ⟨rfl, hZ, hh⟩ := hP
  have hx := Bd.exec
  have hby := Bd.bytes
  have hml : c.maxLocals = 5 := hml0
  have hown : s.vm.findClass "com/example/virtaus/virtaus/analysis/AnalysisAvailableForPinLaw" = some m.cls := findClass_of_methodNamed Bd.named
  have hnm := (name_of_methodNamed Bd.named Bd.method).1
  have X0 : Stand p l e room_1 s m #[(.int i0)] below meth c s₁ [] 0 0 := Stand.of_body Bd
  have e0 : s₁.heap = h0 := by rw [← hh, Bd.state]; rfl
  have N0 := Fr.nil n0
  have pre0 : ∀ t, Steps p.tables e below (s₁.setTop (mkF m 0 #[iv i0, .unset, .unset, .unset, .unset] [])) t → Steps p.tables e below (s₁.setTop (entryFrame m #[(.int i0)] maxLocals)) t := fun t k => castTop (law_3e m wMultiplexing_FIFO wAnalysis__VALUES wAnalysis_FIFO wAnalysis_SFA wAnalysis_PMOO wAnalysis_PRIORITY wMultiplexing_ARBITRARY wMultiplexing_PRIORITY wArrayList_EMPTY_ELEMENTDATA wArrayList_DEFAULTCAPACITY_EMPTY_ELEMENTDATA k_wAnalysis__VALUES k_wArrayList_EMPTY_ELEMENTDATA k_wArrayList_DEFAULTCAPACITY_EMPTY_ELEMENTDATA i0) k
  obtain ⟨T1, X1, e1, st1⟩ := getS2 X0 hx hZ hown (host := "") (Or.inl (ow hw 122 rfl)) Via.refl e0 (B.2.2.2.2.2.2.2.2.2.2.2.2.2.2.1.ext O0.2) (g := (mkF m 30 #[iv i0, iv (2 : Int32), .unset, .unset, .unset] [])) rfl (hb hby at_30)
  obtain ⟨_, _, ⟨T2, L2, k2, n2⟩, -, X2, ⟨Lc2, hQ2, l2, y2, z2⟩, st2⟩ := Jvm.LawKit.callS X1 hx (y := y0) hown (mvT hZ (ow hw 4 rfl)) (mvT hZ (ow hw 5 rfl)) (mvT hZ (ow hw 6 rfl)) (mvT hZ (ow hw 7 rfl)) (by decide) (backOf (W := 0) (r0_3 l Z a0 hw [] wMultiplexing_PRIORITY wArrayList_DEFAULTCAPACITY_EMPTY_ELEMENTDATA wAnalysis__VALUES k_wAnalysis__VALUES wAnalysis_FIFO wAnalysis_SFA wAnalysis_PMOO wAnalysis_PRIORITY wMultiplexing_FIFO wMultiplexing_ARBITRARY k_wArrayList_DEFAULTCAPACITY_EMPTY_ELEMENTDATA h0 n0 O0 B.2.2.2.2.2.2.2.2.2.2.2.2.2.2.2.2.2.2.1 B.2.2.1 B.2.2.2.2.2.2.2.2.2.2.2.2.2.2.2.2.2.2.2.2.2.2.2.2.2.2.2.1 B.2.2.2.1 B.2.2.2.2.2.2.2.2.2.2.2.2.2.2.2.2.2.2.2.2.2.2.2.1 B.2.2.2.2.2.2.2.2.2.2.2.2.2.2.2.2.2.2.2.2.2.2.2.2.2.2.2.2.2.2.2.2.2.2.2.2.1 B.2.2.2.2.2.2.2.2.2.2.2.2.2.2.2.2.2.2.2.2.2.2.2.2.1 B.2.2.2.2.2.2.2.2.2.2.2.2.2.2.2.2.2.2.2.2.2.2.2.2.2.2.2.2.2.2.2.2.2.2.2.2.2.2.2.2.2.2.2.2.2.2.2.2.2.2.2.2.2.2.2.2.2.2.2.2.2.2.2.1 B.2.2.2.2.2.2.2.2.2.2.2.2.2.2.2.2.2.2.2.2.2.2.2.2.2.1 B.2.2.2.2.2.2.2.2.2.2.2.2.2.2.2.2.2.2.2.2.2.2.2.2.2.2.1 B.2.2.2.2.2.2.2.2.2.2.2.2.2.2.2.2.2.2.2.2.2.2.2.2.2.2.2.2.2.1 B.2.2.2.2.2.2.2.2.2.2.2.1) hZ (ow hw 7 rfl) (ow hw 6 rfl) (by decide) (by decide)) (g := (mkF m 35 #[iv i0, iv (2 : Int32), rv wMultiplexing_PRIORITY, .unset, .unset] [(.ref wMultiplexing_PRIORITY)])) rfl (by rw [hml]; rfl) (argsL := [(.ref wMultiplexing_PRIORITY)]) (rest := []) (lenOf pd__Lcom_example_virtaus_virtaus_network_Multiplexing__Ljava_util_List_ rfl) rfl (by show 2 * 0 + _ ≤ _; exact Nat.le_of_eq rfl) (hb hby at_35) (fun _ _ => ⟨rfl, e1, (by decide : 0 + 3 ≤ _), (by decide : 0 + 17 ≤ _)⟩)
  dsimp only [Pt.U, Pt.locs, Pt.cells, Pt.slots] at X2 l2 y2 z2 st2 hQ2
  subst l2 y2 z2
  obtain ⟨b2_0, b2_1, k2_0, rfl, N2q, K2, lo2_1, lo2_2, nq2_3, f2_4, f2_5, f2_6, f2_7, f2_8, f2_9, f2_10⟩ := hQ2
  have N2 := Fr.app N0 N2q
  have O_K2 : Old Z n0 T2.heap := O0.keep K2 all0
  have Kp_K2 : Keep h0 T2.heap [] := (Keep.refl h0 []).trans K2 all0
  obtain ⟨cq3, kq3, q3a, q3b, q3c⟩ := isOf hZ rfl f2_4
  obtain ⟨_, _, ⟨T3, L3, k3, n3⟩, -, X3, ⟨Lc3, hQ3, l3, y3, z3⟩, st3⟩ := X2.interfaceBack hx (xi := y12) (y := y11) hown (mvT hZ (ow hw 92 rfl)) (mvT hZ (ow hw 93 rfl)) (mvT hZ (ow hw 94 rfl)) (mvT hZ (ow hw 95 rfl)) (mvT hZ (ow hw 96 rfl)) (mvT hZ (ow hw 97 rfl)) (mvT hZ (ow hw 98 rfl)) (mvT hZ (ow hw 62 rfl)) (by decide) (backOf (W := 0) (r11_1 l Z a0 hw [] b2_0 T2.heap n0 O_K2 f2_7) hZ (ow hw 99 rfl) (ow hw 10 rfl) (by decide) (by decide)) q3a q3b q3c (g := (mkF m 128 #[iv i0, iv (2 : Int32), rv wMultiplexing_PRIORITY, rv b2_0, .unset] [(.ref b2_0)])) rfl (by rw [hml]; rfl) (Steps.refl _) (argsL := []) (rest := []) (lenOf pd___I rfl) rfl (by show 2 * 0 + _ ≤ _; exact Nat.le_of_eq rfl) (hb hby at_128) (fun _ _ => ⟨rfl, rfl, (by decide : 3 + 0 ≤ _), (by decide : 17 + 0 ≤ _)⟩)
  dsimp only [Pt.U, Pt.locs, Pt.cells, Pt.slots] at X3 l3 y3 z3 st3 hQ3
  subst l3 y3 z3
  obtain ⟨rfl, N3q, e3⟩ := hQ3
  have N3 := Fr.app N2 N3q
  obtain ⟨cq4, kq4, q4a, q4b, q4c⟩ := isOf hZ e3 f2_4
  obtain ⟨_, _, ⟨T4, L4, k4, n4⟩, -, X4, ⟨Lc4, hQ4, l4, y4, z4⟩, st4⟩ := X3.interfaceBack hx (xi := y17) (y := y13) hown (mvT hZ (ow hw 100 rfl)) (mvT hZ (ow hw 101 rfl)) (mvT hZ (ow hw 102 rfl)) (mvT hZ (ow hw 103 rfl)) (mvT hZ (ow hw 104 rfl)) (mvT hZ (ow hw 105 rfl)) (mvT hZ (ow hw 106 rfl)) (mvT hZ (ow hw 62 rfl)) (by decide) (backOf (W := 0) (r13_1 l Z a0 hw [] b2_0 b2_1 k2_0 wAnalysis_PRIORITY T2.heap n0 O_K2 f2_7 f2_4 f2_6 f2_8) hZ (ow hw 107 rfl) (ow hw 10 rfl) (by decide) (by decide)) q4a q4b q4c (g := (mkF m 139 #[iv i0, iv (2 : Int32), rv wMultiplexing_PRIORITY, rv b2_0, .unset] [(.int (0 : Int32)), (.ref b2_0)])) rfl (by rw [hml]; rfl) (Steps.refl _) (argsL := [(.int (0 : Int32))]) (rest := []) (lenOf pd__I_Ljava_lang_Object_ rfl) rfl (by show 2 * 0 + _ ≤ _; exact Nat.le_of_eq rfl) (hb hby at_139) (fun _ _ => ⟨rfl, e3, (by decide : 3 + 0 ≤ _), (by decide : 17 + 0 ≤ _)⟩)
  dsimp only [Pt.U, Pt.locs, Pt.cells, Pt.slots] at X4 l4 y4 z4 st4 hQ4
  subst l4 y4 z4
  obtain ⟨rfl, N4q, e4⟩ := hQ4
  have N4 := Fr.app N3 N4q
  obtain ⟨T5, X5, e5, st5⟩ := getS2 X4 hx hZ hown (host := "") (Or.inl (ow hw 123 rfl)) Via.refl e4 (B.2.2.2.2.2.2.2.2.2.2.1.ext O_K2.2) (g := (mkF m 144 #[iv i0, iv (2 : Int32), rv wMultiplexing_PRIORITY, rv b2_0, .unset] [(.ref wAnalysis_PRIORITY)])) rfl (hb hby at_144)
  obtain ⟨fs, hr, hrun, hended, hW, hsame⟩ := X5.leave (v := some (.int (1 : Int32))) (fun h => by rw [Bd.returns] at h; cases h)
  refine ⟨_, _, pre0 _ ?_, hrun, hended, _, _, rfl, ?_, ⟨_, rfl⟩, hW, hsame.mono (by decide) (by decide)⟩
  · show St p e below s₁ m 0 #[iv i0, .unset, .unset, .unset, .unset] [] _
    refine XS.iloadN X0.here hx rfl (hb hby at_0) rfl ?_
    show St p e below s₁ m 1 #[iv i0, .unset, .unset, .unset, .unset] [(.int i0)] _
    refine X0.ldcInt hx hown (mvT hZ (ow hw 0 rfl)) (g := (mkF m 1 #[iv i0, .unset, .unset, .unset, .unset] [(.int i0)])) rfl (hb hby at_1) _ ?_
    show St p e below s₁ m 3 #[iv i0, .unset, .unset, .unset, .unset] [(.int (2147483647 : Int32)), (.int i0)] _
    refine XS.iand X0.here hx rfl (hb hby at_3) rfl ?_
    show St p e below s₁ m 4 #[iv i0, .unset, .unset, .unset, .unset] [(.int (i0 &&& (2147483647 : Int32)))] _
    refine XS.iconst X0.here hx rfl (hb hby at_4) ?_
    show St p e below s₁ m 5 #[iv i0, .unset, .unset, .unset, .unset] [(.int (3 : Int32)), (.int (i0 &&& (2147483647 : Int32)))] _
    refine Jvm.RoadKit.iremM (g := (mkF m 5 #[iv i0, .unset, .unset, .unset, .unset] [(.int (3 : Int32)), (.int (i0 &&& (2147483647 : Int32)))])) X0 hx rfl (hb hby at_5) rfl (by decide : ¬ ((3 : Int32) = (0 : Int32))) ?_
    show St p e below s₁ m 6 #[iv i0, .unset, .unset, .unset, .unset] [(.int ((i0 &&& (2147483647 : Int32)) % (3 : Int32)))] _
    rw [pin0]
    show St p e below s₁ m 6 #[iv i0, .unset, .unset, .unset, .unset] [(.int (2 : Int32))] _
    refine XS.istoreN X0.here hx rfl (hb hby at_6) rfl (l' := #[iv i0, iv (2 : Int32), .unset, .unset, .unset]) rfl ?_
    show St p e below s₁ m 7 #[iv i0, iv (2 : Int32), .unset, .unset, .unset] [] _
    refine XS.iloadN X0.here hx rfl (hb hby at_7) rfl ?_
    show St p e below s₁ m 8 #[iv i0, iv (2 : Int32), .unset, .unset, .unset] [(.int (2 : Int32))] _
    refine XS.ifYes X0.here hx rfl (pc0 := 8) (pc' := 18) rfl (hb hby at_8) rfl ((if0 _ _).trans (feq (by decide : ¬ ((2 : Int32) = (0 : Int32)))).2) (by decide) (by decide) ?_
    show St p e below s₁ m 18 #[iv i0, iv (2 : Int32), .unset, .unset, .unset] [] _
    refine XS.iloadN X0.here hx rfl (hb hby at_18) rfl ?_
    show St p e below s₁ m 19 #[iv i0, iv (2 : Int32), .unset, .unset, .unset] [(.int (2 : Int32))] _
    refine XS.iconst X0.here hx rfl (hb hby at_19) ?_
    show St p e below s₁ m 20 #[iv i0, iv (2 : Int32), .unset, .unset, .unset] [(.int (1 : Int32)), (.int (2 : Int32))] _
    refine XS.icmpYes X0.here hx rfl (pc0 := 20) (pc' := 30) rfl (hb hby at_20) rfl (feq (by decide : ¬ ((2 : Int32) = (1 : Int32)))).2 (by decide) (by decide) ?_
    show St p e below s₁ m 30 #[iv i0, iv (2 : Int32), .unset, .unset, .unset] [] _
    refine st1 _ ?_
    show St p e below T1 m 33 #[iv i0, iv (2 : Int32), .unset, .unset, .unset] [(.ref wMultiplexing_PRIORITY)] _
    refine XS.astoreN X1.here hx rfl (hb hby at_33) rfl rfl (l' := #[iv i0, iv (2 : Int32), rv wMultiplexing_PRIORITY, .unset, .unset]) rfl ?_
    show St p e below T1 m 34 #[iv i0, iv (2 : Int32), rv wMultiplexing_PRIORITY, .unset, .unset] [] _
    refine XS.aloadN X1.here hx rfl (hb hby at_34) rfl rfl ?_
    show St p e below T1 m 35 #[iv i0, iv (2 : Int32), rv wMultiplexing_PRIORITY, .unset, .unset] [(.ref wMultiplexing_PRIORITY)] _
    refine st2 _ ?_
    show St p e below T2 m 38 #[iv i0, iv (2 : Int32), rv wMultiplexing_PRIORITY, .unset, .unset] [(.ref b2_0)] _
    refine XS.astoreN X2.here hx rfl (hb hby at_38) rfl rfl (l' := #[iv i0, iv (2 : Int32), rv wMultiplexing_PRIORITY, rv b2_0, .unset]) rfl ?_
    show St p e below T2 m 39 #[iv i0, iv (2 : Int32), rv wMultiplexing_PRIORITY, rv b2_0, .unset] [] _
    refine XS.iloadN X2.here hx rfl (hb hby at_39) rfl ?_
    show St p e below T2 m 40 #[iv i0, iv (2 : Int32), rv wMultiplexing_PRIORITY, rv b2_0, .unset] [(.int (2 : Int32))] _
    refine XS.ifYes X2.here hx rfl (pc0 := 40) (pc' := 76) rfl (hb hby at_40) rfl ((if0 _ _).trans (feq (by decide : ¬ ((2 : Int32) = (0 : Int32)))).2) (by decide) (by decide) ?_
    show St p e below T2 m 76 #[iv i0, iv (2 : Int32), rv wMultiplexing_PRIORITY, rv b2_0, .unset] [] _
    refine XS.iloadN X2.here hx rfl (hb hby at_76) rfl ?_
    show St p e below T2 m 77 #[iv i0, iv (2 : Int32), rv wMultiplexing_PRIORITY, rv b2_0, .unset] [(.int (2 : Int32))] _
    refine XS.iconst X2.here hx rfl (hb hby at_77) ?_
    show St p e below T2 m 78 #[iv i0, iv (2 : Int32), rv wMultiplexing_PRIORITY, rv b2_0, .unset] [(.int (1 : Int32)), (.int (2 : Int32))] _
    refine XS.icmpYes X2.here hx rfl (pc0 := 78) (pc' := 127) rfl (hb hby at_78) rfl (feq (by decide : ¬ ((2 : Int32) = (1 : Int32)))).2 (by decide) (by decide) ?_
    show St p e below T2 m 127 #[iv i0, iv (2 : Int32), rv wMultiplexing_PRIORITY, rv b2_0, .unset] [] _
    refine XS.aloadN X2.here hx rfl (hb hby at_127) rfl rfl ?_
    show St p e below T2 m 128 #[iv i0, iv (2 : Int32), rv wMultiplexing_PRIORITY, rv b2_0, .unset] [(.ref b2_0)] _
    refine st3.trans ?_
    show St p e below T3 m 133 #[iv i0, iv (2 : Int32), rv wMultiplexing_PRIORITY, rv b2_0, .unset] [(.int (1 : Int32))] _
    refine XS.iconst X3.here hx rfl (hb hby at_133) ?_
    show St p e below T3 m 134 #[iv i0, iv (2 : Int32), rv wMultiplexing_PRIORITY, rv b2_0, .unset] [(.int (1 : Int32)), (.int (1 : Int32))] _
    refine XS.icmpNo X3.here hx rfl (hb hby at_134) rfl (teq (rfl : (1 : Int32) = (1 : Int32))).2 ?_
    show St p e below T3 m 137 #[iv i0, iv (2 : Int32), rv wMultiplexing_PRIORITY, rv b2_0, .unset] [] _
    refine XS.aloadN X3.here hx rfl (hb hby at_137) rfl rfl ?_
    show St p e below T3 m 138 #[iv i0, iv (2 : Int32), rv wMultiplexing_PRIORITY, rv b2_0, .unset] [(.ref b2_0)] _
    refine XS.iconst X3.here hx rfl (hb hby at_138) ?_
    show St p e below T3 m 139 #[iv i0, iv (2 : Int32), rv wMultiplexing_PRIORITY, rv b2_0, .unset] [(.int (0 : Int32)), (.ref b2_0)] _
    refine st4.trans ?_
    show St p e below T4 m 144 #[iv i0, iv (2 : Int32), rv wMultiplexing_PRIORITY, rv b2_0, .unset] [(.ref wAnalysis_PRIORITY)] _
    refine st5 _ ?_
    show St p e below T5 m 147 #[iv i0, iv (2 : Int32), rv wMultiplexing_PRIORITY, rv b2_0, .unset] [(.ref wAnalysis_PRIORITY), (.ref wAnalysis_PRIORITY)] _
    refine Jvm.RoadKit.acmp (g := (mkF m 147 #[iv i0, iv (2 : Int32), rv wMultiplexing_PRIORITY, rv b2_0, .unset] [(.ref wAnalysis_PRIORITY), (.ref wAnalysis_PRIORITY)])) X5 hx rfl rfl rfl (pc0 := 147) (pc' := 150) (same := true) rfl (hb hby at_147) rfl (decide_eq_true rfl) (by decide) (by decide) ?_
    show St p e below T5 m 150 #[iv i0, iv (2 : Int32), rv wMultiplexing_PRIORITY, rv b2_0, .unset] [] _
    refine XS.iconst X5.here hx rfl (hb hby at_150) ?_
    show St p e below T5 m 151 #[iv i0, iv (2 : Int32), rv wMultiplexing_PRIORITY, rv b2_0, .unset] [(.int (1 : Int32))] _
    refine XS.goto X5.here hx rfl (pc0 := 151) (pc' := 155) rfl (hb hby at_151) (by decide) (by decide) ?_
    show St p e below T5 m 155 #[iv i0, iv (2 : Int32), rv wMultiplexing_PRIORITY, rv b2_0, .unset] [(.int (1 : Int32))] _
    refine XS.istore X5.here hx rfl (hb hby at_155) rfl (l' := #[iv i0, iv (2 : Int32), rv wMultiplexing_PRIORITY, rv b2_0, iv (1 : Int32)]) rfl ?_
    show St p e below T5 m 157 #[iv i0, iv (2 : Int32), rv wMultiplexing_PRIORITY, rv b2_0, iv (1 : Int32)] [] _
    refine XS.iload X5.here hx rfl (hb hby at_157) rfl ?_
    show St p e below T5 m 159 #[iv i0, iv (2 : Int32), rv wMultiplexing_PRIORITY, rv b2_0, iv (1 : Int32)] [(.int (1 : Int32))] _
    exact retN X5 hx (t := .boolean) Bd.returns (by simp) (hb hby at_159) hr
  · show law_3Q Z wMultiplexing_FIFO wAnalysis__VALUES wAnalysis_FIFO wAnalysis_SFA wAnalysis_PMOO wAnalysis_PRIORITY wMultiplexing_ARBITRARY wMultiplexing_PRIORITY wArrayList_EMPTY_ELEMENTDATA wArrayList_DEFAULTCAPACITY_EMPTY_ELEMENTDATA k_wAnalysis__VALUES k_wArrayList_EMPTY_ELEMENTDATA k_wArrayList_DEFAULTCAPACITY_EMPTY_ELEMENTDATA i0 h0 n0 _ T5.heap _
    rw [e5]
    exact ⟨rfl, N4⟩
theorem own_rem3 (x : Int32) : ((x &&& (2147483647 : Int32)) % (3 : Int32)) = (0 : Int32) ∨ ((x &&& (2147483647 : Int32)) % (3 : Int32)) = (1 : Int32) ∨ ((x &&& (2147483647 : Int32)) % (3 : Int32)) = (2 : Int32) := by
  have a := c_mask x 2147483647 31 (by decide) (by decide)
  have b := (c_irem (x &&& 2147483647) 3 3 (by decide)).1 (by omega)
  have h0 : (0 : Int32).toInt = 0 := rfl
  have h1 : (1 : Int32).toInt = 1 := rfl
  have h2 : (2 : Int32).toInt = 2 := rfl
  simp only [← Int32.toInt_inj, h0, h1, h2]
  omega
theorem all_roads (l : Launch) (Z : State) (a0 : Array Value) (hw : ∀ d ∈ tables_1, d.before a0 Z = true) (ws : List Jvm.Cond) (wMultiplexing_FIFO : Addr) (wAnalysis__VALUES : Addr) (wAnalysis_FIFO : Addr) (wAnalysis_SFA : Addr) (wAnalysis_PMOO : Addr) (wAnalysis_PRIORITY : Addr) (wMultiplexing_ARBITRARY : Addr) (wMultiplexing_PRIORITY : Addr) (wArrayList_EMPTY_ELEMENTDATA : Addr) (wArrayList_DEFAULTCAPACITY_EMPTY_ELEMENTDATA : Addr) (k_wAnalysis__VALUES : ClassId) (k_wArrayList_EMPTY_ELEMENTDATA : ClassId) (k_wArrayList_DEFAULTCAPACITY_EMPTY_ELEMENTDATA : ClassId) (B : Base Z wMultiplexing_FIFO wAnalysis__VALUES wAnalysis_FIFO wAnalysis_SFA wAnalysis_PMOO wAnalysis_PRIORITY wMultiplexing_ARBITRARY wMultiplexing_PRIORITY wArrayList_EMPTY_ELEMENTDATA wArrayList_DEFAULTCAPACITY_EMPTY_ELEMENTDATA k_wAnalysis__VALUES k_wArrayList_EMPTY_ELEMENTDATA k_wArrayList_DEFAULTCAPACITY_EMPTY_ELEMENTDATA) (i0 : Int32) (h0 : Heap) (n0 : Nat) (O0 : Old Z n0 h0) :
    MetFree l x (head1 (Jvm.Cond.code x code maxLocals ret :: ws) room_1) (fun a U => a = #[(.int i0)] ∧ Z.Warmed39 U.vm ∧ U.heap = h0) (fun _ _ _ _ _ => True) (fun _ U o U' => ∃ v L, o = .returned v ∧ (v = some (.int (1 : Int32)) ∧ Fr n0 L) ∧ FrameEnd U o U' L room_1.cells room_1.slots) := by
  rcases own_rem3 i0 with p | p | p
  · exact law_1 l Z a0 hw ws wMultiplexing_FIFO wAnalysis__VALUES wAnalysis_FIFO wAnalysis_SFA wAnalysis_PMOO wAnalysis_PRIORITY wMultiplexing_ARBITRARY wMultiplexing_PRIORITY wArrayList_EMPTY_ELEMENTDATA wArrayList_DEFAULTCAPACITY_EMPTY_ELEMENTDATA k_wAnalysis__VALUES k_wArrayList_EMPTY_ELEMENTDATA k_wArrayList_DEFAULTCAPACITY_EMPTY_ELEMENTDATA B i0 h0 n0 O0 p
  · exact law_2 l Z a0 hw ws wMultiplexing_FIFO wAnalysis__VALUES wAnalysis_FIFO wAnalysis_SFA wAnalysis_PMOO wAnalysis_PRIORITY wMultiplexing_ARBITRARY wMultiplexing_PRIORITY wArrayList_EMPTY_ELEMENTDATA wArrayList_DEFAULTCAPACITY_EMPTY_ELEMENTDATA k_wAnalysis__VALUES k_wArrayList_EMPTY_ELEMENTDATA k_wArrayList_DEFAULTCAPACITY_EMPTY_ELEMENTDATA B i0 h0 n0 O0 p
  · exact law_3 l Z a0 hw ws wMultiplexing_FIFO wAnalysis__VALUES wAnalysis_FIFO wAnalysis_SFA wAnalysis_PMOO wAnalysis_PRIORITY wMultiplexing_ARBITRARY wMultiplexing_PRIORITY wArrayList_EMPTY_ELEMENTDATA wArrayList_DEFAULTCAPACITY_EMPTY_ELEMENTDATA k_wAnalysis__VALUES k_wArrayList_EMPTY_ELEMENTDATA k_wArrayList_DEFAULTCAPACITY_EMPTY_ELEMENTDATA B i0 h0 n0 O0 p
set_option maxRecDepth 65536 in
set_option maxHeartbeats 40000000 in
theorem comes_1 {Post : Tables → Env → Array Value → State → Outcome → State → Prop} (hpost : ∀ tb e args s v u, (limb_1_1.after args s (.returned v) u = true ∧ limb_1_2.after args s (.returned v) u = true ∧ True) → FrameEnd s (.returned v) u (Jvm.fieldLocs frame_1_writes args s ++ Jvm.arrayLocs frame_1_arrays args s ++ Jvm.staticLocs frame_1_statics s) 16 128 → Post tb e args s (.returned v) u) :
    ArmFor flags0 classFile x code maxLocals ret World_1 tables_1 room_1 Calls_1 rest_1 Pre_1 Post := by
  intro l hfl _ _ p e ha hc hk s m args below hf hA hF happ hP
  obtain ⟨hcalls, hrest, hpre⟩ := hP
  obtain ⟨-, -, -, hnamed, -, -, -, hat⟩ := (Spec.applies_iff hf).mp happ
  obtain ⟨hg, hn⟩ := and_e (Cond.before_iff.mp (show (Jvm.Cond.and given_1 narrow_1).before args s = true from hpre))
  obtain ⟨gg1, gg2⟩ := and_e hg
  obtain ⟨w0, rfl⟩ : ∃ w0 : Value, args = #[w0] := by
    have hs : args.size = 1 := by simpa [Cond.value, given_1] using gg1
    obtain ⟨L⟩ := args
    match L, hs with
    | [w0], _ => exact ⟨w0, rfl⟩
  have hw := fun d (hd : d ∈ tables_1) => atoms_spec (ws := Jvm.Cond.code x code maxLocals ret :: tables_1) hat d (List.mem_cons_of_mem _ hd)
  have hfit : Fit s := fun {y c} hc i hi => by
    obtain ⟨ha, rfl⟩ := Array.getElem?_eq_some_iff.mp hc
    have q := List.all_eq_true.mp ((Array.all_eq_true_iff_forall_mem.mp hF) _ (Array.getElem_mem ha)) i (List.mem_range.mpr hi)
    simpa [Array.getElem?_eq_getElem hi] using q
  obtain ⟨hsets, hown0⟩ := atoms_of _ (rest_1_c_eq ▸ (show rest_1_c.before _ s = true from hrest))
  obtain ⟨i0, ei0⟩ := is_v gg2
  obtain rfl : w0 = (.int i0) := Option.some.inj ei0
  obtain ⟨nr1, hn⟩ := and_e hn
  obtain ⟨nr2, hn⟩ := and_e hn
  obtain ⟨nr3, hn⟩ := and_e hn
  obtain ⟨nr4, hn⟩ := and_e hn
  obtain ⟨nr5, hn⟩ := and_e hn
  obtain ⟨nr6, hn⟩ := and_e hn
  obtain ⟨nr7, hn⟩ := and_e hn
  obtain ⟨nr8, hn⟩ := and_e hn
  obtain ⟨nr9, hn⟩ := and_e hn
  obtain ⟨nr10, hn⟩ := and_e hn
  obtain ⟨nr11, hn⟩ := and_e hn
  obtain ⟨nr12, hn⟩ := and_e hn
  obtain ⟨nr13, hn⟩ := and_e hn
  obtain ⟨nr14, hn⟩ := and_e hn
  obtain ⟨nr15, hn⟩ := and_e hn
  obtain ⟨nr16, hn⟩ := and_e hn
  obtain ⟨nr17, hn⟩ := and_e hn
  obtain ⟨nr18, hn⟩ := and_e hn
  obtain ⟨nr19, hn⟩ := and_e hn
  obtain ⟨nr20, hn⟩ := and_e hn
  have nr21 := hn
  obtain ⟨wMultiplexing_FIFO, ev_wMultiplexing_FIFO⟩ := exa_v nr1
  obtain ⟨wAnalysis__VALUES, ev_wAnalysis__VALUES⟩ := exa_v nr3
  obtain ⟨wAnalysis_FIFO, ev_wAnalysis_FIFO⟩ := exa_v nr5
  obtain ⟨wAnalysis_SFA, ev_wAnalysis_SFA⟩ := exa_v nr7
  obtain ⟨wAnalysis_PMOO, ev_wAnalysis_PMOO⟩ := exa_v nr9
  obtain ⟨wAnalysis_PRIORITY, ev_wAnalysis_PRIORITY⟩ := exa_v nr11
  obtain ⟨wMultiplexing_ARBITRARY, ev_wMultiplexing_ARBITRARY⟩ := exa_v nr14
  obtain ⟨wMultiplexing_PRIORITY, ev_wMultiplexing_PRIORITY⟩ := exa_v nr19
  obtain ⟨wArrayList_EMPTY_ELEMENTDATA, ev_wArrayList_EMPTY_ELEMENTDATA⟩ := exa_v (Cond.before_iff.mp (hsets _ (List.mem_of_getElem? (i := 4) rfl)))
  obtain ⟨wArrayList_DEFAULTCAPACITY_EMPTY_ELEMENTDATA, ev_wArrayList_DEFAULTCAPACITY_EMPTY_ELEMENTDATA⟩ := exa_v (Cond.before_iff.mp (hsets _ (List.mem_of_getElem? (i := 7) rfl)))
  have fi_wMultiplexing_ARBITRARY_ordinal := own_ord ev_wMultiplexing_ARBITRARY nr16
  have fi_wMultiplexing_FIFO_ordinal := own_ord ev_wMultiplexing_FIFO nr17
  have fi_wMultiplexing_PRIORITY_ordinal := own_ord ev_wMultiplexing_PRIORITY nr21
  have fr_wAnalysis_FIFO_multiplexing := own_eqR nr13 ev_wMultiplexing_FIFO
  rw [fld_at ev_wAnalysis_FIFO] at fr_wAnalysis_FIFO_multiplexing
  have fr_wAnalysis_SFA_multiplexing := own_eqR nr15 ev_wMultiplexing_ARBITRARY
  rw [fld_at ev_wAnalysis_SFA] at fr_wAnalysis_SFA_multiplexing
  have fr_wAnalysis_PMOO_multiplexing := own_eqR nr18 ev_wMultiplexing_ARBITRARY
  rw [fld_at ev_wAnalysis_PMOO] at fr_wAnalysis_PMOO_multiplexing
  have fr_wAnalysis_PRIORITY_multiplexing := own_eqR nr20 ev_wMultiplexing_PRIORITY
  rw [fld_at ev_wAnalysis_PRIORITY] at fr_wAnalysis_PRIORITY_multiplexing
  obtain ⟨cl_wAnalysis__VALUES, Ar_wAnalysis__VALUES⟩ := Arr.start ev_wAnalysis__VALUES nr2
  have len_wAnalysis__VALUES := own_len ev_wAnalysis__VALUES Ar_wAnalysis__VALUES nr4
  have el_wAnalysis__VALUES_0 := (elem_in (own_eqR nr6 ev_wAnalysis_FIFO) ev_wAnalysis__VALUES (Term.int_eval 0) Ar_wAnalysis__VALUES.1).2
  have el_wAnalysis__VALUES_1 := (elem_in (own_eqR nr8 ev_wAnalysis_SFA) ev_wAnalysis__VALUES (Term.int_eval 1) Ar_wAnalysis__VALUES.1).2
  have el_wAnalysis__VALUES_2 := (elem_in (own_eqR nr10 ev_wAnalysis_PMOO) ev_wAnalysis__VALUES (Term.int_eval 2) Ar_wAnalysis__VALUES.1).2
  have el_wAnalysis__VALUES_3 := (elem_in (own_eqR nr12 ev_wAnalysis_PRIORITY) ev_wAnalysis__VALUES (Term.int_eval 3) Ar_wAnalysis__VALUES.1).2
  obtain ⟨cl_wArrayList_EMPTY_ELEMENTDATA, Ar_wArrayList_EMPTY_ELEMENTDATA⟩ := Arr.start ev_wArrayList_EMPTY_ELEMENTDATA (Cond.before_iff.mp (hsets _ (List.mem_of_getElem? (i := 3) rfl)))
  have len_wArrayList_EMPTY_ELEMENTDATA := own_len ev_wArrayList_EMPTY_ELEMENTDATA Ar_wArrayList_EMPTY_ELEMENTDATA (Cond.before_iff.mp (hsets _ (List.mem_of_getElem? (i := 5) rfl)))
  obtain ⟨cl_wArrayList_DEFAULTCAPACITY_EMPTY_ELEMENTDATA, Ar_wArrayList_DEFAULTCAPACITY_EMPTY_ELEMENTDATA⟩ := Arr.start ev_wArrayList_DEFAULTCAPACITY_EMPTY_ELEMENTDATA (Cond.before_iff.mp (hsets _ (List.mem_of_getElem? (i := 6) rfl)))
  have len_wArrayList_DEFAULTCAPACITY_EMPTY_ELEMENTDATA := own_len ev_wArrayList_DEFAULTCAPACITY_EMPTY_ELEMENTDATA Ar_wArrayList_DEFAULTCAPACITY_EMPTY_ELEMENTDATA (Cond.before_iff.mp (hsets _ (List.mem_of_getElem? (i := 8) rfl)))
  have hB : Base s wMultiplexing_FIFO wAnalysis__VALUES wAnalysis_FIFO wAnalysis_SFA wAnalysis_PMOO wAnalysis_PRIORITY wMultiplexing_ARBITRARY wMultiplexing_PRIORITY wArrayList_EMPTY_ELEMENTDATA wArrayList_DEFAULTCAPACITY_EMPTY_ELEMENTDATA cl_wAnalysis__VALUES.cls cl_wArrayList_EMPTY_ELEMENTDATA.cls cl_wArrayList_DEFAULTCAPACITY_EMPTY_ELEMENTDATA.cls := ⟨Sta.start ev_wMultiplexing_FIFO (Or.inr ⟨(ow hw 2 rfl), (ow hw 3 rfl)⟩), Exa.start ev_wMultiplexing_FIFO nr1, Sta.start ev_wAnalysis__VALUES (Or.inl (ow hw 50 rfl)), Exa.start ev_wAnalysis__VALUES nr3, Sta.start ev_wAnalysis_FIFO (Or.inr ⟨(ow hw 6 rfl), (ow hw 46 rfl)⟩), Exa.start ev_wAnalysis_FIFO nr5, Sta.start ev_wAnalysis_SFA (Or.inr ⟨(ow hw 6 rfl), (ow hw 47 rfl)⟩), Exa.start ev_wAnalysis_SFA nr7, Sta.start ev_wAnalysis_PMOO (Or.inr ⟨(ow hw 6 rfl), (ow hw 48 rfl)⟩), Exa.start ev_wAnalysis_PMOO nr9, Sta.start ev_wAnalysis_PRIORITY (Or.inr ⟨(ow hw 6 rfl), (ow hw 49 rfl)⟩), Exa.start ev_wAnalysis_PRIORITY nr11, Sta.start ev_wMultiplexing_ARBITRARY (Or.inr ⟨(ow hw 2 rfl), (ow hw 90 rfl)⟩), Exa.start ev_wMultiplexing_ARBITRARY nr14, Sta.start ev_wMultiplexing_PRIORITY (Or.inr ⟨(ow hw 2 rfl), (ow hw 91 rfl)⟩), Exa.start ev_wMultiplexing_PRIORITY nr19, Sta.start ev_wArrayList_EMPTY_ELEMENTDATA (Or.inl (hsets _ (List.mem_of_getElem? (i := 1) rfl))), Exa.start ev_wArrayList_EMPTY_ELEMENTDATA (Cond.before_iff.mp (hsets _ (List.mem_of_getElem? (i := 4) rfl))), Sta.start ev_wArrayList_DEFAULTCAPACITY_EMPTY_ELEMENTDATA (Or.inr ⟨(ow hw 10 rfl), (hsets _ (List.mem_of_getElem? (i := 2) rfl))⟩), Exa.start ev_wArrayList_DEFAULTCAPACITY_EMPTY_ELEMENTDATA (Cond.before_iff.mp (hsets _ (List.mem_of_getElem? (i := 7) rfl))), fi_wMultiplexing_ARBITRARY_ordinal, fi_wMultiplexing_FIFO_ordinal, fi_wMultiplexing_PRIORITY_ordinal, Fld.start fr_wAnalysis_FIFO_multiplexing, Fld.start fr_wAnalysis_SFA_multiplexing, Fld.start fr_wAnalysis_PMOO_multiplexing, Fld.start fr_wAnalysis_PRIORITY_multiplexing, Arv.start hfit Ar_wAnalysis__VALUES len_wAnalysis__VALUES.1 len_wAnalysis__VALUES.2 (by decide) rfl ⟨el_wAnalysis__VALUES_0, el_wAnalysis__VALUES_1, el_wAnalysis__VALUES_2, el_wAnalysis__VALUES_3, trivial⟩, Arv.start hfit Ar_wArrayList_EMPTY_ELEMENTDATA len_wArrayList_EMPTY_ELEMENTDATA.1 len_wArrayList_EMPTY_ELEMENTDATA.2 (by decide) rfl trivial, Arv.start hfit Ar_wArrayList_DEFAULTCAPACITY_EMPTY_ELEMENTDATA len_wArrayList_DEFAULTCAPACITY_EMPTY_ELEMENTDATA.1 len_wArrayList_DEFAULTCAPACITY_EMPTY_ELEMENTDATA.2 (by decide) rfl trivial, Exa.ne (Exa.start ev_wMultiplexing_FIFO nr1) (Exa.start ev_wAnalysis__VALUES nr3) (by decide), Exa.ne (Exa.start ev_wMultiplexing_FIFO nr1) (Exa.start ev_wAnalysis_FIFO nr5) (by decide), Exa.ne (Exa.start ev_wMultiplexing_FIFO nr1) (Exa.start ev_wAnalysis_SFA nr7) (by decide), Exa.ne (Exa.start ev_wMultiplexing_FIFO nr1) (Exa.start ev_wAnalysis_PMOO nr9) (by decide), Exa.ne (Exa.start ev_wMultiplexing_FIFO nr1) (Exa.start ev_wAnalysis_PRIORITY nr11) (by decide), fi_wMultiplexing_FIFO_ordinal.ne fi_wMultiplexing_ARBITRARY_ordinal (by decide), fi_wMultiplexing_FIFO_ordinal.ne fi_wMultiplexing_PRIORITY_ordinal (by decide), Exa.ne (Exa.start ev_wMultiplexing_FIFO nr1) (Exa.start ev_wArrayList_EMPTY_ELEMENTDATA (Cond.before_iff.mp (hsets _ (List.mem_of_getElem? (i := 4) rfl)))) (by decide), Exa.ne (Exa.start ev_wMultiplexing_FIFO nr1) (Exa.start ev_wArrayList_DEFAULTCAPACITY_EMPTY_ELEMENTDATA (Cond.before_iff.mp (hsets _ (List.mem_of_getElem? (i := 7) rfl)))) (by decide), Exa.ne (Exa.start ev_wAnalysis__VALUES nr3) (Exa.start ev_wAnalysis_FIFO nr5) (by decide), Exa.ne (Exa.start ev_wAnalysis__VALUES nr3) (Exa.start ev_wAnalysis_SFA nr7) (by decide), Exa.ne (Exa.start ev_wAnalysis__VALUES nr3) (Exa.start ev_wAnalysis_PMOO nr9) (by decide), Exa.ne (Exa.start ev_wAnalysis__VALUES nr3) (Exa.start ev_wAnalysis_PRIORITY nr11) (by decide), Exa.ne (Exa.start ev_wAnalysis__VALUES nr3) (Exa.start ev_wMultiplexing_ARBITRARY nr14) (by decide), Exa.ne (Exa.start ev_wAnalysis__VALUES nr3) (Exa.start ev_wMultiplexing_PRIORITY nr19) (by decide), Exa.ne (Exa.start ev_wAnalysis__VALUES nr3) (Exa.start ev_wArrayList_EMPTY_ELEMENTDATA (Cond.before_iff.mp (hsets _ (List.mem_of_getElem? (i := 4) rfl)))) (by decide), Exa.ne (Exa.start ev_wAnalysis__VALUES nr3) (Exa.start ev_wArrayList_DEFAULTCAPACITY_EMPTY_ELEMENTDATA (Cond.before_iff.mp (hsets _ (List.mem_of_getElem? (i := 7) rfl)))) (by decide), Exa.ne (Exa.start ev_wAnalysis_FIFO nr5) (Exa.start ev_wMultiplexing_ARBITRARY nr14) (by decide), Exa.ne (Exa.start ev_wAnalysis_FIFO nr5) (Exa.start ev_wMultiplexing_PRIORITY nr19) (by decide), Exa.ne (Exa.start ev_wAnalysis_FIFO nr5) (Exa.start ev_wArrayList_EMPTY_ELEMENTDATA (Cond.before_iff.mp (hsets _ (List.mem_of_getElem? (i := 4) rfl)))) (by decide), Exa.ne (Exa.start ev_wAnalysis_FIFO nr5) (Exa.start ev_wArrayList_DEFAULTCAPACITY_EMPTY_ELEMENTDATA (Cond.before_iff.mp (hsets _ (List.mem_of_getElem? (i := 7) rfl)))) (by decide), Exa.ne (Exa.start ev_wAnalysis_SFA nr7) (Exa.start ev_wMultiplexing_ARBITRARY nr14) (by decide), Exa.ne (Exa.start ev_wAnalysis_SFA nr7) (Exa.start ev_wMultiplexing_PRIORITY nr19) (by decide), Exa.ne (Exa.start ev_wAnalysis_SFA nr7) (Exa.start ev_wArrayList_EMPTY_ELEMENTDATA (Cond.before_iff.mp (hsets _ (List.mem_of_getElem? (i := 4) rfl)))) (by decide), Exa.ne (Exa.start ev_wAnalysis_SFA nr7) (Exa.start ev_wArrayList_DEFAULTCAPACITY_EMPTY_ELEMENTDATA (Cond.before_iff.mp (hsets _ (List.mem_of_getElem? (i := 7) rfl)))) (by decide), Exa.ne (Exa.start ev_wAnalysis_PMOO nr9) (Exa.start ev_wMultiplexing_ARBITRARY nr14) (by decide), Exa.ne (Exa.start ev_wAnalysis_PMOO nr9) (Exa.start ev_wMultiplexing_PRIORITY nr19) (by decide), Exa.ne (Exa.start ev_wAnalysis_PMOO nr9) (Exa.start ev_wArrayList_EMPTY_ELEMENTDATA (Cond.before_iff.mp (hsets _ (List.mem_of_getElem? (i := 4) rfl)))) (by decide), Exa.ne (Exa.start ev_wAnalysis_PMOO nr9) (Exa.start ev_wArrayList_DEFAULTCAPACITY_EMPTY_ELEMENTDATA (Cond.before_iff.mp (hsets _ (List.mem_of_getElem? (i := 7) rfl)))) (by decide), Exa.ne (Exa.start ev_wAnalysis_PRIORITY nr11) (Exa.start ev_wMultiplexing_ARBITRARY nr14) (by decide), Exa.ne (Exa.start ev_wAnalysis_PRIORITY nr11) (Exa.start ev_wMultiplexing_PRIORITY nr19) (by decide), Exa.ne (Exa.start ev_wAnalysis_PRIORITY nr11) (Exa.start ev_wArrayList_EMPTY_ELEMENTDATA (Cond.before_iff.mp (hsets _ (List.mem_of_getElem? (i := 4) rfl)))) (by decide), Exa.ne (Exa.start ev_wAnalysis_PRIORITY nr11) (Exa.start ev_wArrayList_DEFAULTCAPACITY_EMPTY_ELEMENTDATA (Cond.before_iff.mp (hsets _ (List.mem_of_getElem? (i := 7) rfl)))) (by decide), fi_wMultiplexing_ARBITRARY_ordinal.ne fi_wMultiplexing_PRIORITY_ordinal (by decide), Exa.ne (Exa.start ev_wMultiplexing_ARBITRARY nr14) (Exa.start ev_wArrayList_EMPTY_ELEMENTDATA (Cond.before_iff.mp (hsets _ (List.mem_of_getElem? (i := 4) rfl)))) (by decide), Exa.ne (Exa.start ev_wMultiplexing_ARBITRARY nr14) (Exa.start ev_wArrayList_DEFAULTCAPACITY_EMPTY_ELEMENTDATA (Cond.before_iff.mp (hsets _ (List.mem_of_getElem? (i := 7) rfl)))) (by decide), Exa.ne (Exa.start ev_wMultiplexing_PRIORITY nr19) (Exa.start ev_wArrayList_EMPTY_ELEMENTDATA (Cond.before_iff.mp (hsets _ (List.mem_of_getElem? (i := 4) rfl)))) (by decide), Exa.ne (Exa.start ev_wMultiplexing_PRIORITY nr19) (Exa.start ev_wArrayList_DEFAULTCAPACITY_EMPTY_ELEMENTDATA (Cond.before_iff.mp (hsets _ (List.mem_of_getElem? (i := 7) rfl)))) (by decide)⟩
  obtain ⟨n, o, h1, h2, h3, _, L, rfl, ⟨rfl, N⟩, hq⟩ := all_roads l s _ hw tables_1 wMultiplexing_FIFO wAnalysis__VALUES wAnalysis_FIFO wAnalysis_SFA wAnalysis_PMOO wAnalysis_PRIORITY wMultiplexing_ARBITRARY wMultiplexing_PRIORITY wArrayList_EMPTY_ELEMENTDATA wArrayList_DEFAULTCAPACITY_EMPTY_ELEMENTDATA cl_wAnalysis__VALUES.cls cl_wArrayList_EMPTY_ELEMENTDATA.cls cl_wArrayList_DEFAULTCAPACITY_EMPTY_ELEMENTDATA.cls hB i0 s.heap s.heap.size (Old.start s) p e ha hc hk s m _ below hf ((Spec.applies_iff_loose hf).mp happ).1 ⟨rfl, State.Warmed39.refl s, rfl⟩ trivial
  refine ⟨n, _, h1, h2, h3, hpost _ _ _ _ _ _ ⟨Cond.after_iff.mpr rfl, Cond.after_iff.mpr (eq_i res_at (Term.int_eval (1)) rfl), trivial⟩ ⟨hq.1, hq.2.1, (hq.2.2.sift fun y hy => Or.inr (N y hy)).mono (by decide) (by decide)⟩⟩
theorem main_1_1 : Claimed_1_1 := comes_1 fun _ _ _ _ _ _ h hF => ⟨h.1, hF⟩
theorem main_1_2 : Claimed_1_2 := comes_1 fun _ _ _ _ _ _ h hF => ⟨h.2.1, hF⟩
end Jvm.Pilot.@@N@@
namespace Jvm.Pilot.@@N@@
open Jvm Jvm.ClassFile Sem Op Lib Jvm.Free Jvm.Stand Jvm.Pilot.@@N@@.Jvm.D
/-! MADE BY PROGRAM (witnessworld.py) out of the Statement's table words and the real class files: 26 classes; the members and pool entries that the words name. The judged class is class 1, her method 1. -/
namespace start1
open Jvm.ClassFile
def u (s : String) : CpInfo := .utf8 (stringToUtf16 s)
/-- a pool by its gaps: so many unusable entries, then the entry; so many at the end -/
def gap : Nat → List CpInfo → List CpInfo
  | 0, r => r
  | n + 1, r => .unusable :: gap n r
def poolList (es : List (Nat × CpInfo)) (last : Nat) : List CpInfo := es.foldr (fun e r => gap e.1 (e.2 :: r)) (gap last [])
def pool (es : List (Nat × CpInfo)) (last : Nat) : Array CpInfo := ⟨poolList es last⟩
def fileOf (pool : Array CpInfo) (this : Nat) (attrs : Array Attribute := #[]) (ms : Array MethodInfo := #[]) (fl : Nat := 33) (sup : Nat := 0) (ifs : Array Nat := #[]) (fds : Array FieldInfo := #[]) : ClassFile where
  minorVersion := 0
  majorVersion := 65
  constantPool := pool
  accessFlags := fl
  thisClass := this
  superClass := sup
  interfaces := ifs
  fields := fds
  methods := ms
  attributes := attrs
def plain (name : String) (sup : Option ClassId) : Class where
  name := name
  kind := .ordinary
  loader := none
  accessFlags := 33
  super := sup
  interfaces := #[]
  cf := none
  fields := #[]
  methods := #[]
  instanceTypes := #[]
  staticTypes := #[]
  resolved := #[]
  callSites := []
  init := .initialized
  statics := none
  mirror := none

def pool0 : Array CpInfo := pool [(5, u "<init>"), (0, u "()V"), (1, .class_ 10), (1, u "java/lang/Object"), (85, u "clone"), (0, u "()Ljava/lang/Object;")] 26

def k0c0 : Code := { maxStack := 0, maxLocals := 1, code := object_method_1_code, exceptionTable := #[], attributes := #[] }
def k0m0 : Method := { name := "<init>", desc := "()V", sig := { parameters := [], returnType := none }, accessFlags := 1, code := some k0c0 }
def k0m1 : Method := { name := "clone", desc := "()Ljava/lang/Object;", sig := { parameters := [], returnType := some (.object "java/lang/Object") }, accessFlags := 260, code := none }
/-- java/lang/Object -/
def k0 : Class := { plain "java/lang/Object" none with
  accessFlags := 33
  interfaces := #[]
  cf := some (fileOf pool0 8 #[] #[{ accessFlags := 1, nameIndex := 5, descriptorIndex := 6, attributes := #[] }, { accessFlags := 260, nameIndex := 96, descriptorIndex := 97, attributes := #[] }] 33 0 #[] #[])
  fields := #[]
  methods := #[k0m0, k0m1]
  instanceTypes := #[]
  staticTypes := #[]
  resolved := Array.replicate 124 none
  statics := none }

def pool1 : Array CpInfo := pool [(2, .class_ 4), (1, u "java/lang/Object"), (0, u "<init>"), (0, u "()V"), (0, .integer 2147483647), (0, .fieldref 9 10), (0, .class_ 11), (0, .nameAndType 12 13), (0, u "com/example/virtaus/virtaus/network/Multiplexing"), (0, u "FIFO"), (0, u "Lcom/example/virtaus/virtaus/network/Multiplexing;"), (0, .fieldref 9 15), (0, .nameAndType 16 13), (0, u "ARBITRARY"), (0, .fieldref 9 18), (0, .nameAndType 19 13), (0, u "PRIORITY"), (0, .methodref 21 22), (0, .class_ 23), (0, .nameAndType 24 25), (0, u "com/example/virtaus/virtaus/analysis/Analysis"), (0, u "availableFor"), (0, u "(Lcom/example/virtaus/virtaus/network/Multiplexing;)Ljava/util/List;"), (0, .interfaceMethodref 27 28), (0, .class_ 29), (0, .nameAndType 30 31), (0, u "java/util/List"), (0, u "size"), (0, u "()I"), (0, .interfaceMethodref 27 33), (0, .nameAndType 34 35), (0, u "get"), (0, u "(I)Ljava/lang/Object;"), (0, .fieldref 21 37), (0, .nameAndType 12 38), (0, u "Lcom/example/virtaus/virtaus/analysis/Analysis;"), (0, .fieldref 21 40), (0, .nameAndType 41 38), (0, u "SFA"), (0, .fieldref 21 43), (0, .nameAndType 44 38), (0, u "PMOO"), (0, .fieldref 21 46), (0, .nameAndType 19 38), (0, .class_ 48), (0, u "com/example/virtaus/virtaus/analysis/AnalysisAvailableForPinLaw"), (2, u "law"), (0, u "(I)Z")] 3

def k1m0 : Method := { name := "<init>", desc := "()V", sig := { parameters := [], returnType := none }, accessFlags := 2, code := none }
def k1c1 : Code := { maxStack := 2, maxLocals := 5, code := code, exceptionTable := #[], attributes := #[] }
def k1m1 : Method := { name := "law", desc := "(I)Z", sig := { parameters := [.int], returnType := some .boolean }, accessFlags := 9, code := some k1c1 }
/-- com/example/virtaus/virtaus/analysis/AnalysisAvailableForPinLaw -/
def k1 : Class := { plain "com/example/virtaus/virtaus/analysis/AnalysisAvailableForPinLaw" (some 0) with
  accessFlags := 49
  interfaces := #[]
  cf := some (fileOf pool1 47 #[] #[{ accessFlags := 2, nameIndex := 5, descriptorIndex := 6, attributes := #[] }, { accessFlags := 9, nameIndex := 51, descriptorIndex := 52, attributes := #[] }] 49 2 #[] #[])
  fields := #[]
  methods := #[k1m0, k1m1]
  instanceTypes := #[]
  staticTypes := #[]
  resolved := Array.replicate 56 none
  statics := none }

def pool2 : Array CpInfo := pool [(1, .class_ 2), (0, u "java/lang/constant/Constable"), (0, .class_ 4), (0, u "java/lang/Object")] 6

/-- java/lang/constant/Constable -/
def k2 : Class := { plain "java/lang/constant/Constable" (some 0) with
  accessFlags := 1537
  interfaces := #[]
  cf := some (fileOf pool2 1 #[] #[] 1537 3 #[] #[])
  fields := #[]
  methods := #[]
  instanceTypes := #[]
  staticTypes := #[]
  resolved := Array.replicate 11 none
  statics := none }

def pool3 : Array CpInfo := pool [(1, .class_ 2), (0, u "java/lang/Comparable"), (0, .class_ 4), (0, u "java/lang/Object")] 7

/-- java/lang/Comparable -/
def k3 : Class := { plain "java/lang/Comparable" (some 0) with
  accessFlags := 1537
  interfaces := #[]
  cf := some (fileOf pool3 1 #[] #[] 1537 3 #[] #[])
  fields := #[]
  methods := #[]
  instanceTypes := #[]
  staticTypes := #[]
  resolved := Array.replicate 12 none
  statics := none }

def pool4 : Array CpInfo := pool [(1, .class_ 2), (0, u "java/io/Serializable"), (0, .class_ 4), (0, u "java/lang/Object")] 2

/-- java/io/Serializable -/
def k4 : Class := { plain "java/io/Serializable" (some 0) with
  accessFlags := 1537
  interfaces := #[]
  cf := some (fileOf pool4 1 #[] #[] 1537 3 #[] #[])
  fields := #[]
  methods := #[]
  instanceTypes := #[]
  staticTypes := #[]
  resolved := Array.replicate 7 none
  statics := none }

def pool5 : Array CpInfo := pool [(2, .class_ 4), (1, u "java/lang/Enum"), (0, u "name"), (0, u "Ljava/lang/String;"), (2, u "ordinal"), (0, u "I"), (1, .class_ 14), (1, u "java/lang/Object"), (4, u "hash"), (86, .class_ 108), (1, u "java/lang/Enum$EnumDesc"), (2, .class_ 112), (0, u "java/lang/constant/Constable"), (0, .class_ 114), (0, u "java/lang/Comparable"), (0, .class_ 116), (0, u "java/io/Serializable")] 87

/-- java/lang/Enum -/
def k5 : Class := { plain "java/lang/Enum" (some 0) with
  accessFlags := 1057
  interfaces := #[2, 3, 4]
  cf := some (fileOf pool5 2 #[.nestMembers #[106]] #[] 1057 12 #[111, 113, 115] #[{ accessFlags := 18, nameIndex := 5, descriptorIndex := 6, attributes := #[] }, { accessFlags := 18, nameIndex := 9, descriptorIndex := 10, attributes := #[] }, { accessFlags := 2, nameIndex := 19, descriptorIndex := 10, attributes := #[] }])
  fields := #[{ name := "name", type := (.object "java/lang/String"), accessFlags := 18, slot := 0, constantValue := 0 }, { name := "ordinal", type := .int, accessFlags := 18, slot := 1, constantValue := 0 }, { name := "hash", type := .int, accessFlags := 2, slot := 2, constantValue := 0 }]
  methods := #[]
  instanceTypes := #[(.object "java/lang/String"), .int, .int]
  staticTypes := #[]
  resolved := Array.replicate 204 none
  statics := none }

def pool6 : Array CpInfo := pool [(1, .class_ 2), (0, u "com/example/virtaus/virtaus/network/Multiplexing"), (2, u "FIFO"), (0, u "Lcom/example/virtaus/virtaus/network/Multiplexing;"), (2, u "ARBITRARY"), (2, u "PRIORITY"), (2, u "$VALUES"), (0, u "[Lcom/example/virtaus/virtaus/network/Multiplexing;"), (6, .class_ 25), (1, u "java/lang/Enum")] 25

/-- com/example/virtaus/virtaus/network/Multiplexing -/
def k6 : Class := { plain "com/example/virtaus/virtaus/network/Multiplexing" (some 5) with
  accessFlags := 16433
  interfaces := #[]
  cf := some (fileOf pool6 1 #[] #[] 16433 23 #[] #[{ accessFlags := 16409, nameIndex := 5, descriptorIndex := 6, attributes := #[] }, { accessFlags := 16409, nameIndex := 9, descriptorIndex := 6, attributes := #[] }, { accessFlags := 16409, nameIndex := 12, descriptorIndex := 6, attributes := #[] }, { accessFlags := 4122, nameIndex := 15, descriptorIndex := 16, attributes := #[] }])
  fields := #[{ name := "FIFO", type := (.object "com/example/virtaus/virtaus/network/Multiplexing"), accessFlags := 16409, slot := 0, constantValue := 0 }, { name := "ARBITRARY", type := (.object "com/example/virtaus/virtaus/network/Multiplexing"), accessFlags := 16409, slot := 1, constantValue := 0 }, { name := "PRIORITY", type := (.object "com/example/virtaus/virtaus/network/Multiplexing"), accessFlags := 16409, slot := 2, constantValue := 0 }, { name := "$VALUES", type := (.array (.object "com/example/virtaus/virtaus/network/Multiplexing")), accessFlags := 4122, slot := 3, constantValue := 0 }]
  methods := #[]
  instanceTypes := #[(.object "java/lang/String"), .int, .int]
  staticTypes := #[(.object "com/example/virtaus/virtaus/network/Multiplexing"), (.object "com/example/virtaus/virtaus/network/Multiplexing"), (.object "com/example/virtaus/virtaus/network/Multiplexing"), (.array (.object "com/example/virtaus/virtaus/network/Multiplexing"))]
  resolved := Array.replicate 51 none
  statics := some 0 }

def pool7 : Array CpInfo := pool [(1, .class_ 2), (0, u "com/example/virtaus/virtaus/analysis/Analysis"), (2, u "FIFO"), (0, u "Lcom/example/virtaus/virtaus/analysis/Analysis;"), (2, u "SFA"), (2, u "PMOO"), (2, u "PRIORITY"), (0, .fieldref 1 17), (0, .nameAndType 18 19), (0, u "$VALUES"), (0, u "[Lcom/example/virtaus/virtaus/analysis/Analysis;"), (0, .methodref 21 22), (0, .class_ 19), (0, .nameAndType 23 24), (0, u "clone"), (0, u "()Ljava/lang/Object;"), (1, .class_ 28), (1, u "java/lang/Enum"), (4, u "<init>"), (3, u "label"), (0, u "Ljava/lang/String;"), (0, .fieldref 1 40), (0, .nameAndType 41 42), (0, u "multiplexing"), (0, u "Lcom/example/virtaus/virtaus/network/Multiplexing;"), (2, u "strictOnly"), (0, u "Z"), (24, .class_ 72), (0, u "java/util/ArrayList"), (0, .methodref 71 74), (0, .nameAndType 33 75), (0, u "()V"), (0, .methodref 1 77), (0, .nameAndType 78 79), (0, u "values"), (0, u "()[Lcom/example/virtaus/virtaus/analysis/Analysis;"), (0, .interfaceMethodref 81 82), (0, .class_ 83), (0, .nameAndType 84 85), (0, u "java/util/List"), (0, u "add"), (0, u "(Ljava/lang/Object;)Z"), (2, u "availableFor"), (0, u "(Lcom/example/virtaus/virtaus/network/Multiplexing;)Ljava/util/List;")] 88

def k7c0 : Code := { maxStack := 1, maxLocals := 0, code := prog_2_method_1_code, exceptionTable := #[], attributes := #[] }
def k7m0 : Method := { name := "values", desc := "()[Lcom/example/virtaus/virtaus/analysis/Analysis;", sig := { parameters := [], returnType := some (.array (.object "com/example/virtaus/virtaus/analysis/Analysis")) }, accessFlags := 9, code := some k7c0 }
def k7c1 : Code := { maxStack := 2, maxLocals := 6, code := prog_2_method_7_code, exceptionTable := #[], attributes := #[] }
def k7m1 : Method := { name := "availableFor", desc := "(Lcom/example/virtaus/virtaus/network/Multiplexing;)Ljava/util/List;", sig := { parameters := [(.object "com/example/virtaus/virtaus/network/Multiplexing")], returnType := some (.object "java/util/List") }, accessFlags := 9, code := some k7c1 }
/-- com/example/virtaus/virtaus/analysis/Analysis -/
def k7 : Class := { plain "com/example/virtaus/virtaus/analysis/Analysis" (some 5) with
  accessFlags := 16433
  interfaces := #[]
  cf := some (fileOf pool7 1 #[] #[{ accessFlags := 9, nameIndex := 78, descriptorIndex := 79, attributes := #[] }, { accessFlags := 9, nameIndex := 88, descriptorIndex := 89, attributes := #[] }] 16433 26 #[] #[{ accessFlags := 16409, nameIndex := 5, descriptorIndex := 6, attributes := #[] }, { accessFlags := 16409, nameIndex := 9, descriptorIndex := 6, attributes := #[] }, { accessFlags := 16409, nameIndex := 12, descriptorIndex := 6, attributes := #[] }, { accessFlags := 16409, nameIndex := 15, descriptorIndex := 6, attributes := #[] }, { accessFlags := 18, nameIndex := 37, descriptorIndex := 38, attributes := #[] }, { accessFlags := 18, nameIndex := 41, descriptorIndex := 42, attributes := #[] }, { accessFlags := 18, nameIndex := 45, descriptorIndex := 46, attributes := #[] }, { accessFlags := 4122, nameIndex := 18, descriptorIndex := 19, attributes := #[] }])
  fields := #[{ name := "FIFO", type := (.object "com/example/virtaus/virtaus/analysis/Analysis"), accessFlags := 16409, slot := 0, constantValue := 0 }, { name := "SFA", type := (.object "com/example/virtaus/virtaus/analysis/Analysis"), accessFlags := 16409, slot := 1, constantValue := 0 }, { name := "PMOO", type := (.object "com/example/virtaus/virtaus/analysis/Analysis"), accessFlags := 16409, slot := 2, constantValue := 0 }, { name := "PRIORITY", type := (.object "com/example/virtaus/virtaus/analysis/Analysis"), accessFlags := 16409, slot := 3, constantValue := 0 }, { name := "label", type := (.object "java/lang/String"), accessFlags := 18, slot := 3, constantValue := 0 }, { name := "multiplexing", type := (.object "com/example/virtaus/virtaus/network/Multiplexing"), accessFlags := 18, slot := 4, constantValue := 0 }, { name := "strictOnly", type := .boolean, accessFlags := 18, slot := 5, constantValue := 0 }, { name := "$VALUES", type := (.array (.object "com/example/virtaus/virtaus/analysis/Analysis")), accessFlags := 4122, slot := 4, constantValue := 0 }]
  methods := #[k7m0, k7m1]
  instanceTypes := #[(.object "java/lang/String"), .int, .int, (.object "java/lang/String"), (.object "com/example/virtaus/virtaus/network/Multiplexing"), .boolean]
  staticTypes := #[(.object "com/example/virtaus/virtaus/analysis/Analysis"), (.object "com/example/virtaus/virtaus/analysis/Analysis"), (.object "com/example/virtaus/virtaus/analysis/Analysis"), (.object "com/example/virtaus/virtaus/analysis/Analysis"), (.array (.object "com/example/virtaus/virtaus/analysis/Analysis"))]
  resolved := Array.replicate 178 none
  statics := some 1 }

def pool8 : Array CpInfo := pool [(8, .class_ 10), (1, u "java/lang/Iterable"), (24, .class_ 36), (0, u "java/lang/Object")] 25

/-- java/lang/Iterable -/
def k8 : Class := { plain "java/lang/Iterable" (some 0) with
  accessFlags := 1537
  interfaces := #[]
  cf := some (fileOf pool8 8 #[] #[] 1537 35 #[] #[])
  fields := #[]
  methods := #[]
  instanceTypes := #[]
  staticTypes := #[]
  resolved := Array.replicate 62 none
  statics := none }

def pool9 : Array CpInfo := pool [(10, .class_ 12), (1, u "java/util/Collection"), (47, .class_ 61), (0, u "java/lang/Object"), (0, .class_ 63), (0, u "java/lang/Iterable")] 51

/-- java/util/Collection -/
def k9 : Class := { plain "java/util/Collection" (some 0) with
  accessFlags := 1537
  interfaces := #[8]
  cf := some (fileOf pool9 10 #[] #[] 1537 60 #[62] #[])
  fields := #[]
  methods := #[]
  instanceTypes := #[]
  staticTypes := #[]
  resolved := Array.replicate 115 none
  statics := none }

def pool10 : Array CpInfo := pool [(1, .methodref 2 3), (0, .class_ 4), (0, .nameAndType 5 6), (0, u "java/lang/Object"), (0, u "<init>"), (0, u "()V"), (1, .class_ 10), (1, u "java/util/AbstractCollection"), (66, .class_ 78), (0, u "java/util/Collection")] 81

def k10c0 : Code := { maxStack := 1, maxLocals := 1, code := jdk_22_method_1_code, exceptionTable := #[], attributes := #[] }
def k10m0 : Method := { name := "<init>", desc := "()V", sig := { parameters := [], returnType := none }, accessFlags := 4, code := some k10c0 }
/-- java/util/AbstractCollection -/
def k10 : Class := { plain "java/util/AbstractCollection" (some 0) with
  accessFlags := 1057
  interfaces := #[9]
  cf := some (fileOf pool10 8 #[] #[{ accessFlags := 4, nameIndex := 5, descriptorIndex := 6, attributes := #[] }] 1057 2 #[77] #[])
  fields := #[]
  methods := #[k10m0]
  instanceTypes := #[]
  staticTypes := #[]
  resolved := Array.replicate 160 none
  statics := none }

def pool11 : Array CpInfo := pool [(8, .class_ 10), (1, u "java/util/SequencedCollection"), (15, .class_ 27), (0, u "java/lang/Object"), (0, .class_ 29), (0, u "java/util/Collection")] 27

/-- java/util/SequencedCollection -/
def k11 : Class := { plain "java/util/SequencedCollection" (some 0) with
  accessFlags := 1537
  interfaces := #[9]
  cf := some (fileOf pool11 8 #[] #[] 1537 26 #[28] #[])
  fields := #[]
  methods := #[]
  instanceTypes := #[]
  staticTypes := #[]
  resolved := Array.replicate 57 none
  statics := none }

def pool12 : Array CpInfo := pool [(8, .class_ 10), (1, u "java/util/List"), (49, u "add"), (3, u "(Ljava/lang/Object;)Z"), (10, u "get"), (0, u "(I)Ljava/lang/Object;"), (2, u "size"), (0, u "()I"), (22, .class_ 104), (0, u "java/lang/Object"), (15, .class_ 121), (0, u "java/util/SequencedCollection")] 129

def k12m0 : Method := { name := "size", desc := "()I", sig := { parameters := [], returnType := some .int }, accessFlags := 1025, code := none }
def k12m1 : Method := { name := "add", desc := "(Ljava/lang/Object;)Z", sig := { parameters := [(.object "java/lang/Object")], returnType := some .boolean }, accessFlags := 1025, code := none }
def k12m2 : Method := { name := "get", desc := "(I)Ljava/lang/Object;", sig := { parameters := [.int], returnType := some (.object "java/lang/Object") }, accessFlags := 1025, code := none }
/-- java/util/List -/
def k12 : Class := { plain "java/util/List" (some 0) with
  accessFlags := 1537
  interfaces := #[11]
  cf := some (fileOf pool12 8 #[] #[{ accessFlags := 1025, nameIndex := 79, descriptorIndex := 80, attributes := #[] }, { accessFlags := 1025, nameIndex := 60, descriptorIndex := 64, attributes := #[] }, { accessFlags := 1025, nameIndex := 75, descriptorIndex := 76, attributes := #[] }] 1537 103 #[120] #[])
  fields := #[]
  methods := #[k12m0, k12m1, k12m2]
  instanceTypes := #[]
  staticTypes := #[]
  resolved := Array.replicate 251 none
  statics := none }

def pool13 : Array CpInfo := pool [(1, .methodref 2 3), (0, .class_ 4), (0, .nameAndType 5 6), (0, u "java/util/AbstractCollection"), (0, u "<init>"), (0, u "()V"), (0, .fieldref 8 9), (0, .class_ 10), (0, .nameAndType 11 12), (0, u "java/util/AbstractList"), (0, u "modCount"), (0, u "I"), (64, .class_ 78), (0, u "java/util/AbstractList$Itr"), (3, .class_ 83), (0, u "java/util/AbstractList$ListItr"), (9, .class_ 94), (0, u "java/util/AbstractList$RandomAccessSubList"), (3, .class_ 99), (0, u "java/util/AbstractList$SubList"), (33, .class_ 134), (0, u "java/util/List"), (73, .class_ 209), (0, u "java/util/AbstractList$SubList$1"), (0, .class_ 211), (0, u "java/util/AbstractList$RandomAccessSpliterator")] 6

def k13c0 : Code := { maxStack := 2, maxLocals := 1, code := jdk_39_method_1_code, exceptionTable := #[], attributes := #[] }
def k13m0 : Method := { name := "<init>", desc := "()V", sig := { parameters := [], returnType := none }, accessFlags := 4, code := some k13c0 }
/-- java/util/AbstractList -/
def k13 : Class := { plain "java/util/AbstractList" (some 10) with
  accessFlags := 1057
  interfaces := #[12]
  cf := some (fileOf pool13 8 #[.nestMembers #[93, 98, 208, 210, 82, 77]] #[{ accessFlags := 4, nameIndex := 5, descriptorIndex := 6, attributes := #[] }] 1057 2 #[133] #[{ accessFlags := 132, nameIndex := 11, descriptorIndex := 12, attributes := #[] }])
  fields := #[{ name := "modCount", type := .int, accessFlags := 132, slot := 0, constantValue := 0 }]
  methods := #[k13m0]
  instanceTypes := #[.int]
  staticTypes := #[]
  resolved := Array.replicate 218 none
  statics := none }

def pool14 : Array CpInfo := pool [(1, .class_ 2), (0, u "java/util/RandomAccess"), (0, .class_ 4), (0, u "java/lang/Object")] 2

/-- java/util/RandomAccess -/
def k14 : Class := { plain "java/util/RandomAccess" (some 0) with
  accessFlags := 1537
  interfaces := #[]
  cf := some (fileOf pool14 1 #[] #[] 1537 3 #[] #[])
  fields := #[]
  methods := #[]
  instanceTypes := #[]
  staticTypes := #[]
  resolved := Array.replicate 7 none
  statics := none }

def pool15 : Array CpInfo := pool [(1, .class_ 2), (0, u "java/lang/Cloneable"), (0, .class_ 4), (0, u "java/lang/Object")] 2

/-- java/lang/Cloneable -/
def k15 : Class := { plain "java/lang/Cloneable" (some 0) with
  accessFlags := 1537
  interfaces := #[]
  cf := some (fileOf pool15 1 #[] #[] 1537 3 #[] #[])
  fields := #[]
  methods := #[]
  instanceTypes := #[]
  staticTypes := #[]
  resolved := Array.replicate 7 none
  statics := none }

def pool16 : Array CpInfo := pool [(1, .methodref 2 3), (0, .class_ 4), (0, .nameAndType 5 6), (0, u "java/util/AbstractList"), (0, u "<init>"), (0, u "()V"), (0, .class_ 8), (0, u "java/lang/Object"), (0, .fieldref 10 11), (0, .class_ 12), (0, .nameAndType 13 14), (0, u "java/util/ArrayList"), (0, u "elementData"), (0, u "[Ljava/lang/Object;"), (2, u "EMPTY_ELEMENTDATA"), (21, .fieldref 10 40), (0, .nameAndType 41 14), (0, u "DEFAULTCAPACITY_EMPTY_ELEMENTDATA"), (5, u "()[Ljava/lang/Object;"), (0, .fieldref 10 49), (0, .nameAndType 50 51), (0, u "size"), (0, u "I"), (11, .fieldref 10 64), (0, .nameAndType 65 51), (0, u "modCount"), (3, .methodref 10 70), (0, .nameAndType 71 72), (0, u "grow"), (0, u "(I)[Ljava/lang/Object;"), (6, .methodref 80 81), (0, .class_ 82), (0, .nameAndType 83 84), (0, u "java/lang/Math"), (0, u "max"), (0, u "(II)I"), (11, u "(Ljava/lang/Object;)Z"), (21, .methodref 119 120), (0, .class_ 121), (0, .nameAndType 122 84), (0, u "java/util/Objects"), (0, u "checkIndex"), (0, .methodref 10 124), (0, .nameAndType 13 125), (0, u "(I)Ljava/lang/Object;"), (3, .methodref 10 130), (0, .nameAndType 71 47), (0, .methodref 10 132), (0, .nameAndType 133 134), (0, u "add"), (0, u "(Ljava/lang/Object;[Ljava/lang/Object;I)V"), (13, .class_ 149), (0, u "java/util/List"), (36, u "()I"), (75, .class_ 263), (0, u "java/util/ArrayList$ListItr"), (3, .class_ 268), (0, u "java/util/ArrayList$Itr"), (7, .class_ 277), (0, u "java/util/ArrayList$SubList"), (12, .class_ 291), (0, u "java/util/ArrayList$ArrayListSpliterator"), (37, .class_ 330), (0, u "java/util/RandomAccess"), (0, .class_ 332), (0, u "java/lang/Cloneable"), (0, .class_ 334), (0, u "java/io/Serializable"), (0, u "serialVersionUID"), (0, u "J"), (3, u "DEFAULT_CAPACITY"), (40, u "get"), (118, .class_ 501), (0, u "java/util/ArrayList$SubList$2"), (0, .class_ 503), (0, u "java/util/ArrayList$SubList$1")] 5

def k16c0 : Code := { maxStack := 2, maxLocals := 1, code := jdk_38_method_2_code, exceptionTable := #[], attributes := #[] }
def k16m0 : Method := { name := "<init>", desc := "()V", sig := { parameters := [], returnType := none }, accessFlags := 1, code := some k16c0 }
def k16c1 : Code := { maxStack := 4, maxLocals := 4, code := jdk_38_method_6_code, exceptionTable := #[], attributes := #[] }
def k16m1 : Method := { name := "grow", desc := "(I)[Ljava/lang/Object;", sig := { parameters := [.int], returnType := some (.array (.object "java/lang/Object")) }, accessFlags := 2, code := some k16c1 }
def k16c2 : Code := { maxStack := 3, maxLocals := 1, code := jdk_38_method_7_code, exceptionTable := #[], attributes := #[] }
def k16m2 : Method := { name := "grow", desc := "()[Ljava/lang/Object;", sig := { parameters := [], returnType := some (.array (.object "java/lang/Object")) }, accessFlags := 2, code := some k16c2 }
def k16c3 : Code := { maxStack := 1, maxLocals := 1, code := jdk_38_method_8_code, exceptionTable := #[], attributes := #[] }
def k16m3 : Method := { name := "size", desc := "()I", sig := { parameters := [], returnType := some .int }, accessFlags := 1, code := some k16c3 }
def k16c4 : Code := { maxStack := 2, maxLocals := 2, code := jdk_38_method_18_code, exceptionTable := #[], attributes := #[] }
def k16m4 : Method := { name := "elementData", desc := "(I)Ljava/lang/Object;", sig := { parameters := [.int], returnType := some (.object "java/lang/Object") }, accessFlags := 0, code := some k16c4 }
def k16c5 : Code := { maxStack := 2, maxLocals := 2, code := jdk_38_method_20_code, exceptionTable := #[], attributes := #[] }
def k16m5 : Method := { name := "get", desc := "(I)Ljava/lang/Object;", sig := { parameters := [.int], returnType := some (.object "java/lang/Object") }, accessFlags := 1, code := some k16c5 }
def k16c6 : Code := { maxStack := 3, maxLocals := 4, code := jdk_38_method_24_code, exceptionTable := #[], attributes := #[] }
def k16m6 : Method := { name := "add", desc := "(Ljava/lang/Object;[Ljava/lang/Object;I)V", sig := { parameters := [(.object "java/lang/Object"), (.array (.object "java/lang/Object")), .int], returnType := none }, accessFlags := 2, code := some k16c6 }
def k16c7 : Code := { maxStack := 4, maxLocals := 2, code := jdk_38_method_25_code, exceptionTable := #[], attributes := #[] }
def k16m7 : Method := { name := "add", desc := "(Ljava/lang/Object;)Z", sig := { parameters := [(.object "java/lang/Object")], returnType := some .boolean }, accessFlags := 1, code := some k16c7 }
/-- java/util/ArrayList -/
def k16 : Class := { plain "java/util/ArrayList" (some 13) with
  accessFlags := 33
  interfaces := #[12, 14, 15, 4]
  cf := some (fileOf pool16 10 #[.nestMembers #[290, 276, 500, 502, 262, 267]] #[{ accessFlags := 1, nameIndex := 5, descriptorIndex := 6, attributes := #[] }, { accessFlags := 2, nameIndex := 71, descriptorIndex := 72, attributes := #[] }, { accessFlags := 2, nameIndex := 71, descriptorIndex := 47, attributes := #[] }, { accessFlags := 1, nameIndex := 50, descriptorIndex := 186, attributes := #[] }, { accessFlags := 0, nameIndex := 13, descriptorIndex := 125, attributes := #[] }, { accessFlags := 1, nameIndex := 381, descriptorIndex := 125, attributes := #[] }, { accessFlags := 2, nameIndex := 133, descriptorIndex := 134, attributes := #[] }, { accessFlags := 1, nameIndex := 133, descriptorIndex := 96, attributes := #[] }] 33 2 #[148, 329, 331, 333] #[{ accessFlags := 26, nameIndex := 335, descriptorIndex := 336, attributes := #[] }, { accessFlags := 26, nameIndex := 340, descriptorIndex := 51, attributes := #[] }, { accessFlags := 26, nameIndex := 17, descriptorIndex := 14, attributes := #[] }, { accessFlags := 26, nameIndex := 41, descriptorIndex := 14, attributes := #[] }, { accessFlags := 128, nameIndex := 13, descriptorIndex := 14, attributes := #[] }, { accessFlags := 2, nameIndex := 50, descriptorIndex := 51, attributes := #[] }])
  fields := #[{ name := "serialVersionUID", type := .long, accessFlags := 26, slot := 0, constantValue := 0 }, { name := "DEFAULT_CAPACITY", type := .int, accessFlags := 26, slot := 1, constantValue := 0 }, { name := "EMPTY_ELEMENTDATA", type := (.array (.object "java/lang/Object")), accessFlags := 26, slot := 2, constantValue := 0 }, { name := "DEFAULTCAPACITY_EMPTY_ELEMENTDATA", type := (.array (.object "java/lang/Object")), accessFlags := 26, slot := 3, constantValue := 0 }, { name := "elementData", type := (.array (.object "java/lang/Object")), accessFlags := 128, slot := 1, constantValue := 0 }, { name := "size", type := .int, accessFlags := 2, slot := 2, constantValue := 0 }]
  methods := #[k16m0, k16m1, k16m2, k16m3, k16m4, k16m5, k16m6, k16m7]
  instanceTypes := #[.int, (.array (.object "java/lang/Object")), .int]
  staticTypes := #[.long, .int, (.array (.object "java/lang/Object")), (.array (.object "java/lang/Object"))]
  resolved := Array.replicate 509 none
  statics := some 2 }

def pool17 : Array CpInfo := pool [(1, .class_ 2), (0, u "java/lang/Math"), (1, .class_ 6), (1, u "java/lang/Object"), (0, u "<init>"), (0, u "()V"), (89, .class_ 100), (1, u "java/lang/Math$RandomNumberGeneratorHolder"), (71, u "negativeZeroFloatBits"), (0, u "J"), (2, u "negativeZeroDoubleBits"), (21, u "max"), (46, u "$assertionsDisabled"), (0, u "Z"), (88, u "(II)I"), (2, u "twoToTheDoubleScaleDown"), (0, u "D"), (4, u "twoToTheDoubleScaleUp"), (9, u "E"), (3, u "PI"), (2, u "TAU"), (2, u "DEGREES_TO_RADIANS"), (0, u "RADIANS_TO_DEGREES")] 94

def k17m0 : Method := { name := "<init>", desc := "()V", sig := { parameters := [], returnType := none }, accessFlags := 2, code := none }
def k17c1 : Code := { maxStack := 2, maxLocals := 2, code := jdk_29_method_65_code, exceptionTable := #[], attributes := #[] }
def k17m1 : Method := { name := "max", desc := "(II)I", sig := { parameters := [.int, .int], returnType := some .int }, accessFlags := 9, code := some k17c1 }
/-- java/lang/Math -/
def k17 : Class := { plain "java/lang/Math" (some 0) with
  accessFlags := 49
  interfaces := #[]
  cf := some (fileOf pool17 1 #[.nestMembers #[98]] #[{ accessFlags := 2, nameIndex := 7, descriptorIndex := 8, attributes := #[] }, { accessFlags := 9, nameIndex := 198, descriptorIndex := 335, attributes := #[] }] 49 4 #[] #[{ accessFlags := 25, nameIndex := 354, descriptorIndex := 339, attributes := #[] }, { accessFlags := 25, nameIndex := 358, descriptorIndex := 339, attributes := #[] }, { accessFlags := 25, nameIndex := 361, descriptorIndex := 339, attributes := #[] }, { accessFlags := 26, nameIndex := 364, descriptorIndex := 339, attributes := #[] }, { accessFlags := 26, nameIndex := 365, descriptorIndex := 339, attributes := #[] }, { accessFlags := 26, nameIndex := 172, descriptorIndex := 173, attributes := #[] }, { accessFlags := 26, nameIndex := 176, descriptorIndex := 173, attributes := #[] }, { accessFlags := 8, nameIndex := 344, descriptorIndex := 339, attributes := #[] }, { accessFlags := 8, nameIndex := 338, descriptorIndex := 339, attributes := #[] }, { accessFlags := 4120, nameIndex := 245, descriptorIndex := 246, attributes := #[] }])
  fields := #[{ name := "E", type := .double, accessFlags := 25, slot := 0, constantValue := 0 }, { name := "PI", type := .double, accessFlags := 25, slot := 1, constantValue := 0 }, { name := "TAU", type := .double, accessFlags := 25, slot := 2, constantValue := 0 }, { name := "DEGREES_TO_RADIANS", type := .double, accessFlags := 26, slot := 3, constantValue := 0 }, { name := "RADIANS_TO_DEGREES", type := .double, accessFlags := 26, slot := 4, constantValue := 0 }, { name := "negativeZeroFloatBits", type := .long, accessFlags := 26, slot := 5, constantValue := 0 }, { name := "negativeZeroDoubleBits", type := .long, accessFlags := 26, slot := 6, constantValue := 0 }, { name := "twoToTheDoubleScaleUp", type := .double, accessFlags := 8, slot := 7, constantValue := 0 }, { name := "twoToTheDoubleScaleDown", type := .double, accessFlags := 8, slot := 8, constantValue := 0 }, { name := "$assertionsDisabled", type := .boolean, accessFlags := 4120, slot := 9, constantValue := 0 }]
  methods := #[k17m0, k17m1]
  instanceTypes := #[]
  staticTypes := #[.double, .double, .double, .double, .double, .long, .long, .double, .double, .boolean]
  resolved := Array.replicate 460 none
  statics := none }

def pool18 : Array CpInfo := pool [(2, .class_ 4), (1, u "java/lang/Object"), (0, u "<init>"), (0, u "()V"), (35, .class_ 44), (1, u "java/util/Objects"), (60, .methodref 106 107), (0, .class_ 108), (0, .nameAndType 109 110), (0, u "jdk/internal/util/Preconditions"), (0, u "checkIndex"), (0, u "(IILjava/util/function/BiFunction;)I"), (60, u "(II)I")] 12

def k18m0 : Method := { name := "<init>", desc := "()V", sig := { parameters := [], returnType := none }, accessFlags := 2, code := none }
def k18c1 : Code := { maxStack := 3, maxLocals := 2, code := jdk_31_method_17_code, exceptionTable := #[], attributes := #[] }
def k18m1 : Method := { name := "checkIndex", desc := "(II)I", sig := { parameters := [.int, .int], returnType := some .int }, accessFlags := 9, code := some k18c1 }
/-- java/util/Objects -/
def k18 : Class := { plain "java/util/Objects" (some 0) with
  accessFlags := 49
  interfaces := #[]
  cf := some (fileOf pool18 42 #[] #[{ accessFlags := 2, nameIndex := 5, descriptorIndex := 6, attributes := #[] }, { accessFlags := 9, nameIndex := 109, descriptorIndex := 171, attributes := #[] }] 49 2 #[] #[])
  fields := #[]
  methods := #[k18m0, k18m1]
  instanceTypes := #[]
  staticTypes := #[]
  resolved := Array.replicate 184 none
  statics := none }

def pool19 : Array CpInfo := pool [(2, .class_ 4), (1, u "java/lang/Object"), (0, u "<init>"), (0, u "()V"), (17, .class_ 26), (1, u "jdk/internal/util/Preconditions"), (6, u "checkIndex"), (21, .class_ 56), (0, u "jdk/internal/util/Preconditions$4"), (57, .class_ 115), (0, u "jdk/internal/util/Preconditions$1"), (7, u "SIOOBE_FORMATTER"), (0, u "Ljava/util/function/BiFunction;"), (0, .class_ 126), (0, u "jdk/internal/util/Preconditions$2"), (3, u "AIOOBE_FORMATTER"), (0, .class_ 132), (0, u "jdk/internal/util/Preconditions$3"), (3, u "IOOBE_FORMATTER"), (41, u "(IILjava/util/function/BiFunction;)I")] 15

def k19m0 : Method := { name := "<init>", desc := "()V", sig := { parameters := [], returnType := none }, accessFlags := 1, code := none }
def k19c1 : Code := { maxStack := 3, maxLocals := 3, code := jdk_41_method_11_code, exceptionTable := #[], attributes := #[] }
def k19m1 : Method := { name := "checkIndex", desc := "(IILjava/util/function/BiFunction;)I", sig := { parameters := [.int, .int, (.object "java/util/function/BiFunction")], returnType := some .int }, accessFlags := 9, code := some k19c1 }
/-- jdk/internal/util/Preconditions -/
def k19 : Class := { plain "jdk/internal/util/Preconditions" (some 0) with
  accessFlags := 33
  interfaces := #[]
  cf := some (fileOf pool19 24 #[.nestMembers #[55, 131, 125, 114]] #[{ accessFlags := 1, nameIndex := 5, descriptorIndex := 6, attributes := #[] }, { accessFlags := 9, nameIndex := 33, descriptorIndex := 178, attributes := #[] }] 33 2 #[] #[{ accessFlags := 25, nameIndex := 123, descriptorIndex := 124, attributes := #[] }, { accessFlags := 25, nameIndex := 130, descriptorIndex := 124, attributes := #[] }, { accessFlags := 25, nameIndex := 136, descriptorIndex := 124, attributes := #[] }])
  fields := #[{ name := "SIOOBE_FORMATTER", type := (.object "java/util/function/BiFunction"), accessFlags := 25, slot := 0, constantValue := 0 }, { name := "AIOOBE_FORMATTER", type := (.object "java/util/function/BiFunction"), accessFlags := 25, slot := 1, constantValue := 0 }, { name := "IOOBE_FORMATTER", type := (.object "java/util/function/BiFunction"), accessFlags := 25, slot := 2, constantValue := 0 }]
  methods := #[k19m0, k19m1]
  instanceTypes := #[]
  staticTypes := #[(.object "java/util/function/BiFunction"), (.object "java/util/function/BiFunction"), (.object "java/util/function/BiFunction")]
  resolved := Array.replicate 194 none
  statics := none }

/-- the primitive byte -/
def k20 : Class := { plain "byte" none with kind := .primitive 'B', accessFlags := 0x411 }
/-- [B -/
def k21 : Class := { plain "[B" (some 0) with kind := .array 20 .byte, interfaces := #[15, 4], accessFlags := 1041 }

/-- the primitive int -/
def k22 : Class := { plain "int" none with kind := .primitive 'I', accessFlags := 0x411 }
/-- [I -/
def k23 : Class := { plain "[I" (some 0) with kind := .array 22 .int, interfaces := #[15, 4], accessFlags := 1041 }

/-- [Lcom/example/virtaus/virtaus/analysis/Analysis; -/
def k24 : Class := { plain "[Lcom/example/virtaus/virtaus/analysis/Analysis;" (some 0) with kind := .array 7 (.object "com/example/virtaus/virtaus/analysis/Analysis"), interfaces := #[15, 4], accessFlags := 1041 }

/-- [Ljava/lang/Object; -/
def k25 : Class := { plain "[Ljava/lang/Object;" (some 0) with kind := .array 0 (.object "java/lang/Object"), interfaces := #[15, 4], accessFlags := 1041 }

def heap : Heap := #[{ cls := 6, slots := #[.ref 4, .ref 5, .ref 6, .null], vm := .statics 6 },
  { cls := 7, slots := #[.ref 7, .ref 8, .ref 9, .ref 10, .ref 3], vm := .statics 7 },
  { cls := 16, slots := #[.long 0, .int 0, .ref 11, .ref 12], vm := .statics 16 },
  { cls := 24, slots := #[.ref 7, .ref 8, .ref 9, .ref 10], vm := .none },
  { cls := 6, slots := #[.null, .int 0, .int 0], vm := .none },
  { cls := 6, slots := #[.null, .int 1, .int 0], vm := .none },
  { cls := 6, slots := #[.null, .int 2, .int 0], vm := .none },
  { cls := 7, slots := #[.null, .int 0, .int 0, .null, .ref 4, .int 0], vm := .none },
  { cls := 7, slots := #[.null, .int 1, .int 0, .null, .ref 5, .int 0], vm := .none },
  { cls := 7, slots := #[.null, .int 2, .int 0, .null, .ref 5, .int 0], vm := .none },
  { cls := 7, slots := #[.null, .int 3, .int 0, .null, .ref 6, .int 0], vm := .none },
  { cls := 25, slots := #[], vm := .none },
  { cls := 25, slots := #[], vm := .none }]
def classes : Array Class := #[k0, k1, k2, k3, k4, k5, k6, k7, k8, k9, k10, k11, k12, k13, k14, k15, k16, k17, k18, k19, k20, k21, k22, k23, k24, k25]
def interned : List (Array UInt16 × Addr) := []
def slotsUsed : Nat := 50
def theMethod : MethodId := ⟨1, 1⟩
def args0 : Array Value := #[.int 4]
def aboutOver (below : List Frame) : State where
  vm := { classes := classes, interned := interned.toArray }
  heap := heap
  slotsUsed := slotsUsed
  threads := #[{ frames := .invoking theMethod args0 :: below }]
def below0 : List Frame := [.native { method := ⟨0, 0⟩, args := #[] }]
def about1 : State := aboutOver below0
def p0 : Program := .bare "" "" ""
def e0 : Env := launch0.env 0 0 0
theorem w_frames : about1.frames = Frame.invoking theMethod args0 :: below0 := rfl
set_option maxRecDepth 65536 in
theorem w_args : argsFit about1.vm theMethod args0 = true := by decide +kernel
set_option maxRecDepth 65536 in
theorem w_heap : heapFits about1 = true := by decide +kernel
set_option maxRecDepth 65536 in
theorem w_runnable : about1.curStatus? = some .runnable := by decide +kernel
set_option maxRecDepth 65536 in
theorem w_alone : about1.alone = true := by decide +kernel
set_option maxRecDepth 65536 in
theorem w_named : about1.methodNamed? x = some theMethod := by decide +kernel
set_option maxRecDepth 65536 in
theorem w_hears : about1.hears theMethod below0 = true := by decide +kernel
set_option maxRecDepth 65536 in
theorem w_ripe : about1.ripe theMethod args0 below0 = true := by decide +kernel
theorem w_running : about1.status = .running := rfl
set_option maxRecDepth 65536 in
theorem w_room : about1.hasRoom e0.platform room_1 = true :=
  launch0.hasRoom_least _ room_1 (by decide +kernel) (by decide +kernel) (by decide +kernel) (by decide +kernel) (by decide +kernel) (by decide +kernel)
theorem allAtoms_all (ts : List Jvm.Cond) (a : Array Jvm.Value) (st : Jvm.State) : (allAtoms ts).before a st = ts.all (fun c => c.before a st) := by
  induction ts with
  | nil => rfl
  | cons c t ih =>
    show (Jvm.Cond.and c (allAtoms t)).before a st = _
    rw [Jvm.Cond.before_and, ih, List.all_cons]
def words1 : List Jvm.Cond := Jvm.Cond.code x code maxLocals ret :: tables_1
/-- a 'code' word, met by the world's own term for the bytes: nothing is compared byte by byte -/
theorem code_word {y : MethodName} {bytes : ByteArray} {mx : Nat} {rt : Option FieldType} {a : Array Value} {s : State} {m : MethodId} {meth : Method} {c : Code} (h1 : s.methodNamed? y = some m) (h2 : s.vm.method? m = some meth) (h3 : meth.code = some c) (h4 : c.code = bytes)
    (h5 : (c.maxLocals == mx && c.exceptionTable.isEmpty && decide (c.maxStack ≤ mostOperands) && decide (meth.sig.returnType = rt) && !meth.locks && decide (parseMethodDescriptor y.desc = some meth.sig)) = true) : (Jvm.Cond.code y bytes mx rt).before a s = true := by
  simp only [Bool.and_eq_true, beq_iff_eq, Bool.not_eq_true', decide_eq_true_eq] at h5
  obtain ⟨⟨⟨⟨⟨g1, g2⟩, g3⟩, g4⟩, g5⟩, g6⟩ := h5
  simp [Cond.before, Cond.holds, Cond.value, h1, h2, h3, h4, g1, g2, g3, g4, g5, g6]
def isCode : Jvm.Cond → Bool
  | .code _ _ _ _ => true
  | _ => false
theorem all_split {L : List Jvm.Cond} {P : Jvm.Cond → Bool} (h1 : L.all (fun c => isCode c || P c) = true) (h2 : ∀ c ∈ L.filter isCode, P c = true) : L.all P = true := by
  refine List.all_eq_true.mpr fun c hc => ?_
  have h := List.all_eq_true.mp h1 c hc
  rcases Bool.eq_false_or_eq_true (isCode c) with hi | hi
  · exact h2 c (List.mem_filter.mpr ⟨hc, hi⟩)
  · simpa [hi] using h
set_option maxRecDepth 65536 in
theorem w_c0 : (Jvm.Cond.code x code maxLocals ret).before args0 about1 = true := code_word (m := ⟨1, 1⟩) (meth := k1m1) (c := k1c1) (by decide +kernel) rfl rfl rfl (by decide +kernel)
set_option maxRecDepth 65536 in
theorem w_c1 : (Jvm.Cond.code ({ cls := "com/example/virtaus/virtaus/analysis/Analysis", name := "availableFor", desc := "(Lcom/example/virtaus/virtaus/network/Multiplexing;)Ljava/util/List;" } : Jvm.MethodName) prog_2_method_7_code (6 : Nat) (Option.some (Jvm.ClassFile.FieldType.object "java/util/List"))).before args0 about1 = true := code_word (m := ⟨7, 1⟩) (meth := k7m1) (c := k7c1) (by decide +kernel) rfl rfl rfl (by decide +kernel)
set_option maxRecDepth 65536 in
theorem w_c2 : (Jvm.Cond.code ({ cls := "java/util/ArrayList", name := "<init>", desc := "()V" } : Jvm.MethodName) jdk_38_method_2_code (1 : Nat) (Option.none : Option Jvm.ClassFile.FieldType)).before args0 about1 = true := code_word (m := ⟨16, 0⟩) (meth := k16m0) (c := k16c0) (by decide +kernel) rfl rfl rfl (by decide +kernel)
set_option maxRecDepth 65536 in
theorem w_c3 : (Jvm.Cond.code ({ cls := "java/util/AbstractList", name := "<init>", desc := "()V" } : Jvm.MethodName) jdk_39_method_1_code (1 : Nat) (Option.none : Option Jvm.ClassFile.FieldType)).before args0 about1 = true := code_word (m := ⟨13, 0⟩) (meth := k13m0) (c := k13c0) (by decide +kernel) rfl rfl rfl (by decide +kernel)
set_option maxRecDepth 65536 in
theorem w_c4 : (Jvm.Cond.code ({ cls := "java/util/AbstractCollection", name := "<init>", desc := "()V" } : Jvm.MethodName) jdk_22_method_1_code (1 : Nat) (Option.none : Option Jvm.ClassFile.FieldType)).before args0 about1 = true := code_word (m := ⟨10, 0⟩) (meth := k10m0) (c := k10c0) (by decide +kernel) rfl rfl rfl (by decide +kernel)
set_option maxRecDepth 65536 in
theorem w_c5 : (Jvm.Cond.code ({ cls := "java/lang/Object", name := "<init>", desc := "()V" } : Jvm.MethodName) object_method_1_code (1 : Nat) (Option.none : Option Jvm.ClassFile.FieldType)).before args0 about1 = true := code_word (m := ⟨0, 0⟩) (meth := k0m0) (c := k0c0) (by decide +kernel) rfl rfl rfl (by decide +kernel)
set_option maxRecDepth 65536 in
theorem w_c6 : (Jvm.Cond.code ({ cls := "com/example/virtaus/virtaus/analysis/Analysis", name := "values", desc := "()[Lcom/example/virtaus/virtaus/analysis/Analysis;" } : Jvm.MethodName) prog_2_method_1_code (0 : Nat) (Option.some (Jvm.ClassFile.FieldType.array (Jvm.ClassFile.FieldType.object "com/example/virtaus/virtaus/analysis/Analysis")))).before args0 about1 = true := code_word (m := ⟨7, 0⟩) (meth := k7m0) (c := k7c0) (by decide +kernel) rfl rfl rfl (by decide +kernel)
set_option maxRecDepth 65536 in
theorem w_c7 : (Jvm.Cond.code ({ cls := "java/util/ArrayList", name := "add", desc := "(Ljava/lang/Object;)Z" } : Jvm.MethodName) jdk_38_method_25_code (2 : Nat) (Option.some Jvm.ClassFile.FieldType.boolean)).before args0 about1 = true := code_word (m := ⟨16, 7⟩) (meth := k16m7) (c := k16c7) (by decide +kernel) rfl rfl rfl (by decide +kernel)
set_option maxRecDepth 65536 in
theorem w_c8 : (Jvm.Cond.code ({ cls := "java/util/ArrayList", name := "add", desc := "(Ljava/lang/Object;[Ljava/lang/Object;I)V" } : Jvm.MethodName) jdk_38_method_24_code (4 : Nat) (Option.none : Option Jvm.ClassFile.FieldType)).before args0 about1 = true := code_word (m := ⟨16, 6⟩) (meth := k16m6) (c := k16c6) (by decide +kernel) rfl rfl rfl (by decide +kernel)
set_option maxRecDepth 65536 in
theorem w_c9 : (Jvm.Cond.code ({ cls := "java/util/ArrayList", name := "grow", desc := "()[Ljava/lang/Object;" } : Jvm.MethodName) jdk_38_method_7_code (1 : Nat) (Option.some (Jvm.ClassFile.FieldType.array (Jvm.ClassFile.FieldType.object "java/lang/Object")))).before args0 about1 = true := code_word (m := ⟨16, 2⟩) (meth := k16m2) (c := k16c2) (by decide +kernel) rfl rfl rfl (by decide +kernel)
set_option maxRecDepth 65536 in
theorem w_c10 : (Jvm.Cond.code ({ cls := "java/util/ArrayList", name := "grow", desc := "(I)[Ljava/lang/Object;" } : Jvm.MethodName) jdk_38_method_6_code (4 : Nat) (Option.some (Jvm.ClassFile.FieldType.array (Jvm.ClassFile.FieldType.object "java/lang/Object")))).before args0 about1 = true := code_word (m := ⟨16, 1⟩) (meth := k16m1) (c := k16c1) (by decide +kernel) rfl rfl rfl (by decide +kernel)
set_option maxRecDepth 65536 in
theorem w_c11 : (Jvm.Cond.code ({ cls := "java/lang/Math", name := "max", desc := "(II)I" } : Jvm.MethodName) jdk_29_method_65_code (2 : Nat) (Option.some Jvm.ClassFile.FieldType.int)).before args0 about1 = true := code_word (m := ⟨17, 1⟩) (meth := k17m1) (c := k17c1) (by decide +kernel) rfl rfl rfl (by decide +kernel)
set_option maxRecDepth 65536 in
theorem w_c12 : (Jvm.Cond.code ({ cls := "java/util/ArrayList", name := "size", desc := "()I" } : Jvm.MethodName) jdk_38_method_8_code (1 : Nat) (Option.some Jvm.ClassFile.FieldType.int)).before args0 about1 = true := code_word (m := ⟨16, 3⟩) (meth := k16m3) (c := k16c3) (by decide +kernel) rfl rfl rfl (by decide +kernel)
set_option maxRecDepth 65536 in
theorem w_c13 : (Jvm.Cond.code ({ cls := "java/util/ArrayList", name := "get", desc := "(I)Ljava/lang/Object;" } : Jvm.MethodName) jdk_38_method_20_code (2 : Nat) (Option.some (Jvm.ClassFile.FieldType.object "java/lang/Object"))).before args0 about1 = true := code_word (m := ⟨16, 5⟩) (meth := k16m5) (c := k16c5) (by decide +kernel) rfl rfl rfl (by decide +kernel)
set_option maxRecDepth 65536 in
theorem w_c14 : (Jvm.Cond.code ({ cls := "java/util/Objects", name := "checkIndex", desc := "(II)I" } : Jvm.MethodName) jdk_31_method_17_code (2 : Nat) (Option.some Jvm.ClassFile.FieldType.int)).before args0 about1 = true := code_word (m := ⟨18, 1⟩) (meth := k18m1) (c := k18c1) (by decide +kernel) rfl rfl rfl (by decide +kernel)
set_option maxRecDepth 65536 in
theorem w_c15 : (Jvm.Cond.code ({ cls := "jdk/internal/util/Preconditions", name := "checkIndex", desc := "(IILjava/util/function/BiFunction;)I" } : Jvm.MethodName) jdk_41_method_11_code (3 : Nat) (Option.some Jvm.ClassFile.FieldType.int)).before args0 about1 = true := code_word (m := ⟨19, 1⟩) (meth := k19m1) (c := k19c1) (by decide +kernel) rfl rfl rfl (by decide +kernel)
set_option maxRecDepth 65536 in
theorem w_c16 : (Jvm.Cond.code ({ cls := "java/util/ArrayList", name := "elementData", desc := "(I)Ljava/lang/Object;" } : Jvm.MethodName) jdk_38_method_18_code (2 : Nat) (Option.some (Jvm.ClassFile.FieldType.object "java/lang/Object"))).before args0 about1 = true := code_word (m := ⟨16, 4⟩) (meth := k16m4) (c := k16c4) (by decide +kernel) rfl rfl rfl (by decide +kernel)
def codes1 : List Jvm.Cond := [Jvm.Cond.code x code maxLocals ret, Jvm.Cond.code ({ cls := "com/example/virtaus/virtaus/analysis/Analysis", name := "availableFor", desc := "(Lcom/example/virtaus/virtaus/network/Multiplexing;)Ljava/util/List;" } : Jvm.MethodName) prog_2_method_7_code (6 : Nat) (Option.some (Jvm.ClassFile.FieldType.object "java/util/List")), Jvm.Cond.code ({ cls := "java/util/ArrayList", name := "<init>", desc := "()V" } : Jvm.MethodName) jdk_38_method_2_code (1 : Nat) (Option.none : Option Jvm.ClassFile.FieldType), Jvm.Cond.code ({ cls := "java/util/AbstractList", name := "<init>", desc := "()V" } : Jvm.MethodName) jdk_39_method_1_code (1 : Nat) (Option.none : Option Jvm.ClassFile.FieldType), Jvm.Cond.code ({ cls := "java/util/AbstractCollection", name := "<init>", desc := "()V" } : Jvm.MethodName) jdk_22_method_1_code (1 : Nat) (Option.none : Option Jvm.ClassFile.FieldType), Jvm.Cond.code ({ cls := "java/lang/Object", name := "<init>", desc := "()V" } : Jvm.MethodName) object_method_1_code (1 : Nat) (Option.none : Option Jvm.ClassFile.FieldType), Jvm.Cond.code ({ cls := "com/example/virtaus/virtaus/analysis/Analysis", name := "values", desc := "()[Lcom/example/virtaus/virtaus/analysis/Analysis;" } : Jvm.MethodName) prog_2_method_1_code (0 : Nat) (Option.some (Jvm.ClassFile.FieldType.array (Jvm.ClassFile.FieldType.object "com/example/virtaus/virtaus/analysis/Analysis"))), Jvm.Cond.code ({ cls := "java/util/ArrayList", name := "add", desc := "(Ljava/lang/Object;)Z" } : Jvm.MethodName) jdk_38_method_25_code (2 : Nat) (Option.some Jvm.ClassFile.FieldType.boolean), Jvm.Cond.code ({ cls := "java/util/ArrayList", name := "add", desc := "(Ljava/lang/Object;[Ljava/lang/Object;I)V" } : Jvm.MethodName) jdk_38_method_24_code (4 : Nat) (Option.none : Option Jvm.ClassFile.FieldType), Jvm.Cond.code ({ cls := "java/util/ArrayList", name := "grow", desc := "()[Ljava/lang/Object;" } : Jvm.MethodName) jdk_38_method_7_code (1 : Nat) (Option.some (Jvm.ClassFile.FieldType.array (Jvm.ClassFile.FieldType.object "java/lang/Object"))), Jvm.Cond.code ({ cls := "java/util/ArrayList", name := "grow", desc := "(I)[Ljava/lang/Object;" } : Jvm.MethodName) jdk_38_method_6_code (4 : Nat) (Option.some (Jvm.ClassFile.FieldType.array (Jvm.ClassFile.FieldType.object "java/lang/Object"))), Jvm.Cond.code ({ cls := "java/lang/Math", name := "max", desc := "(II)I" } : Jvm.MethodName) jdk_29_method_65_code (2 : Nat) (Option.some Jvm.ClassFile.FieldType.int), Jvm.Cond.code ({ cls := "java/util/ArrayList", name := "size", desc := "()I" } : Jvm.MethodName) jdk_38_method_8_code (1 : Nat) (Option.some Jvm.ClassFile.FieldType.int), Jvm.Cond.code ({ cls := "java/util/ArrayList", name := "get", desc := "(I)Ljava/lang/Object;" } : Jvm.MethodName) jdk_38_method_20_code (2 : Nat) (Option.some (Jvm.ClassFile.FieldType.object "java/lang/Object")), Jvm.Cond.code ({ cls := "java/util/Objects", name := "checkIndex", desc := "(II)I" } : Jvm.MethodName) jdk_31_method_17_code (2 : Nat) (Option.some Jvm.ClassFile.FieldType.int), Jvm.Cond.code ({ cls := "jdk/internal/util/Preconditions", name := "checkIndex", desc := "(IILjava/util/function/BiFunction;)I" } : Jvm.MethodName) jdk_41_method_11_code (3 : Nat) (Option.some Jvm.ClassFile.FieldType.int), Jvm.Cond.code ({ cls := "java/util/ArrayList", name := "elementData", desc := "(I)Ljava/lang/Object;" } : Jvm.MethodName) jdk_38_method_18_code (2 : Nat) (Option.some (Jvm.ClassFile.FieldType.object "java/lang/Object"))]
set_option maxRecDepth 65536 in
theorem codes_eq : words1.filter isCode = codes1 := rfl
theorem w_codes : ∀ c ∈ words1.filter isCode, c.before args0 about1 = true := by
  rw [codes_eq]
  intro c hc
  simp only [codes1, List.mem_cons, List.not_mem_nil, or_false] at hc
  rcases hc with rfl | rfl | rfl | rfl | rfl | rfl | rfl | rfl | rfl | rfl | rfl | rfl | rfl | rfl | rfl | rfl | rfl
  · exact w_c0
  · exact w_c1
  · exact w_c2
  · exact w_c3
  · exact w_c4
  · exact w_c5
  · exact w_c6
  · exact w_c7
  · exact w_c8
  · exact w_c9
  · exact w_c10
  · exact w_c11
  · exact w_c12
  · exact w_c13
  · exact w_c14
  · exact w_c15
  · exact w_c16
set_option maxRecDepth 65536 in
theorem w_t1 : (words1.take 24).all (fun c => isCode c || c.before args0 about1) = true := by decide +kernel
set_option maxRecDepth 65536 in
theorem w_t2 : ((words1.drop 24).take 24).all (fun c => isCode c || c.before args0 about1) = true := by decide +kernel
set_option maxRecDepth 65536 in
theorem w_t3 : (((words1.drop 24).drop 24).take 24).all (fun c => isCode c || c.before args0 about1) = true := by decide +kernel
set_option maxRecDepth 65536 in
theorem w_t4 : ((((words1.drop 24).drop 24).drop 24).take 24).all (fun c => isCode c || c.before args0 about1) = true := by decide +kernel
set_option maxRecDepth 65536 in
theorem w_t5 : (((((words1.drop 24).drop 24).drop 24).drop 24).take 24).all (fun c => isCode c || c.before args0 about1) = true := by decide +kernel
set_option maxRecDepth 65536 in
theorem w_t6 : (((((words1.drop 24).drop 24).drop 24).drop 24).drop 24).all (fun c => isCode c || c.before args0 about1) = true := by decide +kernel
theorem w_tables : (allAtoms (Jvm.Cond.code x code maxLocals ret :: tables_1)).before args0 about1 = true := by
  rw [allAtoms_all]
  show words1.all (fun c => c.before args0 about1) = true
  refine all_split ?_ w_codes
  rw [← List.take_append_drop 24 words1, List.all_append, w_t1, ← List.take_append_drop 24 (words1.drop 24), List.all_append, w_t2, ← List.take_append_drop 24 ((words1.drop 24).drop 24), List.all_append, w_t3, ← List.take_append_drop 24 (((words1.drop 24).drop 24).drop 24), List.all_append, w_t4, ← List.take_append_drop 24 ((((words1.drop 24).drop 24).drop 24).drop 24), List.all_append, w_t5, w_t6]
  rfl
set_option maxRecDepth 65536 in
theorem w_rest : rest_1_c.before args0 about1 = true := by decide +kernel
set_option maxRecDepth 65536 in
theorem w_case : (Jvm.Cond.and given_1 narrow_1).before args0 about1 = true := by decide +kernel
theorem w_applies : (headSpec (Jvm.Cond.code x code maxLocals ret :: tables_1) room_1).applies x e0.platform about1 = true :=
  (Spec.applies_iff w_frames).mpr ⟨w_running, w_runnable, w_alone, w_named, w_hears, w_ripe, w_room, w_tables⟩
theorem atStart : AtStart classFile x code maxLocals ret World_1 tables_1 room_1 Calls_1 rest_1 Pre_1 launch0 p0 e0 about1 theMethod args0 below0 :=
  ⟨lists_1, trivial, launch0.admits_env _ _ _, launch0.least_env, fairChoices_fair.cas, fairChoices_fair.clock, w_frames, w_args, w_heap, w_applies, trivial, w_rest, w_case⟩
end start1
theorem witness_1 : WitnessClaimed_1 := ⟨start1.p0, start1.e0, start1.about1, start1.theMethod, start1.args0, start1.below0, start1.atStart⟩
end Jvm.Pilot.@@N@@
