import JvmDerived
import JvmDerived.Pilot.@@N@@Statement
import JvmDerived.Pilot.@@N@@Code
set_option linter.unusedVariables false
set_option linter.unusedSimpArgs false
namespace Jvm.RoadKit
open Sem ClassFile Op Lib Jvm.Stand Jvm.Free Jvm.LawKit
section New
variable {p : Program} {l : Launch} {e : Env} {R : Room} {s : State} {m : MethodId} {args : Array Value} {below : List Frame} {meth : Method} {c : Code} {T : State} {locs : List Loc} {cells slots : Nat}
theorem retI (X : Stand p l e R s m args below meth c T locs cells slots) (hx : p.tables.exec = Jvm.exec) {pc : Nat} {Ls : Array Slot} {z : Int32} {rest : List Value} (hret : meth.sig.returnType = some .int) (hd : decode c.code pc = .ok (.ireturn, 1)) {fs : List Frame}
    (hl : ∀ (f : JFrame) (acts : List Action), f.method = m → f.locked = none → f.entered = [] → (doReturn e (T.setTop f) acts (some (.int z))).1 = T.setFrames fs) : Steps p.tables e below (T.setTop (mkF m pc Ls (.int z :: rest))) (T.setFrames fs) := by
  have hm' : T.vm.method? m = some meth := X.method'
  have hn : narrow .int (.int z) = .int z := rfl
  show Steps p.tables e below (T.setTop { method := m, pc := pc, locals := Ls, stack := _ :: rest, locked := none }) _
  jvm_step X.here [X.here.top, hx, hd, hm', hret, hn]
  first | (intro acts; rw [hl _ acts rfl rfl rfl]) | rw [hl _ _ rfl rfl rfl]
  exact Steps.refl _
end New
end Jvm.RoadKit
namespace Jvm.Pilot.@@N@@
open Jvm Jvm.ClassFile Sem Op Lib Jvm.Free Jvm.Stand Jvm.LawKit Jvm.RoadKit Bundle Jvm.Pilot.@@N@@.Jvm.D
set_option maxRecDepth 65536
set_option maxHeartbeats 40000000
theorem ow {Z : State} {a0 : Array Value} (hw : ∀ d ∈ tables_1, d.before a0 Z = true) (i : Nat) {d : Jvm.Cond} (h : tables_1[i]? = some d) : d.before a0 Z = true := hw d (List.mem_of_getElem? h)
abbrev HW (a0 : Array Value) (Z : State) : Prop := ∀ d ∈ tables_1, d.before a0 Z = true
abbrev MF (l : Launch) (y : MethodName) (bytes : ByteArray) (ml : Nat) (ret : Option FieldType) (ws : List Jvm.Cond) (rm : Room) (Z : State) (as : Array Value) (h0 : Heap) (Q : Option Value → Heap → List Loc → Prop) : Prop := MetFree l y (head1 (Jvm.Cond.code y bytes ml ret :: ws) rm) (fun a U => a = as ∧ Z.Warmed39 U.vm ∧ U.heap = h0) (fun _ _ _ _ _ => True) (fun _ U o U' => ∃ v L, o = .returned v ∧ Q v U'.heap L ∧ FrameEnd U o U' L rm.cells rm.slots)
abbrev MFS (l : Launch) (y : MethodName) (bytes : ByteArray) (ml : Nat) (ret : Option FieldType) (ws : List Jvm.Cond) (rm : Room) (Z : State) (as : Array Value) (h0 : Heap) (Q : Option Value → Heap → List Loc → Prop) : Prop := MetFree l y (head1 (Jvm.Cond.code y bytes ml ret :: ws) rm) (fun a U => a = as ∧ Z.Warmed39 U.vm ∧ U.heap = h0) (fun _ _ _ _ _ => True) (fun _ U o U' => ∃ v L, o = .returned v ∧ Q v U'.heap L ∧ ReturnedEndW U o U' L rm.cells rm.slots)
abbrev un : Slot := .unset
theorem gF {p : Program} {l : Launch} {e : Env} {R : Room} {s : State} {m : MethodId} {args : Array Value} {below : List Frame} {meth : Method} {c : Code} {T : State} {locs : List Loc} {cells slots : Nat} {Z : State} {a0 : Array Value} {h : Heap} (X : Stand p l e R s m args below meth c T locs cells slots) (hx : p.tables.exec = Jvm.exec) (hZ : Z.Warmed39 s.vm) {own O n d : String} {index : Nat} (hown : s.vm.findClass own = some m.cls) (w : (Jvm.Cond.fieldLink own index O n d).before a0 Z = true)
    (eT : T.heap = h) {a : Addr} {v : Value} (F : Fld Z h a O n d v) {g : JFrame} (hg : g.method = m) {rest : List Value} (hs : g.stack = .ref a :: rest) (hd : decode c.code g.pc = .ok (.getfield index, 3)) : ∃ T', Stand p l e R s m args below meth c T' locs cells slots ∧ T'.heap = h ∧ ∀ target, Steps p.tables e below (T'.setTop { g with pc := g.pc + 3, stack := v :: rest }) target → Steps p.tables e below (T.setTop g) target :=
  getF X hx hZ hown (host := "") (Or.inl w) Via.refl eT F hg hs hd
theorem pF {p : Program} {l : Launch} {e : Env} {R : Room} {s : State} {m : MethodId} {args : Array Value} {below : List Frame} {meth : Method} {c : Code} {T : State} {locs : List Loc} {cells slots : Nat} {Z : State} {a0 : Array Value} {h : Heap} (X : Stand p l e R s m args below meth c T locs cells slots) (hx : p.tables.exec = Jvm.exec) (hZ : Z.Warmed39 s.vm) {own O n d C : String} {index kk : Nat} {ty : FieldType} (hown : s.vm.findClass own = some m.cls) (w : (Jvm.Cond.fieldLink own index O n d).before a0 Z = true)
    (eT : T.heap = h) {a : Addr} {v old : Value} (F : Fld Z h a O n d old) (E : Exa Z h a C) (L : (Jvm.Cond.lays C O n d).before a0 Z = true ∨ ((Jvm.Cond.laysFinal C O n d).before a0 Z = true ∧ own = O ∧ meth.name = "<init>")) (wi : (Jvm.Cond.instantiable C kk).before a0 Z = true)
    (hty : parseFieldDescriptor d = some ty) (hn : narrow ty v = v) (hf : fits ty v = true) {g : JFrame} (hg : g.method = m) {rest : List Value} (hs : g.stack = v :: .ref a :: rest) (hd : decode c.code g.pc = .ok (.putfield index, 3)) :
    ∃ T' h', Stand p l e R s m args below meth c T' (locs ++ [⟨a, RoadKit.slotOf Z O n d⟩]) cells slots ∧ T'.heap = h' ∧ Wr h h' a (RoadKit.slotOf Z O n d) v ∧ ∀ target, Steps p.tables e below (T'.setTop { g with pc := g.pc + 3, stack := rest }) target → Steps p.tables e below (T.setTop g) target :=
  putF X hx hZ hown (host := "") (Or.inl w) Via.refl eT F E L wi hty hn hf hg hs hd
theorem fl {p : Program} {l : Launch} {e : Env} {R : Room} {s s₀ : State} {m : MethodId} {args : Array Value} {below : List Frame} {meth : Method} {c : Code} {T : State} {locs : List Loc} {cells slots dc ds k : Nat} {g : JFrame} {rest : List Value} {Q : Option Value → Heap → List Loc → Prop} (X : Stand p l e R s m args below meth c T locs cells slots) (h : ∃ (v : Option Value) (vm₁ : Vm) (B : Pt), s.WarmedH vm₁ ∧ Stand p l e R s m args below meth c B.U B.locs (B.cells) (B.slots) ∧ (∃ L, Q v B.U.heap L ∧ B.locs = locs ++ L ∧ B.cells = cells + dc ∧ B.slots = slots + ds) ∧ Steps p.tables e below s₀ (B.U.setTop { g with pc := g.pc + k, stack := v.toList ++ rest })) :
    ∃ (T' : State) (L : List Loc) (v : Option Value), Stand p l e R s m args below meth c T' (locs ++ L) (cells + dc) (slots + ds) ∧ Q v T'.heap L ∧ Steps p.tables e below s₀ (T'.setTop { g with pc := g.pc + k, stack := v.toList ++ rest }) := by
  obtain ⟨v, vm₁, ⟨T', L', k', n'⟩, -, X', ⟨L, hQ, l1, l2, l3⟩, st⟩ := h
  dsimp only [Pt.U, Pt.locs, Pt.cells, Pt.slots] at X' l1 l2 l3 st hQ
  subst l1 l2 l3
  exact ⟨T', L, v, X', hQ, st⟩
theorem flC {p : Program} {l : Launch} {e : Env} {R : Room} {s s₀ : State} {m : MethodId} {args : Array Value} {below : List Frame} {meth : Method} {c : Code} {T : State} {locs : List Loc} {cells slots dc ds k : Nat} {g : JFrame} {rest : List Value} {Q : Option Value → Heap → List Loc → Prop} (X : Stand p l e R s m args below meth c T locs cells slots) (h : ∃ (v : Option Value) (vm₁ : Vm) (B : Pt), s.WarmedH vm₁ ∧ Stand p l e R s m args below meth c B.U B.locs (B.cells) (B.slots) ∧ (∃ L, Q v B.U.heap L ∧ B.locs = locs ++ L ∧ B.cells = cells + dc ∧ B.slots = slots + ds) ∧ (∀ target, Steps p.tables e below (B.U.setTop { g with pc := g.pc + k, stack := v.toList ++ rest }) target → Steps p.tables e below s₀ target)) :
    ∃ (T' : State) (L : List Loc) (v : Option Value), Stand p l e R s m args below meth c T' (locs ++ L) (cells + dc) (slots + ds) ∧ Q v T'.heap L ∧ (∀ target, Steps p.tables e below (T'.setTop { g with pc := g.pc + k, stack := v.toList ++ rest }) target → Steps p.tables e below s₀ target) := by
  obtain ⟨v, vm₁, ⟨T', L', k', n'⟩, -, X', ⟨L, hQ, l1, l2, l3⟩, st⟩ := h
  dsimp only [Pt.U, Pt.locs, Pt.cells, Pt.slots] at X' l1 l2 l3 st hQ
  subst l1 l2 l3
  exact ⟨T', L, v, X', hQ, st⟩
theorem flS {p : Program} {l : Launch} {e : Env} {R : Room} {s s₀ : State} {m : MethodId} {args : Array Value} {below : List Frame} {meth : Method} {c : Code} {T : State} {locs : List Loc} {cells slots dc ds k : Nat} {g : JFrame} {rest : List Value} {Q : Option Value → Heap → List Loc → Prop} (X : Stand p l e R s m args below meth c T locs cells slots) (h : ∃ (v : Option Value) (vm₁ : Vm) (B : Pt), s.WarmedH vm₁ ∧ Stand p l e R (s.setVm B.U.vm) m args below meth c B.U B.locs (B.cells) (B.slots) ∧ s.Since B.U.vm B.U.heap.size ∧ T.heap.size ≤ B.U.heap.size ∧ (∃ L, Q v B.U.heap L ∧ B.locs = locs ++ L ∧ B.cells = cells + dc ∧ B.slots = slots + ds) ∧ Steps p.tables e below s₀ (B.U.setTop { g with pc := g.pc + k, stack := v.toList ++ rest })) :
    ∃ (T' : State) (L : List Loc) (v : Option Value), Stand p l e R (s.setVm T'.vm) m args below meth c T' (locs ++ L) (cells + dc) (slots + ds) ∧ s.Since T'.vm T'.heap.size ∧ T.heap.size ≤ T'.heap.size ∧ Q v T'.heap L ∧ Steps p.tables e below s₀ (T'.setTop { g with pc := g.pc + k, stack := v.toList ++ rest }) := by
  obtain ⟨v, vm₁, ⟨T', L', k', n'⟩, -, X', q1, q2, ⟨L, hQ, l1, l2, l3⟩, st⟩ := h
  dsimp only [Pt.U, Pt.locs, Pt.cells, Pt.slots] at X' l1 l2 l3 st hQ
  subst l1 l2 l3
  exact ⟨T', L, v, X', q1, q2, hQ, st⟩
theorem wf {n : Nat} : 2 * 0 + n ≤ n := by omega
theorem mI {α : Type} {l : List α} {a : α} {q : Prop} (i : Nat) (h : l[i]? = some a) : a ∈ l ∨ q := Or.inl (List.mem_of_getElem? h)
theorem mo {Z s : State} {a0 args : Array Value} (hZ : Z.Warmed39 s.vm) (hw : HW a0 Z) (i : Nat) {d : Jvm.Cond} (h : tables_1[i]? = some d) (hd : (d.onTables && d.keepsFace) = true := by first | rfl | simp [Cond.onTables, Cond.keepsFace, Cond.keeps, Cond.steady]) : d.before args s = true := mvT hZ (ow hw i h) hd
section Calls
variable {p : Program} {l : Launch} {e : Env} {R : Room} {s : State} {m : MethodId} {args : Array Value} {below : List Frame} {meth : Method} {c : Code} {T : State} {locs : List Loc} {cells slots : Nat} {Z : State} {a0 : Array Value} {h : Heap} {own C : String} {index count : Nat} {x y : MethodName} {bytes : ByteArray} {ml : Nat} {ret : Option FieldType} {rm : Room} {as : Array Value} {Q : Option Value → Heap → List Loc → Prop} {W : Nat} {b : Addr} {g : JFrame} {argsL rest : List Value}
theorem cI (X : Stand p l e R s m args below meth c T locs cells slots) (hx : p.tables.exec = Jvm.exec) (hZ : Z.Warmed39 s.vm) (hw : HW a0 Z) (hown : s.vm.findClass own = some m.cls) (j1 : Nat) (h1 : tables_1[j1]? = some (Jvm.Cond.methodLink own index x)) (j2 : Nat) (h2 : tables_1[j2]? = some (Jvm.Cond.declares x)) (j3 : Nat) (h3 : tables_1[j3]? = some (Jvm.Cond.interfaceMethod x.cls x.cls x.name x.desc)) (j4 : Nat) (h4 : tables_1[j4]? = some (Jvm.Cond.selects C x y)) (j5 : Nat) (h5 : tables_1[j5]? = some (Jvm.Cond.instanceMethod y)) (j6 : Nat) (h6 : tables_1[j6]? = some (Jvm.Cond.publicMethod y)) (j7 : Nat) (h7 : tables_1[j7]? = some (Jvm.Cond.unhidden C x.name x.desc)) (j8 : Nat) (h8 : tables_1[j8]? = some (Jvm.Cond.castable C x.cls)) (j9 : Nat) (h9 : tables_1[j9]? = some (Jvm.Cond.code y bytes ml ret)) (j10 : Nat) (h10 : tables_1[j10]? = some (Jvm.Cond.initialized y.cls)) (hy : x.cls ≠ "java/lang/invoke/MethodHandle" ∧ x.cls ≠ "java/lang/invoke/VarHandle") (r : MF l y bytes ml ret [] rm Z as h Q) (hf : rm.frames + 1 ≤ R.frames) (hl : W + (ml + 11) + rm.locals ≤ R.locals) (E : Exa Z h b C) (eT : T.heap = h) (hg : g.method = m) (hsize : g.locals.size = c.maxLocals) (hlen : ∀ sig, parseMethodDescriptor x.desc = some sig → argsL.length = sig.parameters.length) (hstack : g.stack = argsL.reverse ++ .ref b :: rest) (hW : 2 * g.monitorRoom + (rest.map fun v => v.category).sum ≤ W) (hdg : decode c.code g.pc = .ok (.invokeinterface index count, 5)) (has : (.ref b :: argsL).toArray = as) (hc : cells + rm.cells ≤ R.cells) (hs : slots + rm.slots ≤ R.slots) :
    ∃ (T' : State) (L : List Loc) (v : Option Value), Stand p l e R s m args below meth c T' (locs ++ L) (cells + rm.cells) (slots + rm.slots) ∧ Q v T'.heap L ∧ Steps p.tables e below (T.setTop g) (T'.setTop { g with pc := g.pc + 5, stack := v.toList ++ rest }) := by
  obtain ⟨cq, kq, qa, qb, qc⟩ := isOf hZ eT E
  exact fl X (X.interfaceBack hx hown (mo hZ hw j1 h1) (mo hZ hw j2 h2) (mo hZ hw j3 h3 (by simp [Cond.onTables, Cond.keepsFace, Cond.keeps, Cond.faceAtom, Cond.steady, hy.1, hy.2])) (mo hZ hw j4 h4) (mo hZ hw j5 h5) (mo hZ hw j6 h6) (mo hZ hw j7 h7) (mo hZ hw j8 h8) hy (backOf (W := W) r hZ (ow hw j9 h9) (ow hw j10 h10) hf hl) qa qb qc hg hsize (Steps.refl _) hlen hstack hW hdg (fun _ _ => ⟨has, eT, hc, hs⟩))
theorem cV (X : Stand p l e R s m args below meth c T locs cells slots) (hx : p.tables.exec = Jvm.exec) (hZ : Z.Warmed39 s.vm) (hw : HW a0 Z) (hown : s.vm.findClass own = some m.cls) (j1 : Nat) (h1 : tables_1[j1]? = some (Jvm.Cond.methodLink own index y)) (j2 : Nat) (h2 : tables_1[j2]? = some (Jvm.Cond.declares y)) (j4 : Nat) (h4 : tables_1[j4]? = some (Jvm.Cond.selects C y y)) (j5 : Nat) (h5 : tables_1[j5]? = some (Jvm.Cond.instanceMethod y)) (j9 : Nat) (h9 : tables_1[j9]? = some (Jvm.Cond.code y bytes ml ret)) (j10 : Nat) (h10 : tables_1[j10]? = some (Jvm.Cond.initialized y.cls)) (hy : y.cls ≠ "java/lang/invoke/MethodHandle" ∧ y.cls ≠ "java/lang/invoke/VarHandle") (r : MF l y bytes ml ret [] rm Z as h Q) (hf : rm.frames + 1 ≤ R.frames) (hl : W + (ml + 11) + rm.locals ≤ R.locals) (E : Exa Z h b C) (eT : T.heap = h) (hg : g.method = m) (hsize : g.locals.size = c.maxLocals) (hlen : ∀ sig, parseMethodDescriptor y.desc = some sig → argsL.length = sig.parameters.length) (hstack : g.stack = argsL.reverse ++ .ref b :: rest) (hW : 2 * g.monitorRoom + (rest.map fun v => v.category).sum ≤ W) (hdg : decode c.code g.pc = .ok (.invokevirtual index, 3)) (has : (.ref b :: argsL).toArray = as) (hc : cells + rm.cells ≤ R.cells) (hs : slots + rm.slots ≤ R.slots) :
    ∃ (T' : State) (L : List Loc) (v : Option Value), Stand p l e R s m args below meth c T' (locs ++ L) (cells + rm.cells) (slots + rm.slots) ∧ Q v T'.heap L ∧ Steps p.tables e below (T.setTop g) (T'.setTop { g with pc := g.pc + 3, stack := v.toList ++ rest }) := by
  obtain ⟨cq, kq, qa, qb, qc⟩ := isOf hZ eT E
  exact fl X (X.virtualBack hx hown (mo hZ hw j1 h1) (mo hZ hw j2 h2) (notFace_of_selects (args := #[]) (mo hZ hw j4 h4)) (mo hZ hw j4 h4) (mo hZ hw j5 h5) hy (backOf (W := W) r hZ (ow hw j9 h9) (ow hw j10 h10) hf hl) qa qc hg hsize (Steps.refl _) hlen hstack hW hdg (fun _ _ => ⟨has, eT, hc, hs⟩))
theorem cP (X : Stand p l e R s m args below meth c T locs cells slots) (hx : p.tables.exec = Jvm.exec) (hZ : Z.Warmed39 s.vm) (hw : HW a0 Z) (hown : s.vm.findClass own = some m.cls) (hy1 : y.name = "<init>") (j1 : Nat) (h1 : tables_1[j1]? = some (Jvm.Cond.methodLink own index y)) (j5 : Nat) (h5 : tables_1[j5]? = some (Jvm.Cond.instanceMethod y)) (j9 : Nat) (h9 : tables_1[j9]? = some (Jvm.Cond.code y bytes ml none)) (j10 : Nat) (h10 : tables_1[j10]? = some (Jvm.Cond.initialized y.cls)) (hy : y.cls ≠ "java/lang/invoke/MethodHandle" ∧ y.cls ≠ "java/lang/invoke/VarHandle") (r : MF l y bytes ml none [] rm Z as h Q) (hf : rm.frames + 1 ≤ R.frames) (hl : W + (ml + 11) + rm.locals ≤ R.locals) (eT : T.heap = h) (hg : g.method = m) (hsize : g.locals.size = c.maxLocals) (hlen : ∀ sig, parseMethodDescriptor y.desc = some sig → argsL.length = sig.parameters.length) (hstack : g.stack = argsL.reverse ++ .ref b :: rest) (hW : 2 * g.monitorRoom + (rest.map fun v => v.category).sum ≤ W) (hdg : decode c.code g.pc = .ok (.invokespecial index, 3)) (has : (.ref b :: argsL).toArray = as) (hc : cells + rm.cells ≤ R.cells) (hs : slots + rm.slots ≤ R.slots) :
    ∃ (T' : State) (L : List Loc) (v : Option Value), Stand p l e R s m args below meth c T' (locs ++ L) (cells + rm.cells) (slots + rm.slots) ∧ Q v T'.heap L ∧ Steps p.tables e below (T.setTop g) (T'.setTop { g with pc := g.pc + 3, stack := v.toList ++ rest }) :=
  fl X (X.specialBack hx hy1 hown (mo hZ hw j1 h1) (mo hZ hw j5 h5) (mo hZ hw j9 h9) hy (backOf (W := W) r hZ (ow hw j9 h9) (ow hw j10 h10) hf hl) hg hsize (Steps.refl _) (a := b) hlen hstack hW hdg (fun _ _ => ⟨has, eT, hc, hs⟩))
theorem cS (X : Stand p l e R s m args below meth c T locs cells slots) (hx : p.tables.exec = Jvm.exec) (hZ : Z.Warmed39 s.vm) (hw : HW a0 Z) (hown : s.vm.findClass own = some m.cls) (j1 : Nat) (h1 : tables_1[j1]? = some (Jvm.Cond.methodLink own index y)) (j2 : Nat) (h2 : tables_1[j2]? = some (Jvm.Cond.static y)) (j10 : Nat) (h10 : tables_1[j10]? = some (Jvm.Cond.initialized y.cls)) (j9 : Nat) (h9 : tables_1[j9]? = some (Jvm.Cond.code y bytes ml ret)) (hy : y.cls ≠ "java/lang/invoke/MethodHandle" ∧ y.cls ≠ "java/lang/invoke/VarHandle") (r : MF l y bytes ml ret [] rm Z as h Q) (hf : rm.frames + 1 ≤ R.frames) (hl : W + (ml + 11) + rm.locals ≤ R.locals) (eT : T.heap = h) (hg : g.method = m) (hsize : g.locals.size = c.maxLocals) (hlen : ∀ sig, parseMethodDescriptor y.desc = some sig → argsL.length = sig.parameters.length) (hstack : g.stack = argsL.reverse ++ rest) (hW : 2 * g.monitorRoom + (rest.map fun v => v.category).sum ≤ W) (hdg : decode c.code g.pc = .ok (.invokestatic index, 3)) (has : argsL.toArray = as) (hc : cells + rm.cells ≤ R.cells) (hs : slots + rm.slots ≤ R.slots) :
    ∃ (T' : State) (L : List Loc) (v : Option Value), Stand p l e R s m args below meth c T' (locs ++ L) (cells + rm.cells) (slots + rm.slots) ∧ Q v T'.heap L ∧ (∀ target, Steps p.tables e below (T'.setTop { g with pc := g.pc + 3, stack := v.toList ++ rest }) target → Steps p.tables e below (T.setTop g) target) :=
  flC X (Jvm.LawKit.callS X hx hown (mo hZ hw j1 h1) (mo hZ hw j2 h2) (mo hZ hw j10 h10) (mo hZ hw j9 h9) hy (backOf (W := W) r hZ (ow hw j9 h9) (ow hw j10 h10) hf hl) hg hsize hlen hstack hW hdg (fun _ _ => ⟨has, eT, hc, hs⟩))
theorem fin {y0 : MethodName} {b0 : ByteArray} {n0 : Nat} {S0 : Spec} {s₁ T0 : State} {as : Array Value} {Q : Option Value → Heap → List Loc → Prop} (Bd : BodyLoose p l y0 S0 b0 n0 ret e s m as below meth c s₁) (X : Stand p l e R s m args below meth c T locs cells slots) (eT : T.heap = h) (v : Option Value) (hv : ret = none → v = none) (hQ : Q v h locs) (hc : cells ≤ rm.cells) (hs : slots ≤ rm.slots)
    (H : ∀ fs, (∀ (f : JFrame) (acts : List Action), f.method = m → f.locked = none → f.entered = [] → (doReturn e (T.setTop f) acts v).1 = T.setFrames fs) → Steps p.tables e below T0 (T.setFrames fs)) :
    ∃ s₂ o, Steps p.tables e below T0 s₂ ∧ s₂.status = .running ∧ Ended s₂ below o ∧ (∃ v L, o = .returned v ∧ Q v s₂.heap L ∧ FrameEnd s o s₂ L rm.cells rm.slots) := by
  obtain ⟨fs, hr, hrun, hended, hW, hsame⟩ := X.leave (v := v) fun h => hv (Bd.returns.symm.trans h)
  exact ⟨_, _, H fs hr, hrun, hended, _, _, rfl, by show Q v T.heap _; rw [eT]; exact hQ, ⟨_, rfl⟩, hW, hsame.mono hc hs⟩
abbrev rM (f c s l : Nat) : Room := { frames := f, cells := c, slots := s, locals := l }
end Calls
section Steps2
variable {p : Program} {l : Launch} {e : Env} {R : Room} {s : State} {m : MethodId} {args : Array Value} {below : List Frame} {meth : Method} {c : Code} {T t : State} {locs : List Loc} {cells slots : Nat} {b : ByteArray} {g : JFrame}
theorem aN (X : Stand p l e R s m args below meth c T locs cells slots) (hx : p.tables.exec = Jvm.exec) (hby : c.code = b) {k : Fin 4} {v : Value} (hd : decode b g.pc = .ok (.aload_n k, 1)) (hl : g.locals[k.val]? = some (.val v)) (hv : v.isRef = true) (hr : Steps p.tables e below (T.setTop { g with pc := g.pc + 1, stack := v :: g.stack }) t) (hg : g.method = m := by rfl) : Steps p.tables e below (T.setTop g) t := XS.aloadN X.here hx hg (hb hby hd) hl hv hr
theorem aL (X : Stand p l e R s m args below meth c T locs cells slots) (hx : p.tables.exec = Jvm.exec) (hby : c.code = b) {k : Nat} {v : Value} (hd : decode b g.pc = .ok (.aload k, 2)) (hl : g.locals[k]? = some (.val v)) (hv : v.isRef = true) (hr : Steps p.tables e below (T.setTop { g with pc := g.pc + 2, stack := v :: g.stack }) t) (hg : g.method = m := by rfl) : Steps p.tables e below (T.setTop g) t := XS.aload X.here hx hg (hb hby hd) hl hv hr
theorem iN (X : Stand p l e R s m args below meth c T locs cells slots) (hx : p.tables.exec = Jvm.exec) (hby : c.code = b) {k : Fin 4} {v : Int32} (hd : decode b g.pc = .ok (.iload_n k, 1)) (hl : g.locals[k.val]? = some (.val (.int v))) (hr : Steps p.tables e below (T.setTop { g with pc := g.pc + 1, stack := .int v :: g.stack }) t) (hg : g.method = m := by rfl) : Steps p.tables e below (T.setTop g) t := XS.iloadN X.here hx hg (hb hby hd) hl hr
theorem iL (X : Stand p l e R s m args below meth c T locs cells slots) (hx : p.tables.exec = Jvm.exec) (hby : c.code = b) {k : Nat} {v : Int32} (hd : decode b g.pc = .ok (.iload k, 2)) (hl : g.locals[k]? = some (.val (.int v))) (hr : Steps p.tables e below (T.setTop { g with pc := g.pc + 2, stack := .int v :: g.stack }) t) (hg : g.method = m := by rfl) : Steps p.tables e below (T.setTop g) t := XS.iload X.here hx hg (hb hby hd) hl hr
theorem iC (X : Stand p l e R s m args below meth c T locs cells slots) (hx : p.tables.exec = Jvm.exec) (hby : c.code = b) {i : Int} (hd : decode b g.pc = .ok (.iconst i, 1)) (hr : Steps p.tables e below (T.setTop { g with pc := g.pc + 1, stack := .int (Int32.ofInt i) :: g.stack }) t) (hg : g.method = m := by rfl) : Steps p.tables e below (T.setTop g) t := XS.iconst X.here hx hg (hb hby hd) hr
theorem retA (X : Stand p l e R s m args below meth c T locs cells slots) (hx : p.tables.exec = Jvm.exec) {ty : FieldType} (hret : meth.sig.returnType = some ty) (ht : ty.isReference = true) {v : Value} {rest : List Value} {pc : Nat} {Ls : Array Slot} (hv : v.isRef = true) (hd : decode c.code pc = .ok (.areturn, 1)) {fs : List Frame}
    (hl : ∀ (f : JFrame) (acts : List Action), f.method = m → f.locked = none → f.entered = [] → (doReturn e (T.setTop f) acts (some v)).1 = T.setFrames fs) : Steps p.tables e below (T.setTop (mkF m pc Ls (v :: rest))) (T.setFrames fs) := by
  have hm' : T.vm.method? m = some meth := X.method'
  show Steps p.tables e below (T.setTop { method := m, pc := pc, locals := Ls, stack := v :: rest, locked := none }) _
  jvm_step X.here [X.here.top, hx, hd, hm', hret, hv, ht]
  first | (intro acts; rw [hl _ acts rfl rfl rfl]) | rw [hl _ _ rfl rfl rfl]
  exact Steps.refl _
end Steps2
abbrev QT : Type := Option Value → Heap → List Loc → Prop
abbrev dk (b : ByteArray) (pc : Nat) (i : Instr) (n : Nat) : Prop := decode b pc = .ok (i, n)
theorem pq {y : MethodName} (h : plainName y.cls = true) : plainFor y = true := plainFor_of_name h
theorem sn1 {Z : State} {a0 : Array Value} (hw : HW a0 Z) : RoadKit.slotOf Z "java/util/ArrayList" "size" "I" ≠ RoadKit.slotOf Z "java/util/AbstractList" "modCount" "I" := slot_ne (Or.inl (ow hw 85 rfl)) (Or.inl (ow hw 30 rfl)) (by decide) (t := .int) (t' := .int) (by decide) (by decide)
theorem sn2 {Z : State} {a0 : Array Value} (hw : HW a0 Z) : RoadKit.slotOf Z "java/util/ArrayList$Itr" "lastRet" "I" ≠ RoadKit.slotOf Z "java/util/ArrayList$Itr" "this$0" "Ljava/util/ArrayList;" := slot_ne (Or.inl (ow hw 112 rfl)) (Or.inr (ow hw 109 rfl)) (by decide) (t := .int) (t' := (.object "java/util/ArrayList")) (by decide) (by decide)
theorem sn3 {Z : State} {a0 : Array Value} (hw : HW a0 Z) : RoadKit.slotOf Z "java/util/ArrayList$Itr" "this$0" "Ljava/util/ArrayList;" ≠ RoadKit.slotOf Z "java/util/ArrayList$Itr" "lastRet" "I" := slot_ne (Or.inr (ow hw 109 rfl)) (Or.inl (ow hw 112 rfl)) (by decide) (t := (.object "java/util/ArrayList")) (t' := .int) (by decide) (by decide)
theorem sn4 {Z : State} {a0 : Array Value} (hw : HW a0 Z) : RoadKit.slotOf Z "java/util/ArrayList$Itr" "expectedModCount" "I" ≠ RoadKit.slotOf Z "java/util/ArrayList$Itr" "this$0" "Ljava/util/ArrayList;" := slot_ne (Or.inl (ow hw 116 rfl)) (Or.inr (ow hw 109 rfl)) (by decide) (t := .int) (t' := (.object "java/util/ArrayList")) (by decide) (by decide)
theorem sn5 {Z : State} {a0 : Array Value} (hw : HW a0 Z) : RoadKit.slotOf Z "java/util/ArrayList$Itr" "expectedModCount" "I" ≠ RoadKit.slotOf Z "java/util/ArrayList$Itr" "lastRet" "I" := slot_ne (Or.inl (ow hw 116 rfl)) (Or.inl (ow hw 112 rfl)) (by decide) (t := .int) (t' := .int) (by decide) (by decide)
theorem sn6 {Z : State} {a0 : Array Value} (hw : HW a0 Z) : RoadKit.slotOf Z "java/util/ArrayList$Itr" "cursor" "I" ≠ RoadKit.slotOf Z "java/util/ArrayList$Itr" "this$0" "Ljava/util/ArrayList;" := slot_ne (Or.inl (ow hw 127 rfl)) (Or.inr (ow hw 109 rfl)) (by decide) (t := .int) (t' := (.object "java/util/ArrayList")) (by decide) (by decide)
theorem sn7 {Z : State} {a0 : Array Value} (hw : HW a0 Z) : RoadKit.slotOf Z "java/util/ArrayList$Itr" "cursor" "I" ≠ RoadKit.slotOf Z "java/util/ArrayList$Itr" "lastRet" "I" := slot_ne (Or.inl (ow hw 127 rfl)) (Or.inl (ow hw 112 rfl)) (by decide) (t := .int) (t' := .int) (by decide) (by decide)
theorem sn8 {Z : State} {a0 : Array Value} (hw : HW a0 Z) : RoadKit.slotOf Z "java/util/ArrayList$Itr" "cursor" "I" ≠ RoadKit.slotOf Z "java/util/ArrayList$Itr" "expectedModCount" "I" := slot_ne (Or.inl (ow hw 127 rfl)) (Or.inl (ow hw 116 rfl)) (by decide) (t := .int) (t' := .int) (by decide) (by decide)
theorem sn9 {Z : State} {a0 : Array Value} (hw : HW a0 Z) : RoadKit.slotOf Z "java/util/ArrayList$Itr" "this$0" "Ljava/util/ArrayList;" ≠ RoadKit.slotOf Z "java/util/ArrayList$Itr" "expectedModCount" "I" := slot_ne (Or.inr (ow hw 109 rfl)) (Or.inl (ow hw 116 rfl)) (by decide) (t := (.object "java/util/ArrayList")) (t' := .int) (by decide) (by decide)
theorem sn10 {Z : State} {a0 : Array Value} (hw : HW a0 Z) : RoadKit.slotOf Z "java/util/ArrayList$Itr" "lastRet" "I" ≠ RoadKit.slotOf Z "java/util/ArrayList$Itr" "expectedModCount" "I" := slot_ne (Or.inl (ow hw 112 rfl)) (Or.inl (ow hw 116 rfl)) (by decide) (t := .int) (t' := .int) (by decide) (by decide)
theorem sn11 {Z : State} {a0 : Array Value} (hw : HW a0 Z) : RoadKit.slotOf Z "tabula/engine/Concept" "kind" "Ltabula/engine/Concept$Kind;" ≠ RoadKit.slotOf Z "tabula/engine/Concept" "id" "I" := slot_ne (Or.inr (ow hw 54 rfl)) (Or.inr (ow hw 52 rfl)) (by decide) (t := (.object "tabula/engine/Concept$Kind")) (t' := .int) (by decide) (by decide)
theorem sn12 {Z : State} {a0 : Array Value} (hw : HW a0 Z) : RoadKit.slotOf Z "tabula/engine/Concept" "name" "Ljava/lang/String;" ≠ RoadKit.slotOf Z "tabula/engine/Concept" "id" "I" := slot_ne (Or.inr (ow hw 56 rfl)) (Or.inr (ow hw 52 rfl)) (by decide) (t := (.object "java/lang/String")) (t' := .int) (by decide) (by decide)
theorem sn13 {Z : State} {a0 : Array Value} (hw : HW a0 Z) : RoadKit.slotOf Z "tabula/engine/Concept" "name" "Ljava/lang/String;" ≠ RoadKit.slotOf Z "tabula/engine/Concept" "kind" "Ltabula/engine/Concept$Kind;" := slot_ne (Or.inr (ow hw 56 rfl)) (Or.inr (ow hw 54 rfl)) (by decide) (t := (.object "java/lang/String")) (t' := (.object "tabula/engine/Concept$Kind")) (by decide) (by decide)
theorem sn14 {Z : State} {a0 : Array Value} (hw : HW a0 Z) : RoadKit.slotOf Z "tabula/engine/Concept" "role" "Ltabula/engine/Role;" ≠ RoadKit.slotOf Z "tabula/engine/Concept" "id" "I" := slot_ne (Or.inr (ow hw 58 rfl)) (Or.inr (ow hw 52 rfl)) (by decide) (t := (.object "tabula/engine/Role")) (t' := .int) (by decide) (by decide)
theorem sn15 {Z : State} {a0 : Array Value} (hw : HW a0 Z) : RoadKit.slotOf Z "tabula/engine/Concept" "role" "Ltabula/engine/Role;" ≠ RoadKit.slotOf Z "tabula/engine/Concept" "kind" "Ltabula/engine/Concept$Kind;" := slot_ne (Or.inr (ow hw 58 rfl)) (Or.inr (ow hw 54 rfl)) (by decide) (t := (.object "tabula/engine/Role")) (t' := (.object "tabula/engine/Concept$Kind")) (by decide) (by decide)
theorem sn16 {Z : State} {a0 : Array Value} (hw : HW a0 Z) : RoadKit.slotOf Z "tabula/engine/Concept" "role" "Ltabula/engine/Role;" ≠ RoadKit.slotOf Z "tabula/engine/Concept" "name" "Ljava/lang/String;" := slot_ne (Or.inr (ow hw 58 rfl)) (Or.inr (ow hw 56 rfl)) (by decide) (t := (.object "tabula/engine/Role")) (t' := (.object "java/lang/String")) (by decide) (by decide)
theorem sn17 {Z : State} {a0 : Array Value} (hw : HW a0 Z) : RoadKit.slotOf Z "tabula/engine/Concept" "cardinality" "I" ≠ RoadKit.slotOf Z "tabula/engine/Concept" "id" "I" := slot_ne (Or.inr (ow hw 60 rfl)) (Or.inr (ow hw 52 rfl)) (by decide) (t := .int) (t' := .int) (by decide) (by decide)
theorem sn18 {Z : State} {a0 : Array Value} (hw : HW a0 Z) : RoadKit.slotOf Z "tabula/engine/Concept" "cardinality" "I" ≠ RoadKit.slotOf Z "tabula/engine/Concept" "kind" "Ltabula/engine/Concept$Kind;" := slot_ne (Or.inr (ow hw 60 rfl)) (Or.inr (ow hw 54 rfl)) (by decide) (t := .int) (t' := (.object "tabula/engine/Concept$Kind")) (by decide) (by decide)
theorem sn19 {Z : State} {a0 : Array Value} (hw : HW a0 Z) : RoadKit.slotOf Z "tabula/engine/Concept" "cardinality" "I" ≠ RoadKit.slotOf Z "tabula/engine/Concept" "name" "Ljava/lang/String;" := slot_ne (Or.inr (ow hw 60 rfl)) (Or.inr (ow hw 56 rfl)) (by decide) (t := .int) (t' := (.object "java/lang/String")) (by decide) (by decide)
theorem sn20 {Z : State} {a0 : Array Value} (hw : HW a0 Z) : RoadKit.slotOf Z "tabula/engine/Concept" "cardinality" "I" ≠ RoadKit.slotOf Z "tabula/engine/Concept" "role" "Ltabula/engine/Role;" := slot_ne (Or.inr (ow hw 60 rfl)) (Or.inr (ow hw 58 rfl)) (by decide) (t := .int) (t' := (.object "tabula/engine/Role")) (by decide) (by decide)
theorem sn21 {Z : State} {a0 : Array Value} (hw : HW a0 Z) : RoadKit.slotOf Z "tabula/engine/Concept" "parts" "Ljava/util/List;" ≠ RoadKit.slotOf Z "tabula/engine/Concept" "id" "I" := slot_ne (Or.inr (ow hw 91 rfl)) (Or.inr (ow hw 52 rfl)) (by decide) (t := (.object "java/util/List")) (t' := .int) (by decide) (by decide)
theorem sn22 {Z : State} {a0 : Array Value} (hw : HW a0 Z) : RoadKit.slotOf Z "tabula/engine/Concept" "parts" "Ljava/util/List;" ≠ RoadKit.slotOf Z "tabula/engine/Concept" "kind" "Ltabula/engine/Concept$Kind;" := slot_ne (Or.inr (ow hw 91 rfl)) (Or.inr (ow hw 54 rfl)) (by decide) (t := (.object "java/util/List")) (t' := (.object "tabula/engine/Concept$Kind")) (by decide) (by decide)
theorem sn23 {Z : State} {a0 : Array Value} (hw : HW a0 Z) : RoadKit.slotOf Z "tabula/engine/Concept" "parts" "Ljava/util/List;" ≠ RoadKit.slotOf Z "tabula/engine/Concept" "name" "Ljava/lang/String;" := slot_ne (Or.inr (ow hw 91 rfl)) (Or.inr (ow hw 56 rfl)) (by decide) (t := (.object "java/util/List")) (t' := (.object "java/lang/String")) (by decide) (by decide)
theorem sn24 {Z : State} {a0 : Array Value} (hw : HW a0 Z) : RoadKit.slotOf Z "tabula/engine/Concept" "parts" "Ljava/util/List;" ≠ RoadKit.slotOf Z "tabula/engine/Concept" "role" "Ltabula/engine/Role;" := slot_ne (Or.inr (ow hw 91 rfl)) (Or.inr (ow hw 58 rfl)) (by decide) (t := (.object "java/util/List")) (t' := (.object "tabula/engine/Role")) (by decide) (by decide)
theorem sn25 {Z : State} {a0 : Array Value} (hw : HW a0 Z) : RoadKit.slotOf Z "tabula/engine/Concept" "parts" "Ljava/util/List;" ≠ RoadKit.slotOf Z "tabula/engine/Concept" "cardinality" "I" := slot_ne (Or.inr (ow hw 91 rfl)) (Or.inr (ow hw 60 rfl)) (by decide) (t := (.object "java/util/List")) (t' := .int) (by decide) (by decide)
theorem sn26 {Z : State} {a0 : Array Value} (hw : HW a0 Z) : RoadKit.slotOf Z "tabula/engine/Concept" "usesUniversalRole" "Z" ≠ RoadKit.slotOf Z "tabula/engine/Concept" "id" "I" := slot_ne (Or.inr (ow hw 130 rfl)) (Or.inr (ow hw 52 rfl)) (by decide) (t := .boolean) (t' := .int) (by decide) (by decide)
theorem sn27 {Z : State} {a0 : Array Value} (hw : HW a0 Z) : RoadKit.slotOf Z "tabula/engine/Concept" "usesUniversalRole" "Z" ≠ RoadKit.slotOf Z "tabula/engine/Concept" "kind" "Ltabula/engine/Concept$Kind;" := slot_ne (Or.inr (ow hw 130 rfl)) (Or.inr (ow hw 54 rfl)) (by decide) (t := .boolean) (t' := (.object "tabula/engine/Concept$Kind")) (by decide) (by decide)
theorem sn28 {Z : State} {a0 : Array Value} (hw : HW a0 Z) : RoadKit.slotOf Z "tabula/engine/Concept" "usesUniversalRole" "Z" ≠ RoadKit.slotOf Z "tabula/engine/Concept" "name" "Ljava/lang/String;" := slot_ne (Or.inr (ow hw 130 rfl)) (Or.inr (ow hw 56 rfl)) (by decide) (t := .boolean) (t' := (.object "java/lang/String")) (by decide) (by decide)
theorem sn29 {Z : State} {a0 : Array Value} (hw : HW a0 Z) : RoadKit.slotOf Z "tabula/engine/Concept" "usesUniversalRole" "Z" ≠ RoadKit.slotOf Z "tabula/engine/Concept" "role" "Ltabula/engine/Role;" := slot_ne (Or.inr (ow hw 130 rfl)) (Or.inr (ow hw 58 rfl)) (by decide) (t := .boolean) (t' := (.object "tabula/engine/Role")) (by decide) (by decide)
theorem sn30 {Z : State} {a0 : Array Value} (hw : HW a0 Z) : RoadKit.slotOf Z "tabula/engine/Concept" "usesUniversalRole" "Z" ≠ RoadKit.slotOf Z "tabula/engine/Concept" "cardinality" "I" := slot_ne (Or.inr (ow hw 130 rfl)) (Or.inr (ow hw 60 rfl)) (by decide) (t := .boolean) (t' := .int) (by decide) (by decide)
theorem sn31 {Z : State} {a0 : Array Value} (hw : HW a0 Z) : RoadKit.slotOf Z "tabula/engine/Concept" "usesUniversalRole" "Z" ≠ RoadKit.slotOf Z "tabula/engine/Concept" "parts" "Ljava/util/List;" := slot_ne (Or.inr (ow hw 130 rfl)) (Or.inr (ow hw 91 rfl)) (by decide) (t := .boolean) (t' := (.object "java/util/List")) (by decide) (by decide)
theorem sn32 {Z : State} {a0 : Array Value} (hw : HW a0 Z) : RoadKit.slotOf Z "tabula/engine/Concept" "kind" "Ltabula/engine/Concept$Kind;" ≠ RoadKit.slotOf Z "tabula/engine/Concept" "name" "Ljava/lang/String;" := slot_ne (Or.inr (ow hw 54 rfl)) (Or.inr (ow hw 56 rfl)) (by decide) (t := (.object "tabula/engine/Concept$Kind")) (t' := (.object "java/lang/String")) (by decide) (by decide)
theorem sn33 {Z : State} {a0 : Array Value} (hw : HW a0 Z) : RoadKit.slotOf Z "tabula/engine/Concept" "kind" "Ltabula/engine/Concept$Kind;" ≠ RoadKit.slotOf Z "tabula/engine/Concept" "role" "Ltabula/engine/Role;" := slot_ne (Or.inr (ow hw 54 rfl)) (Or.inr (ow hw 58 rfl)) (by decide) (t := (.object "tabula/engine/Concept$Kind")) (t' := (.object "tabula/engine/Role")) (by decide) (by decide)
theorem sn34 {Z : State} {a0 : Array Value} (hw : HW a0 Z) : RoadKit.slotOf Z "tabula/engine/Concept" "kind" "Ltabula/engine/Concept$Kind;" ≠ RoadKit.slotOf Z "tabula/engine/Concept" "cardinality" "I" := slot_ne (Or.inr (ow hw 54 rfl)) (Or.inr (ow hw 60 rfl)) (by decide) (t := (.object "tabula/engine/Concept$Kind")) (t' := .int) (by decide) (by decide)
theorem sn35 {Z : State} {a0 : Array Value} (hw : HW a0 Z) : RoadKit.slotOf Z "tabula/engine/Concept" "kind" "Ltabula/engine/Concept$Kind;" ≠ RoadKit.slotOf Z "tabula/engine/Concept" "parts" "Ljava/util/List;" := slot_ne (Or.inr (ow hw 54 rfl)) (Or.inr (ow hw 91 rfl)) (by decide) (t := (.object "tabula/engine/Concept$Kind")) (t' := (.object "java/util/List")) (by decide) (by decide)
theorem sn36 {Z : State} {a0 : Array Value} (hw : HW a0 Z) : RoadKit.slotOf Z "tabula/engine/Concept" "kind" "Ltabula/engine/Concept$Kind;" ≠ RoadKit.slotOf Z "tabula/engine/Concept" "usesUniversalRole" "Z" := slot_ne (Or.inr (ow hw 54 rfl)) (Or.inr (ow hw 130 rfl)) (by decide) (t := (.object "tabula/engine/Concept$Kind")) (t' := .boolean) (by decide) (by decide)
theorem sn37 {Z : State} {a0 : Array Value} (hw : HW a0 Z) : RoadKit.slotOf Z "tabula/engine/Concept" "parts" "Ljava/util/List;" ≠ RoadKit.slotOf Z "tabula/engine/Concept" "usesUniversalRole" "Z" := slot_ne (Or.inr (ow hw 91 rfl)) (Or.inr (ow hw 130 rfl)) (by decide) (t := (.object "java/util/List")) (t' := .boolean) (by decide) (by decide)
theorem sn38 {Z : State} {a0 : Array Value} (hw : HW a0 Z) : RoadKit.slotOf Z "java/util/AbstractList" "modCount" "I" ≠ RoadKit.slotOf Z "java/util/ArrayList" "size" "I" := slot_ne (Or.inl (ow hw 30 rfl)) (Or.inl (ow hw 85 rfl)) (by decide) (t := .int) (t' := .int) (by decide) (by decide)
theorem sn39 {Z : State} {a0 : Array Value} (hw : HW a0 Z) : RoadKit.slotOf Z "java/util/ImmutableCollections$List12" "e1" "Ljava/lang/Object;" ≠ RoadKit.slotOf Z "java/util/ImmutableCollections$List12" "e0" "Ljava/lang/Object;" := slot_ne (Or.inr (ow hw 250 rfl)) (Or.inr (ow hw 248 rfl)) (by decide) (t := (.object "java/lang/Object")) (t' := (.object "java/lang/Object")) (by decide) (by decide)
theorem sn40 {Z : State} {a0 : Array Value} (hw : HW a0 Z) : RoadKit.slotOf Z "java/util/ImmutableCollections$List12" "e0" "Ljava/lang/Object;" ≠ RoadKit.slotOf Z "java/util/ImmutableCollections$List12" "e1" "Ljava/lang/Object;" := slot_ne (Or.inr (ow hw 248 rfl)) (Or.inr (ow hw 250 rfl)) (by decide) (t := (.object "java/lang/Object")) (t' := (.object "java/lang/Object")) (by decide) (by decide)
theorem sn41 {Z : State} {a0 : Array Value} (hw : HW a0 Z) : RoadKit.slotOf Z "java/util/ArrayList$Itr" "lastRet" "I" ≠ RoadKit.slotOf Z "java/util/ArrayList$Itr" "cursor" "I" := slot_ne (Or.inl (ow hw 112 rfl)) (Or.inl (ow hw 127 rfl)) (by decide) (t := .int) (t' := .int) (by decide) (by decide)
theorem sn42 {Z : State} {a0 : Array Value} (hw : HW a0 Z) : RoadKit.slotOf Z "java/util/ArrayList$Itr" "this$0" "Ljava/util/ArrayList;" ≠ RoadKit.slotOf Z "java/util/ArrayList$Itr" "cursor" "I" := slot_ne (Or.inr (ow hw 109 rfl)) (Or.inl (ow hw 127 rfl)) (by decide) (t := (.object "java/util/ArrayList")) (t' := .int) (by decide) (by decide)
theorem sn43 {Z : State} {a0 : Array Value} (hw : HW a0 Z) : RoadKit.slotOf Z "java/util/ArrayList$Itr" "expectedModCount" "I" ≠ RoadKit.slotOf Z "java/util/ArrayList$Itr" "cursor" "I" := slot_ne (Or.inl (ow hw 116 rfl)) (Or.inl (ow hw 127 rfl)) (by decide) (t := .int) (t' := .int) (by decide) (by decide)
theorem sn44 {Z : State} {a0 : Array Value} (hw : HW a0 Z) : RoadKit.slotOf Z "tabula/engine/Role" "universal" "Z" ≠ RoadKit.slotOf Z "tabula/engine/Role" "name" "Ljava/lang/String;" := slot_ne (Or.inr (ow hw 308 rfl)) (Or.inr (ow hw 306 rfl)) (by decide) (t := .boolean) (t' := (.object "java/lang/String")) (by decide) (by decide)
theorem sn45 {Z : State} {a0 : Array Value} (hw : HW a0 Z) : RoadKit.slotOf Z "tabula/engine/Role" "inverted" "Z" ≠ RoadKit.slotOf Z "tabula/engine/Role" "name" "Ljava/lang/String;" := slot_ne (Or.inr (ow hw 310 rfl)) (Or.inr (ow hw 306 rfl)) (by decide) (t := .boolean) (t' := (.object "java/lang/String")) (by decide) (by decide)
theorem sn46 {Z : State} {a0 : Array Value} (hw : HW a0 Z) : RoadKit.slotOf Z "tabula/engine/Role" "inverted" "Z" ≠ RoadKit.slotOf Z "tabula/engine/Role" "universal" "Z" := slot_ne (Or.inr (ow hw 310 rfl)) (Or.inr (ow hw 308 rfl)) (by decide) (t := .boolean) (t' := .boolean) (by decide) (by decide)
theorem sn47 {Z : State} {a0 : Array Value} (hw : HW a0 Z) : RoadKit.slotOf Z "tabula/engine/Role" "universal" "Z" ≠ RoadKit.slotOf Z "tabula/engine/Role" "inverted" "Z" := slot_ne (Or.inr (ow hw 308 rfl)) (Or.inr (ow hw 310 rfl)) (by decide) (t := .boolean) (t' := .boolean) (by decide) (by decide)
abbrev cP16_1 := prog_16_method_1_code
abbrev cJ56_3 := jdk_56_method_3_code
abbrev cJ38_9 := jdk_38_method_9_code
abbrev cJ38_55 := jdk_38_method_55_code
abbrev cJ49_1 := jdk_49_method_1_code
abbrev cJ49_2 := jdk_49_method_2_code
abbrev cP16_8 := prog_16_method_8_code
abbrev cJ38_25 := jdk_38_method_25_code
abbrev cJ38_24 := jdk_38_method_24_code
abbrev cJ38_6 := jdk_38_method_6_code
abbrev cJ38_16 := jdk_38_method_16_code
abbrev cJ65_119 := jdk_65_method_119_code
abbrev cJ65_120 := jdk_65_method_120_code
abbrev cJ40_47 := jdk_40_method_47_code
abbrev cJ44_2 := jdk_44_method_2_code
abbrev cJ49_3 := jdk_49_method_3_code
abbrev cJ49_6 := jdk_49_method_6_code
abbrev cJ44_5 := jdk_44_method_5_code
abbrev cJ56_4 := jdk_56_method_4_code
abbrev cJ45_1 := jdk_45_method_1_code
abbrev cP33_1 := prog_33_method_1_code
abbrev cJ44_1 := jdk_44_method_1_code
theorem mvMN {Z s : State} {a0 args : Array Value} {own host : String} {index : Nat} {y : MethodName} (hZ : Z.Warmed39 s.vm) (w : (Jvm.Cond.methodLinkNest own index y host).before a0 Z = true) : (Jvm.Cond.methodLinkNest own index y host).before args s = true := (Cond.methodLinkNest_wide hZ w :)
variable {p : Program} {l : Launch} {e : Env} {R : Room} {s : State} {m : MethodId} {args : Array Value} {below : List Frame} {meth : Method} {c : Code} {T0 : State} {locs : List Loc} {cells slots : Nat} {Z : State} {a0 : Array Value} {h0 : Heap} {n0 : Nat}
abbrev SG (p : Program) (l : Launch) (e : Env) (R : Room) (s : State) (m : MethodId) (args : Array Value) (below : List Frame) (meth : Method) (c : Code) (T0 : State) (locs : List Loc) (cells slots : Nat) (Z : State) (a0 : Array Value) (h0 : Heap) (n0 A B C D : Nat) : Prop := Stand p l e R s m args below meth c T0 locs cells slots ∧ p.tables.exec = Jvm.exec ∧ Z.Warmed39 s.vm ∧ HW a0 Z ∧ c.code = code ∧ c.maxLocals = 19 ∧ s.vm.findClass "tabula/engine/ConceptOperandsPinLaw" = some m.cls ∧ T0.heap = h0 ∧ Old Z n0 h0 ∧ Fr n0 locs ∧ cells + A ≤ R.cells ∧ slots + B ≤ R.slots ∧ C ≤ R.frames ∧ D ≤ R.locals
theorem own_in {l : Launch} {y : MethodName} {bytes : ByteArray} {ml : Nat} {ret : Option FieldType} {ws : List Jvm.Cond} {rm : Room} {Z : State} {as : Array Value} {h0 : Heap} {Q : Array Value → State → Outcome → State → Prop} (pn : plainFor y = true) (L0 : Array Slot) (ef : ∀ m, entryFrame m as ml = mkF m 0 L0 [])
    (H : ∀ (p : Program) (e : Env) (s : State) (m : MethodId) (below : List Frame) (meth : Method) (c : Code) (s₁ : State), BodyLoose p l y (head1 (Jvm.Cond.code y bytes ml ret :: ws) rm) bytes ml ret e s m as below meth c s₁ → p.tables.exec = Jvm.exec → c.code = bytes → c.maxLocals = ml → s.vm.findClass y.cls = some m.cls → meth.name = y.name → Z.Warmed39 s.vm → s₁.heap = h0 → Stand p l e rm s m as below meth c s₁ [] 0 0 →
      ∃ s₂ o, Steps p.tables e below (s₁.setTop (mkF m 0 L0 [])) s₂ ∧ s₂.status = .running ∧ Ended s₂ below o ∧ Q as s o s₂) :
    MetFree l y (head1 (Jvm.Cond.code y bytes ml ret :: ws) rm) (fun a U => a = as ∧ Z.Warmed39 U.vm ∧ U.heap = h0) (fun _ _ _ _ _ => True) Q := by
  refine MetFree.of_bodySF pn hisR ?_
  intro p e s m args below meth c s₁ Bd hml0 hP hK
  obtain ⟨rfl, hZ, hh⟩ := hP
  obtain ⟨s₂, o, h1, h2⟩ := H p e s m below meth c s₁ Bd Bd.exec Bd.bytes hml0 (findClass_of_methodNamed Bd.named) (name_of_methodNamed Bd.named Bd.method).1 hZ (by rw [← hh, Bd.state]; rfl) (Stand.of_body Bd)
  exact ⟨s₂, o, castTop (ef m) h1, h2⟩
abbrev St (p : Program) (e : Env) (below : List Frame) (T : State) (m : MethodId) (pc : Nat) (Ls : Array Slot) (st : List Value) (t : State) : Prop := Steps p.tables e below (T.setTop (mkF m pc Ls st)) t
theorem own_ord {args : Array Value} {s : State} {t : Term} {C n d : String} {k : Int32} {a : Addr} (ev : t.eval args s none [] s = some (.ref a)) (h : (Jvm.Cond.eq (Term.field t C n d) (Term.int k)).value args s none s [] = some true) : Fld s s.heap a C n d (.int k) := by
  refine Fld.start ?_
  obtain ⟨_, y, h1, h2, _, h4⟩ := cmp_v (Or.inl h)
  have h5 := h1
  rw [fld_at ev] at h1
  have e2 : y = .int k := (Option.some.inj ((Term.int_eval k).symm.trans h2)).symm
  subst e2
  obtain ⟨_, rfl⟩ := h4
  have q := gotT (Cond.eq_ints h5 h2) h
  rw [h1, q]
theorem own_nsr {Z : State} {a0 : Array Value} {O K : String} {n : Nat} (w : (Jvm.Cond.noSuperclass O).before a0 Z = true) (wk : (Jvm.Cond.instantiable K n).before a0 Z = true) (hn : O ≠ K) : NS Z O K := by
  obtain ⟨c, _, h1, h2, h3, -, -⟩ := Cond.noSuperclass_spec w
  obtain ⟨t, _, g1, -⟩ := Cond.instantiable_spec wk
  have ne := ids_ne h1 g1 hn
  refine ⟨c, t, h1, g1, fun fuel => ?_⟩
  cases fuel with
  | zero => rfl
  | succ f => simp [Vm.isSubclassAux, ne, h2, h3]
theorem own_nsn {Z : State} {a0 : Array Value} {C S K : String} {n : Nat} (w : (Jvm.Cond.superclass C S).before a0 Z = true) (wk : (Jvm.Cond.instantiable K n).before a0 Z = true) (m : NS Z C K) (hn : C ≠ K) : ∃ c t, Z.vm.findClass C = some c ∧ Z.vm.findClass K = some t ∧ Z.vm.assignable c t = false := by
  obtain ⟨c, t, h0, g0, n3⟩ := m
  obtain ⟨_, _, _, _, h2, _, _, h5, -, _⟩ := Cond.superclass_spec h0 w
  obtain ⟨_, k', g1, g2, g5, g7, -⟩ := Cond.instantiable_spec wk
  cases g0.symm.trans g1
  have g8 : k'.isInterface = false := by simp only [Bool.or_eq_false_iff] at g7; exact g7.1
  have ne := ids_ne h0 g0 hn
  refine ⟨c, t, h0, g0, ?_⟩
  show Z.vm.assignableAux (255 + 1) c t = false
  simp [Vm.assignableAux, ne, h2, g2, h5, g5, g8, Vm.isSubclass, n3]
def Mi (Z : State) (C : String) (m : Addr) : Prop := ∃ (c : ClassId) (k : Class), Z.vm.findClass C = some c ∧ Z.vm.classes[c]? = some k ∧ k.mirror = some m
section Mirrors
variable {p : Program} {l : Launch} {e : Env} {R : Room} {s : State} {m : MethodId} {args : Array Value} {below : List Frame} {meth : Method} {c : Code} {T : State} {locs : List Loc} {cells slots : Nat} {Z : State} {h : Heap} {a : Addr} {a0 : Array Value}
theorem own_ldcM (X : Stand p l e R s m args below meth c T locs cells slots) (hx : p.tables.exec = Jvm.exec) (hZ : Z.Warmed39 s.vm) {own C : String} {index : Nat} (hown : s.vm.findClass own = some m.cls) (w : (Jvm.Cond.classLink own index C).before a0 Z = true) (eT : T.heap = h) {mr : Addr} (M : Mi Z C mr)
    {g : JFrame} (hg : g.method = m) (hd : decode c.code g.pc = .ok (.ldc index, 2)) : ∃ T', Stand p l e R s m args below meth c T' locs cells slots ∧ T'.heap = h ∧ ∀ target, Steps p.tables e below (T'.setTop { g with pc := g.pc + 2, stack := .ref mr :: g.stack }) target → Steps p.tables e below (T.setTop g) target := by
  obtain ⟨cc, _, m1, m2, m3⟩ := M
  obtain ⟨k', q, ek⟩ := hZ.alike.2.2 _ _ m2
  have f : s.vm.findClass C = some cc := by rw [hZ.alike.findClass]; exact m1
  have mk : k'.mirror = some mr := by rw [ek]; exact m3
  have hev : (Term.mirror C).eval args s none [] s = some (.ref mr) := by simp [Term.eval, f, q, mk]
  obtain ⟨_, X', st⟩ := X.ldcMirror hx hown (mv hZ w) hev hg hd
  exact ⟨_, X', eT, st⟩
theorem own_gcls (X : Stand p l e R s m args below meth c T locs cells slots) (hx : p.tables.exec = Jvm.exec) (hZ : Z.Warmed39 s.vm) {own C : String} {index : Nat} (hown : s.vm.findClass own = some m.cls)
    (w1 : (Jvm.Cond.methodLink own index ⟨"java/lang/Object", "getClass", "()Ljava/lang/Class;"⟩).before a0 Z = true) (w2 : (Jvm.Cond.declares ⟨"java/lang/Object", "getClass", "()Ljava/lang/Class;"⟩).before a0 Z = true) (w3 : (Jvm.Cond.noSuperclass "java/lang/Object").before a0 Z = true) (w4 : (Jvm.Cond.selects C ⟨"java/lang/Object", "getClass", "()Ljava/lang/Class;"⟩ ⟨"java/lang/Object", "getClass", "()Ljava/lang/Class;"⟩).before a0 Z = true)
    (w5 : (Jvm.Cond.instanceMethod ⟨"java/lang/Object", "getClass", "()Ljava/lang/Class;"⟩).before a0 Z = true) (w6 : (Jvm.Cond.native ⟨"java/lang/Object", "getClass", "()Ljava/lang/Class;"⟩).before a0 Z = true) (eT : T.heap = h) (E : Exa Z h a C) {mr : Addr} (M : Mi Z C mr)
    {g : JFrame} (hg : g.method = m) (hsize : g.locals.size = c.maxLocals) {rest : List Value} (hs : g.stack = .ref a :: rest) (hd : decode c.code g.pc = .ok (.invokevirtual index, 3)) (hf : 1 ≤ R.frames) {W : Nat} (hW : 2 * g.monitorRoom + (rest.map fun v => v.category).sum ≤ W) (hl : W + 14 ≤ R.locals) :
    ∃ T', Stand p l e R s m args below meth c T' locs cells slots ∧ T'.heap = h ∧ ∀ target, Steps p.tables e below (T'.setTop { g with pc := g.pc + 3, stack := .ref mr :: rest }) target → Steps p.tables e below (T.setTop g) target := by
  obtain ⟨_, _, i1, _, i3⟩ := isOf hZ eT E
  obtain ⟨_, _, m1, m2, m3⟩ := M
  rw [hZ.alike.findClass] at i1
  cases i1.symm.trans m1
  obtain ⟨_, q, ek⟩ := hZ.alike.2.2 _ _ m2
  have e3 : nativeFrameWords "java/lang/Object" "getClass" 1 = 3 := by decide +kernel
  obtain ⟨_, X', st⟩ := X.getClassOf hx hown (mvT hZ w1) (mvT hZ w2) (nf_top (args := #[]) (mvT hZ w3)) (mvT hZ w4) (mvT hZ w5) (mvT hZ w6) (by rw [hZ.alike.findClass]; exact m1) i3 q (by rw [ek]; exact m3) hg hsize hs hd hf (by omega)
  exact ⟨_, X', eT, st⟩
end Mirrors
theorem own_since {s : State} {vm : Vm} {n n' : Nat} (h : s.Since vm n) (hn : n ≤ n') : s.Since vm n' := ⟨h.1, fun j p hj hp => ⟨(h.2 j p hj hp).1, Nat.lt_of_lt_of_le (h.2 j p hj hp).2 hn⟩⟩
theorem own_sti {args : Array Value} {s : State} {t : Term} {k : Int32} (h : (Jvm.Cond.eq t (Term.int k)).value args s none s [] = some true) : t.eval args s none [] s = some (.int k) := by
  obtain ⟨_, y, h1, h2, _, h4⟩ := cmp_v (Or.inl h)
  have e2 : y = .int k := (Option.some.inj ((Term.int_eval k).symm.trans h2)).symm
  subst e2
  obtain ⟨_, rfl⟩ := h4
  rw [h1, gotT (Cond.eq_ints h1 h2) h]
theorem own_len {args : Array Value} {s : State} {t : Term} {a : Addr} {cl : Cell} {ty : FieldType} {n : Int32} (ev : t.eval args s none [] s = some (.ref a)) (A : Arr s s.heap a cl ty) (h : (Jvm.Cond.eq (Term.length t) (Term.int n)).value args s none s [] = some true) : cl.slots.size < 2 ^ 31 ∧ cl.slots.size.toInt32 = n := by
  have e := own_sti h
  have q := A.fin (Vm.Alike.refl _)
  have l := SBG.length_lt ev q e
  rw [len_f ev q l] at e
  exact ⟨l, Value.int.inj (Option.some.inj e)⟩
abbrev Base (Z : State) (w0 w1 w2 w3 w4 w5 w6 w7 w8 w9 w10 w11 w12 w13 w14 : Addr) (k_w10 k_w11 k_w13 : ClassId) (wMir : Addr) : Prop := (Sta Z Z.heap "tabula/engine/Concept$Kind" "TOP" "Ltabula/engine/Concept$Kind;" (.ref w0) ∧ Exa Z Z.heap w0 "tabula/engine/Concept$Kind" ∧ Sta Z Z.heap "tabula/engine/Concept$Kind" "NAME" "Ltabula/engine/Concept$Kind;" (.ref w1) ∧ Exa Z Z.heap w1 "tabula/engine/Concept$Kind" ∧ Sta Z Z.heap "tabula/engine/Concept$Kind" "AND" "Ltabula/engine/Concept$Kind;" (.ref w2) ∧ Exa Z Z.heap w2 "tabula/engine/Concept$Kind" ∧ Sta Z Z.heap "tabula/engine/Concept$Kind" "OR" "Ltabula/engine/Concept$Kind;" (.ref w3) ∧ Exa Z Z.heap w3 "tabula/engine/Concept$Kind" ∧ Sta Z Z.heap "tabula/engine/Concept$Kind" "BOTTOM" "Ltabula/engine/Concept$Kind;" (.ref w4) ∧ Exa Z Z.heap w4 "tabula/engine/Concept$Kind" ∧ Sta Z Z.heap "tabula/engine/Concept$Kind" "AT_LEAST" "Ltabula/engine/Concept$Kind;" (.ref w5) ∧ Exa Z Z.heap w5 "tabula/engine/Concept$Kind") ∧ (Sta Z Z.heap "tabula/engine/Concept$Kind" "NEGATED_NAME" "Ltabula/engine/Concept$Kind;" (.ref w6) ∧ Exa Z Z.heap w6 "tabula/engine/Concept$Kind" ∧ Sta Z Z.heap "tabula/engine/Concept$Kind" "SOME" "Ltabula/engine/Concept$Kind;" (.ref w7) ∧ Exa Z Z.heap w7 "tabula/engine/Concept$Kind" ∧ Sta Z Z.heap "tabula/engine/Concept$Kind" "ALL" "Ltabula/engine/Concept$Kind;" (.ref w8) ∧ Exa Z Z.heap w8 "tabula/engine/Concept$Kind" ∧ Sta Z Z.heap "tabula/engine/Concept$Kind" "AT_MOST" "Ltabula/engine/Concept$Kind;" (.ref w9) ∧ Exa Z Z.heap w9 "tabula/engine/Concept$Kind" ∧ Sta Z Z.heap "java/util/ArrayList" "EMPTY_ELEMENTDATA" "[Ljava/lang/Object;" (.ref w10) ∧ Exa Z Z.heap w10 "[Ljava/lang/Object;" ∧ Sta Z Z.heap "java/util/ArrayList" "DEFAULTCAPACITY_EMPTY_ELEMENTDATA" "[Ljava/lang/Object;" (.ref w11) ∧ Exa Z Z.heap w11 "[Ljava/lang/Object;") ∧ (Sta Z Z.heap "java/util/ImmutableCollections" "EMPTY_LIST" "Ljava/util/ImmutableCollections$ListN;" (.ref w12) ∧ Exa Z Z.heap w12 "java/util/ImmutableCollections$ListN" ∧ Fld Z Z.heap w12 "java/util/ImmutableCollections$ListN" "elements" "[Ljava/lang/Object;" (.ref w13) ∧ Exa Z Z.heap w13 "[Ljava/lang/Object;" ∧ Sta Z Z.heap "java/util/ImmutableCollections" "EMPTY" "Ljava/lang/Object;" (.ref w14) ∧ Exa Z Z.heap w14 "java/lang/Object" ∧ Sta Z Z.heap "java/util/ImmutableCollections" "$assertionsDisabled" "Z" (.int (1:Int32)) ∧ Fld Z Z.heap w0 "java/lang/Enum" "ordinal" "I" (.int (0:Int32)) ∧ Fld Z Z.heap w2 "java/lang/Enum" "ordinal" "I" (.int (4:Int32)) ∧ Fld Z Z.heap w3 "java/lang/Enum" "ordinal" "I" (.int (5:Int32)) ∧ Fld Z Z.heap w4 "java/lang/Enum" "ordinal" "I" (.int (1:Int32)) ∧ Fld Z Z.heap w5 "java/lang/Enum" "ordinal" "I" (.int (8:Int32))) ∧ (Fld Z Z.heap w6 "java/lang/Enum" "ordinal" "I" (.int (3:Int32)) ∧ Fld Z Z.heap w7 "java/lang/Enum" "ordinal" "I" (.int (6:Int32)) ∧ Fld Z Z.heap w8 "java/lang/Enum" "ordinal" "I" (.int (7:Int32)) ∧ Fld Z Z.heap w9 "java/lang/Enum" "ordinal" "I" (.int (9:Int32)) ∧ Fld Z Z.heap w1 "java/lang/Enum" "ordinal" "I" (.int (2:Int32)) ∧ Fld Z Z.heap w12 "java/util/ImmutableCollections$ListN" "allowNulls" "Z" (.int (0:Int32)) ∧ Arv Z Z.heap w10 k_w10 (.object "java/lang/Object") (0:Int32) [] .null ∧ Arv Z Z.heap w11 k_w11 (.object "java/lang/Object") (0:Int32) [] .null ∧ Arv Z Z.heap w13 k_w13 (.object "java/lang/Object") (0:Int32) [] .null ∧ w0 ≠ w1 ∧ w0 ≠ w2 ∧ w0 ≠ w3) ∧ (w0 ≠ w4 ∧ w0 ≠ w5 ∧ w0 ≠ w6 ∧ w0 ≠ w7 ∧ w0 ≠ w8 ∧ w0 ≠ w9 ∧ w0 ≠ w10 ∧ w0 ≠ w11 ∧ w0 ≠ w12 ∧ w0 ≠ w13 ∧ w0 ≠ w14 ∧ w1 ≠ w2) ∧ (w1 ≠ w3 ∧ w1 ≠ w4 ∧ w1 ≠ w5 ∧ w1 ≠ w6 ∧ w1 ≠ w7 ∧ w1 ≠ w8 ∧ w1 ≠ w9 ∧ w1 ≠ w10 ∧ w1 ≠ w11 ∧ w1 ≠ w12 ∧ w1 ≠ w13 ∧ w1 ≠ w14) ∧ (w2 ≠ w3 ∧ w2 ≠ w4 ∧ w2 ≠ w5 ∧ w2 ≠ w6 ∧ w2 ≠ w7 ∧ w2 ≠ w8 ∧ w2 ≠ w9 ∧ w2 ≠ w10 ∧ w2 ≠ w11 ∧ w2 ≠ w12 ∧ w2 ≠ w13 ∧ w2 ≠ w14) ∧ (w3 ≠ w4 ∧ w3 ≠ w5 ∧ w3 ≠ w6 ∧ w3 ≠ w7 ∧ w3 ≠ w8 ∧ w3 ≠ w9 ∧ w3 ≠ w10 ∧ w3 ≠ w11 ∧ w3 ≠ w12 ∧ w3 ≠ w13 ∧ w3 ≠ w14 ∧ w4 ≠ w5) ∧ (w4 ≠ w6 ∧ w4 ≠ w7 ∧ w4 ≠ w8 ∧ w4 ≠ w9 ∧ w4 ≠ w10 ∧ w4 ≠ w11 ∧ w4 ≠ w12 ∧ w4 ≠ w13 ∧ w4 ≠ w14 ∧ w5 ≠ w6 ∧ w5 ≠ w7 ∧ w5 ≠ w8) ∧ (w5 ≠ w9 ∧ w5 ≠ w10 ∧ w5 ≠ w11 ∧ w5 ≠ w12 ∧ w5 ≠ w13 ∧ w5 ≠ w14 ∧ w6 ≠ w7 ∧ w6 ≠ w8 ∧ w6 ≠ w9 ∧ w6 ≠ w10 ∧ w6 ≠ w11 ∧ w6 ≠ w12) ∧ (w6 ≠ w13 ∧ w6 ≠ w14 ∧ w7 ≠ w8 ∧ w7 ≠ w9 ∧ w7 ≠ w10 ∧ w7 ≠ w11 ∧ w7 ≠ w12 ∧ w7 ≠ w13 ∧ w7 ≠ w14 ∧ w8 ≠ w9 ∧ w8 ≠ w10 ∧ w8 ≠ w11) ∧ (w8 ≠ w12 ∧ w8 ≠ w13 ∧ w8 ≠ w14 ∧ w9 ≠ w10 ∧ w9 ≠ w11 ∧ w9 ≠ w12 ∧ w9 ≠ w13 ∧ w9 ≠ w14 ∧ w10 ≠ w12 ∧ w10 ≠ w14 ∧ w11 ≠ w12 ∧ w11 ≠ w14) ∧ (w12 ≠ w13 ∧ w12 ≠ w14 ∧ w13 ≠ w14 ∧ Mi Z "[Ljava/lang/Object;" wMir)
theorem d0_0 : dk method_2_code 0 (.iload_n 0) 1 := by decide +kernel
theorem d0_1 : dk method_2_code 1 (.ifCond .ne 7) 3 := by decide +kernel
theorem d0_4 : dk method_2_code 4 (.getstatic 7) 3 := by decide +kernel
theorem d0_7 : dk method_2_code 7 .areturn 1 := by decide +kernel
abbrev y0 : MethodName := ⟨"tabula/engine/ConceptOperandsPinLaw", "kindOf", "(I)Ltabula/engine/Concept$Kind;"⟩
theorem pn4 : plainName "tabula/engine/ConceptOperandsPinLaw" = true := by first | (simp [plainName, overriddenIn]; done) | decide +kernel
def r0_1Q (Z : State) (a1 : Addr) (h0 : Heap) (n0 : Nat) : QT := fun v h L => v = some (.ref a1) ∧ Fr n0 L ∧ h = h0
theorem r0_1 (hw : HW a0 Z) (a1 : Addr) (O0 : Old Z n0 h0) (H2 : Sta Z Z.heap "tabula/engine/Concept$Kind" "TOP" "Ltabula/engine/Concept$Kind;" (.ref a1)) :
    MF l y0 method_2_code 1 (some (.object "tabula/engine/Concept$Kind")) [] (rM 0 0 0 0) Z #[(.int (0:Int32))] h0 (r0_1Q Z a1 h0 n0) := by
  refine own_in (pq pn4) #[iv (0:Int32)] (fun _ => by first | (simp [entryFrame, mkF, argsToLocals, Value.category]; done) | rfl) ?_
  intro p e s m below meth c s₁ Bd hx hby hml hown hnm hZ e0 X0
  have N0 := Fr.nil n0
  obtain ⟨_, X3, e3, st3⟩ := getS2 X0 hx hZ hown (host := "") (Or.inl (ow hw 5 rfl)) Via.refl e0 (H2.ext O0.2) (g := (mkF m 4 #[iv (0:Int32)] [])) rfl (hb hby d0_4)
  refine fin (Q := r0_1Q Z a1 h0 n0) (rm := (rM 0 0 0 0)) Bd X3 e3 (some (.ref a1)) nofun ⟨rfl, N0, rfl⟩ (by decide) (by decide) fun fs hr => ?_
  show St p e below s₁ m 0 #[iv (0:Int32)] [] _
  refine iN X0 hx hby d0_0 rfl ?_
  refine XS.ifNo X0.here hx rfl (hb hby d0_1) rfl ((if0 _ _).trans (teq (rfl : (0:Int32) = (0:Int32))).2) ?_
  refine st3 _ ?_
  exact retA X3 hx Bd.returns rfl rfl (hb hby d0_7) hr
theorem pd9 : parseMethodDescriptor "(I)Ltabula/engine/Concept$Kind;" = some ⟨[.int], some (.object "tabula/engine/Concept$Kind")⟩ := by decide +kernel
theorem g1_1 (p1 p2 p3 p4:Int32) (a5 : Addr)
    (H0 : SG p l e R s m args below meth c T0 locs cells slots Z a0 h0 n0 0 0 0 0) (hc6 : ¬ (p4 = (4:Int32))) (hc7 : ¬ (p4 = (5:Int32))) (hc8 : p4 < (6:Int32)) :
    ∃ (T' : State) (L' : List Loc), Stand p l e R s m args below meth c T' L' (cells + 0) (slots + 0) ∧ T'.heap = h0 ∧ Fr n0 L' ∧
      ∀ target, St p e below T' m 44 #[iv p1, iv p2, iv p3, iv p4, rv a5, iv (0:Int32), iv (0:Int32), un, un, un, un, un, un, un, un, un, un, un, un] [] target → St p e below T0 m 14 #[iv p1, iv p2, iv p3, iv p4, rv a5, un, un, un, un, un, un, un, un, un, un, un, un, un, un] [] target := by
  obtain ⟨X0, hx, hZ, hw, hby, hml, hown, e0, O0, N0, rc, rs, rf, rl⟩ := H0
  refine ⟨T0, _, X0.more (by omega) (by omega), e0, N0, fun target kt => ?_⟩
  show St p e below T0 m 14 #[iv p1, iv p2, iv p3, iv p4, rv a5, un, un, un, un, un, un, un, un, un, un, un, un, un, un] [] _
  refine iN X0 hx hby at_14 rfl ?_
  refine iC X0 hx hby at_15 ?_
  refine XS.icmpNo X0.here hx rfl (hb hby at_16) rfl (feq hc6).1 ?_
  refine iN X0 hx hby at_19 rfl ?_
  refine iC X0 hx hby at_20 ?_
  refine XS.icmpYes X0.here hx rfl (pc0 := 21) (pc' := 28) rfl (hb hby at_21) rfl (feq hc7).2 (by decide) (by decide) ?_
  refine iC X0 hx hby at_28 ?_
  refine XS.istore X0.here hx rfl (hb hby at_29) rfl (l' := #[iv p1, iv p2, iv p3, iv p4, rv a5, iv (0:Int32), un, un, un, un, un, un, un, un, un, un, un, un, un]) rfl ?_
  refine iN X0 hx hby at_31 rfl ?_
  refine XS.bipush X0.here hx rfl (hb hby at_32) ?_
  refine XS.icmpYes X0.here hx rfl (pc0 := 34) (pc' := 41) rfl (hb hby at_34) rfl (tlt hc8).1 (by decide) (by decide) ?_
  refine iC X0 hx hby at_41 ?_
  refine XS.istore X0.here hx rfl (hb hby at_42) rfl (l' := #[iv p1, iv p2, iv p3, iv p4, rv a5, iv (0:Int32), iv (0:Int32), un, un, un, un, un, un, un, un, un, un, un, un]) rfl ?_
  exact kt
theorem d2_0 : dk jdk_38_method_2_code 0 (.aload_n 0) 1 := by decide +kernel
theorem d2_1 : dk jdk_38_method_2_code 1 (.invokespecial 1) 3 := by decide +kernel
theorem d3_0 : dk jdk_39_method_1_code 0 (.aload_n 0) 1 := by decide +kernel
theorem d3_1 : dk jdk_39_method_1_code 1 (.invokespecial 1) 3 := by decide +kernel
theorem d4_0 : dk jdk_22_method_1_code 0 (.aload_n 0) 1 := by decide +kernel
theorem d4_1 : dk jdk_22_method_1_code 1 (.invokespecial 1) 3 := by decide +kernel
theorem d4_4 : dk jdk_22_method_1_code 4 .return_ 1 := by decide +kernel
abbrev y4 : MethodName := ⟨"java/util/AbstractCollection", "<init>", "()V"⟩
theorem pn6 : plainName "java/util/AbstractCollection" = true := by first | (simp [plainName, overriddenIn]; done) | decide +kernel
def r4_1Q (Z : State) (a1 : Addr) (h0 : Heap) (n0 : Nat) : QT := fun v h L => v = none ∧ Fr n0 L ∧ h = h0
theorem r4_1 (hw : HW a0 Z) (a1 : Addr) (O0 : Old Z n0 h0) :
    MF l y4 jdk_22_method_1_code 1 none [] (rM 1 0 0 12) Z #[(.ref a1)] h0 (r4_1Q Z a1 h0 n0) := by
  refine own_in (pq pn6) #[rv a1] (fun _ => by first | (simp [entryFrame, mkF, argsToLocals, Value.category]; done) | rfl) ?_
  intro p e s m below meth c s₁ Bd hx hby hml hown hnm hZ e0 X0
  have N0 := Fr.nil n0
  obtain ⟨_, X2, e2, st2⟩ := initO X0 hx hZ hown (ow hw 26 rfl) (ow hw 27 rfl) (ow hw 28 rfl) e0 (g := (mkF m 1 #[rv a1] [(.ref a1)])) rfl (by rw [hml]; rfl) rfl (hb hby d4_1) (by decide) (W := 0) wf (by decide)
  refine fin (Q := r4_1Q Z a1 h0 n0) (rm := (rM 1 0 0 12)) Bd X2 e2 (none) (fun _ => rfl) ⟨rfl, N0, rfl⟩ (by decide) (by decide) fun fs hr => ?_
  show St p e below s₁ m 0 #[rv a1] [] _
  refine aN X0 hx hby d4_0 rfl rfl ?_
  refine st2 _ ?_
  exact X2.returnOut hx Bd.returns (hb hby d4_4) hr
theorem pd22 : parseMethodDescriptor "()V" = some ⟨[], none⟩ := by decide +kernel
theorem d3_4 : dk jdk_39_method_1_code 4 (.aload_n 0) 1 := by decide +kernel
theorem d3_5 : dk jdk_39_method_1_code 5 (.iconst 0) 1 := by decide +kernel
theorem d3_6 : dk jdk_39_method_1_code 6 (.putfield 7) 3 := by decide +kernel
abbrev xF0 (Z : State) (h : Heap) (a : Addr) (v : Value) : Prop := Fld Z h a "java/util/AbstractList" "modCount" "I" v
abbrev xE1 (Z : State) (h : Heap) (a : Addr) : Prop := Exa Z h a "java/util/ArrayList"
theorem d3_9 : dk jdk_39_method_1_code 9 .return_ 1 := by decide +kernel
abbrev xF2 (Z : State) (h : Heap) (a : Addr) (v : Value) : Prop := Fld Z h a "java/util/ArrayList" "elementData" "[Ljava/lang/Object;" v
abbrev xF3 (Z : State) (h : Heap) (a : Addr) (v : Value) : Prop := Fld Z h a "java/util/ArrayList" "size" "I" v
abbrev y3 : MethodName := ⟨"java/util/AbstractList", "<init>", "()V"⟩
theorem pn8 : plainName "java/util/AbstractList" = true := by first | (simp [plainName, overriddenIn]; done) | decide +kernel
def r3_1Q (Z : State) (a1 : Addr) (h0 : Heap) (n0 : Nat) : QT := fun v h L => v = none ∧ Fr n0 L ∧ Keep h0 h [a1] ∧ xF0 Z h a1 (.int (0:Int32)) ∧ xE1 Z h a1 ∧ xF2 Z h a1 .null ∧ xF3 Z h a1 (.int (0:Int32))
theorem r3_1 (hw : HW a0 Z) (a1 : Addr) (O0 : Old Z n0 h0) (H3 : xF0 Z h0 a1 (.int (0:Int32))) (H4 : xE1 Z h0 a1) (H6 : n0 ≤ a1) (H9 : xF2 Z h0 a1 .null) (H12 : xF3 Z h0 a1 (.int (0:Int32))) :
    MF l y3 jdk_39_method_1_code 1 none [] (rM 2 0 0 24) Z #[(.ref a1)] h0 (r3_1Q Z a1 h0 n0) := by
  refine own_in (pq pn8) #[rv a1] (fun _ => by first | (simp [entryFrame, mkF, argsToLocals, Value.category]; done) | rfl) ?_
  intro p e s m below meth c s₁ Bd hx hby hml hown hnm hZ e0 X0
  have N0 := Fr.nil n0
  obtain ⟨_, _, _, X2, hQ2, st2⟩ := cP X0 hx hZ hw hown (y := y4) rfl 20 rfl 21 rfl 25 rfl 24 rfl (by decide) (W := 0) (r4_1 hw a1 O0) (by decide) (by decide) e0 (g := (mkF m 1 #[rv a1] [(.ref a1)])) rfl (by rw [hml]; rfl) (argsL := []) (rest := []) (lenOf pd22 rfl) rfl wf (hb hby d3_1) rfl (by decide) (by decide)
  obtain ⟨rfl, N2q, e2⟩ := hQ2
  have N2 := Fr.app N0 N2q
  obtain ⟨_, h5, X5, e5, W5, st5⟩ := pF X2 hx hZ hown (ow hw 29 rfl) e2 H3 H4 (Or.inl (ow hw 30 rfl)) (ow hw 9 rfl) (ty := .int) (by decide) rfl rfl (g := (mkF m 6 #[rv a1] [(.int (0:Int32)), (.ref a1)])) rfl rfl (hb hby d3_6)
  have Kp_W5 : Keep h0 h5 [a1] := (Keep.refl h0 [a1]).wr W5 (mI 0 rfl)
  have N7 := Fr.snoc X5 N2 H6
  have f8 := H3.same W5
  have f10 := (H4.wr W5)
  have f11 := (H9.other W5 (Or.inr (slot_ne (Or.inl (ow hw 33 rfl)) (Or.inl (ow hw 30 rfl)) (by decide) (t := (.array (.object "java/lang/Object"))) (t' := .int) (by decide) (by decide))))
  have f13 := (H12.other W5 (Or.inr (sn1 hw)))
  refine fin (Q := r3_1Q Z a1 h0 n0) (rm := (rM 2 0 0 24)) Bd X5 e5 (none) (fun _ => rfl) ⟨rfl, N7, Kp_W5, f8, f10, f11, f13⟩ (by decide) (by decide) fun fs hr => ?_
  show St p e below s₁ m 0 #[rv a1] [] _
  refine aN X0 hx hby d3_0 rfl rfl ?_
  refine st2.trans ?_
  refine aN X2 hx hby d3_4 rfl rfl ?_
  refine iC X2 hx hby d3_5 ?_
  refine st5 _ ?_
  exact X5.returnOut hx Bd.returns (hb hby d3_9) hr
theorem d2_4 : dk jdk_38_method_2_code 4 (.aload_n 0) 1 := by decide +kernel
theorem d2_5 : dk jdk_38_method_2_code 5 (.getstatic 39) 3 := by decide +kernel
theorem d2_8 : dk jdk_38_method_2_code 8 (.putfield 9) 3 := by decide +kernel
theorem d2_11 : dk jdk_38_method_2_code 11 .return_ 1 := by decide +kernel
abbrev y2 : MethodName := ⟨"java/util/ArrayList", "<init>", "()V"⟩
theorem pn10 : plainName "java/util/ArrayList" = true := by first | (simp [plainName, overriddenIn]; done) | decide +kernel
def r2_1Q (Z : State) (a1 a8 : Addr) (h0 : Heap) (n0 : Nat) : QT := fun v h L => v = none ∧ Fr n0 L ∧ Keep h0 h [a1] ∧ xF0 Z h a1 (.int (0:Int32)) ∧ xE1 Z h a1 ∧ xF2 Z h a1 (.ref a8) ∧ xF3 Z h a1 (.int (0:Int32))
theorem r2_1 (hw : HW a0 Z) (a1 a8 : Addr) (O0 : Old Z n0 h0) (H2 : xF0 Z h0 a1 (.int (0:Int32))) (H3 : xE1 Z h0 a1) (H4 : n0 ≤ a1) (H5 : xF2 Z h0 a1 .null) (H6 : xF3 Z h0 a1 (.int (0:Int32))) (H9 : Sta Z Z.heap "java/util/ArrayList" "DEFAULTCAPACITY_EMPTY_ELEMENTDATA" "[Ljava/lang/Object;" (.ref a8)) :
    MF l y2 jdk_38_method_2_code 1 none [] (rM 3 0 0 36) Z #[(.ref a1)] h0 (r2_1Q Z a1 a8 h0 n0) := by
  refine own_in (pq pn10) #[rv a1] (fun _ => by first | (simp [entryFrame, mkF, argsToLocals, Value.category]; done) | rfl) ?_
  intro p e s m below meth c s₁ Bd hx hby hml hown hnm hZ e0 X0
  have N0 := Fr.nil n0
  obtain ⟨T7, _, _, X7, hQ7, st7⟩ := cP X0 hx hZ hw hown (y := y3) rfl 14 rfl 15 rfl 19 rfl 18 rfl (by decide) (W := 0) (r3_1 hw a1 O0 H2 H3 H4 H5 H6) (by decide) (by decide) e0 (g := (mkF m 1 #[rv a1] [(.ref a1)])) rfl (by rw [hml]; rfl) (argsL := []) (rest := []) (lenOf pd22 rfl) rfl wf (hb hby d2_1) rfl (by decide) (by decide)
  obtain ⟨rfl, N7q, K7, f7_1, f7_2, f7_3, f7_4⟩ := hQ7
  have N7 := Fr.app N0 N7q
  have O_K7 : Old Z n0 T7.heap := O0.keep K7 (allS H4 all0)
  have Kp_K7 : Keep h0 T7.heap [a1] := (Keep.refl h0 [a1]).trans K7 (allS (mI 0 rfl) all0)
  obtain ⟨_, X10, e10, st10⟩ := getS2 X7 hx hZ hown (host := "") (Or.inl (ow hw 31 rfl)) Via.refl rfl (H9.ext O_K7.2) (g := (mkF m 5 #[rv a1] [(.ref a1)])) rfl (hb hby d2_5)
  obtain ⟨_, h11, X11, e11, W11, st11⟩ := pF X10 hx hZ hown (ow hw 32 rfl) e10 f7_3 f7_2 (Or.inl (ow hw 33 rfl)) (ow hw 9 rfl) (ty := (.array (.object "java/lang/Object"))) (by decide) rfl rfl (g := (mkF m 8 #[rv a1] [(.ref a8), (.ref a1)])) rfl rfl (hb hby d2_8)
  have Kp_W11 : Keep h0 h11 [a1] := Kp_K7.wr W11 (mI 0 rfl)
  have N12 := Fr.snoc X11 N7 H4
  have f13 := f7_3.same W11
  have f14 := (f7_2.wr W11)
  have f15 := (f7_1.other W11 (Or.inr (slot_ne (Or.inl (ow hw 30 rfl)) (Or.inl (ow hw 33 rfl)) (by decide) (t := .int) (t' := (.array (.object "java/lang/Object"))) (by decide) (by decide))))
  have f16 := (f7_4.other W11 (Or.inr (slot_ne (Or.inl (ow hw 85 rfl)) (Or.inl (ow hw 33 rfl)) (by decide) (t := .int) (t' := (.array (.object "java/lang/Object"))) (by decide) (by decide))))
  refine fin (Q := r2_1Q Z a1 a8 h0 n0) (rm := (rM 3 0 0 36)) Bd X11 e11 (none) (fun _ => rfl) ⟨rfl, N12, Kp_W11, f15, f14, f13, f16⟩ (by decide) (by decide) fun fs hr => ?_
  show St p e below s₁ m 0 #[rv a1] [] _
  refine aN X0 hx hby d2_0 rfl rfl ?_
  refine st7.trans ?_
  refine aN X7 hx hby d2_4 rfl rfl ?_
  refine st10 _ ?_
  refine st11 _ ?_
  exact X11.returnOut hx Bd.returns (hb hby d2_11) hr
theorem strW : ∀ a ∈ Bundle.stringAtoms, a ∈ tables_1 := by decide +kernel
theorem d5_0 : dk cP16_1 0 (.aload_n 0) 1 := by decide +kernel
theorem d5_1 : dk cP16_1 1 (.invokespecial 1) 3 := by decide +kernel
theorem d5_4 : dk cP16_1 4 (.aload_n 0) 1 := by decide +kernel
theorem d5_5 : dk cP16_1 5 (.iload_n 1) 1 := by decide +kernel
theorem d5_6 : dk cP16_1 6 (.putfield 7) 3 := by decide +kernel
abbrev xF4 (Z : State) (h : Heap) (a : Addr) (v : Value) : Prop := Fld Z h a "tabula/engine/Concept" "id" "I" v
abbrev xE5 (Z : State) (h : Heap) (a : Addr) : Prop := Exa Z h a "tabula/engine/Concept"
theorem d5_9 : dk cP16_1 9 (.aload_n 0) 1 := by decide +kernel
theorem d5_10 : dk cP16_1 10 (.aload_n 2) 1 := by decide +kernel
theorem d5_11 : dk cP16_1 11 (.putfield 13) 3 := by decide +kernel
abbrev xF6 (Z : State) (h : Heap) (a : Addr) (v : Value) : Prop := Fld Z h a "tabula/engine/Concept" "kind" "Ltabula/engine/Concept$Kind;" v
theorem d5_14 : dk cP16_1 14 (.aload_n 0) 1 := by decide +kernel
theorem d5_15 : dk cP16_1 15 (.aload_n 3) 1 := by decide +kernel
theorem d5_16 : dk cP16_1 16 (.putfield 17) 3 := by decide +kernel
abbrev xF7 (Z : State) (h : Heap) (a : Addr) (v : Value) : Prop := Fld Z h a "tabula/engine/Concept" "name" "Ljava/lang/String;" v
theorem d5_19 : dk cP16_1 19 (.aload_n 0) 1 := by decide +kernel
theorem d5_20 : dk cP16_1 20 (.aload 4) 2 := by decide +kernel
theorem d5_22 : dk cP16_1 22 (.putfield 21) 3 := by decide +kernel
abbrev xF8 (Z : State) (h : Heap) (a : Addr) (v : Value) : Prop := Fld Z h a "tabula/engine/Concept" "role" "Ltabula/engine/Role;" v
theorem d5_25 : dk cP16_1 25 (.aload_n 0) 1 := by decide +kernel
theorem d5_26 : dk cP16_1 26 (.iload 5) 2 := by decide +kernel
theorem d5_28 : dk cP16_1 28 (.putfield 25) 3 := by decide +kernel
abbrev xF9 (Z : State) (h : Heap) (a : Addr) (v : Value) : Prop := Fld Z h a "tabula/engine/Concept" "cardinality" "I" v
theorem d5_31 : dk cP16_1 31 (.aload_n 0) 1 := by decide +kernel
theorem d5_32 : dk cP16_1 32 (.aload 6) 2 := by decide +kernel
theorem d5_34 : dk cP16_1 34 (.invokestatic 28) 3 := by decide +kernel
theorem d6_0 : dk jdk_40_method_48_code 0 (.aload_n 0) 1 := by decide +kernel
theorem d6_1 : dk jdk_40_method_48_code 1 (.invokestatic 112) 3 := by decide +kernel
theorem d7_0 : dk cJ56_3 0 (.aload_n 0) 1 := by decide +kernel
theorem d7_1 : dk cJ56_3 1 (.instanceof 10) 3 := by decide +kernel
theorem d7_4 : dk cJ56_3 4 (.ifCond .ne 22) 3 := by decide +kernel
theorem d7_7 : dk cJ56_3 7 (.aload_n 0) 1 := by decide +kernel
theorem d7_8 : dk cJ56_3 8 (.instanceof 12) 3 := by decide +kernel
theorem d7_11 : dk cJ56_3 11 (.ifCond .eq 20) 3 := by decide +kernel
theorem d7_31 : dk cJ56_3 31 (.aload_n 0) 1 := by decide +kernel
theorem d7_32 : dk cJ56_3 32 (.invokeinterface 20 1) 5 := by decide +kernel
theorem d8_0 : dk cJ38_9 0 (.aload_n 0) 1 := by decide +kernel
theorem d8_1 : dk cJ38_9 1 (.getfield 48) 3 := by decide +kernel
theorem d8_4 : dk cJ38_9 4 (.ifCond .ne 7) 3 := by decide +kernel
theorem d8_7 : dk cJ38_9 7 (.iconst 1) 1 := by decide +kernel
theorem d8_8 : dk cJ38_9 8 (.goto 4) 3 := by decide +kernel
theorem d8_12 : dk cJ38_9 12 .ireturn 1 := by decide +kernel
abbrev y8 : MethodName := ⟨"java/util/ArrayList", "isEmpty", "()Z"⟩
def r8_1Q (Z : State) (a1 : Addr) (h0 : Heap) (n0 : Nat) : QT := fun v h L => v = some (.int (1:Int32)) ∧ Fr n0 L ∧ h = h0
theorem r8_1 (hw : HW a0 Z) (a1 : Addr) (O0 : Old Z n0 h0) (H2 : xF3 Z h0 a1 (.int (0:Int32))) :
    MF l y8 cJ38_9 1 (some .boolean) [] (rM 0 0 0 0) Z #[(.ref a1)] h0 (r8_1Q Z a1 h0 n0) := by
  refine own_in (pq pn10) #[rv a1] (fun _ => by first | (simp [entryFrame, mkF, argsToLocals, Value.category]; done) | rfl) ?_
  intro p e s m below meth c s₁ Bd hx hby hml hown hnm hZ e0 X0
  have N0 := Fr.nil n0
  obtain ⟨_, X3, e3, st3⟩ := gF X0 hx hZ hown (ow hw 84 rfl) e0 H2 (g := (mkF m 1 #[rv a1] [(.ref a1)])) rfl rfl (hb hby d8_1)
  refine fin (Q := r8_1Q Z a1 h0 n0) (rm := (rM 0 0 0 0)) Bd X3 e3 (some (.int (1:Int32))) nofun ⟨rfl, N0, rfl⟩ (by decide) (by decide) fun fs hr => ?_
  show St p e below s₁ m 0 #[rv a1] [] _
  refine aN X0 hx hby d8_0 rfl rfl ?_
  refine st3 _ ?_
  refine XS.ifNo X3.here hx rfl (hb hby d8_4) rfl ((if0 _ _).trans (teq (rfl : (0:Int32) = (0:Int32))).2) ?_
  refine iC X3 hx hby d8_7 ?_
  refine XS.goto X3.here hx rfl (pc0 := 8) (pc' := 12) rfl (hb hby d8_8) (by decide) (by decide) ?_
  exact retN X3 hx (t := .boolean) Bd.returns (by simp) (hb hby d8_12) hr
theorem pd23 : parseMethodDescriptor "()Z" = some ⟨[], some .boolean⟩ := by decide +kernel
abbrev y9 : MethodName := ⟨"java/util/Collection", "isEmpty", "()Z"⟩
theorem d7_37 : dk cJ56_3 37 (.ifCond .eq 7) 3 := by decide +kernel
theorem d7_40 : dk cJ56_3 40 (.invokestatic 26) 3 := by decide +kernel
theorem d10_0 : dk jdk_40_method_36_code 0 (.getstatic 90) 3 := by decide +kernel
theorem d10_3 : dk jdk_40_method_36_code 3 .areturn 1 := by decide +kernel
abbrev y10 : MethodName := ⟨"java/util/List", "of", "()Ljava/util/List;"⟩
theorem pn15 : plainName "java/util/List" = true := by first | (simp [plainName, overriddenIn]; done) | decide +kernel
def r10_1Q (Z : State) (a1 : Addr) (h0 : Heap) (n0 : Nat) : QT := fun v h L => v = some (.ref a1) ∧ Fr n0 L ∧ h = h0
theorem r10_1 (hw : HW a0 Z) (a1 : Addr) (O0 : Old Z n0 h0) (H2 : Sta Z Z.heap "java/util/ImmutableCollections" "EMPTY_LIST" "Ljava/util/ImmutableCollections$ListN;" (.ref a1)) :
    MF l y10 jdk_40_method_36_code 0 (some (.object "java/util/List")) [] (rM 0 0 0 0) Z #[] h0 (r10_1Q Z a1 h0 n0) := by
  refine own_in (pq pn15) #[] (fun _ => by first | (simp [entryFrame, mkF, argsToLocals, Value.category]; done) | rfl) ?_
  intro p e s m below meth c s₁ Bd hx hby hml hown hnm hZ e0 X0
  have N0 := Fr.nil n0
  obtain ⟨_, X3, e3, st3⟩ := getS2 X0 hx hZ hown (host := "") (Or.inl (ow hw 89 rfl)) Via.refl e0 (H2.ext O0.2) (g := (mkF m 0 #[] [])) rfl (hb hby d10_0)
  refine fin (Q := r10_1Q Z a1 h0 n0) (rm := (rM 0 0 0 0)) Bd X3 e3 (some (.ref a1)) nofun ⟨rfl, N0, rfl⟩ (by decide) (by decide) fun fs hr => ?_
  show St p e below s₁ m 0 #[] [] _
  refine st3 _ ?_
  exact retA X3 hx Bd.returns rfl rfl (hb hby d10_3) hr
theorem pd20 : parseMethodDescriptor "()Ljava/util/List;" = some ⟨[], some (.object "java/util/List")⟩ := by decide +kernel
theorem d7_43 : dk cJ56_3 43 .areturn 1 := by decide +kernel
abbrev y7 : MethodName := ⟨"java/util/ImmutableCollections", "listCopy", "(Ljava/util/Collection;)Ljava/util/List;"⟩
theorem pn5 : plainName "java/util/ImmutableCollections" = true := by first | (simp [plainName, overriddenIn]; done) | decide +kernel
def r7_1Q (Z : State) (a1 a7 : Addr) (h0 : Heap) (n0 : Nat) : QT := fun v h L => v = some (.ref a7) ∧ Fr n0 L ∧ h = h0
theorem r7_1 (hw : HW a0 Z) (a1 a7 : Addr) (O0 : Old Z n0 h0) (H3 : xE1 Z h0 a1) (H5 : xF3 Z h0 a1 (.int (0:Int32))) (H8 : Sta Z Z.heap "java/util/ImmutableCollections" "EMPTY_LIST" "Ljava/util/ImmutableCollections$ListN;" (.ref a7)) :
    MF l y7 cJ56_3 2 (some (.object "java/util/List")) [] (rM 1 0 0 12) Z #[(.ref a1)] h0 (r7_1Q Z a1 a7 h0 n0) := by
  refine own_in (pq pn5) #[rv a1, un] (fun _ => by first | (simp [entryFrame, mkF, argsToLocals, Value.category]; done) | rfl) ?_
  intro p e s m below meth c s₁ Bd hx hby hml hown hnm hZ e0 X0
  have N0 := Fr.nil n0
  obtain ⟨_, X2, e2, st2⟩ := instNo X0 hx hZ hown (ow hw 69 rfl) e0 H3 (own_nsn (ow hw 70 rfl) (ow hw 223 rfl) (NS.step (ow hw 70 rfl) (NS.step (ow hw 71 rfl) (NS.step (ow hw 72 rfl) (own_nsr (ow hw 73 rfl) (ow hw 223 rfl) (by decide)) (by decide)) (by decide)) (by decide)) (by decide)) (g := (mkF m 1 #[rv a1, un] [(.ref a1)])) rfl rfl (hb hby d7_1)
  obtain ⟨_, X4, e4, st4⟩ := instNo X2 hx hZ hown (ow hw 74 rfl) e2 H3 (own_nsn (ow hw 70 rfl) (ow hw 324 rfl) (NS.step (ow hw 70 rfl) (NS.step (ow hw 71 rfl) (NS.step (ow hw 72 rfl) (own_nsr (ow hw 73 rfl) (ow hw 324 rfl) (by decide)) (by decide)) (by decide)) (by decide)) (by decide)) (g := (mkF m 8 #[rv a1, un] [(.ref a1)])) rfl rfl (hb hby d7_8)
  obtain ⟨_, _, _, X6, hQ6, st6⟩ := cI X4 hx hZ hw hown (x := y9) (y := y8) 75 rfl 76 rfl 77 rfl 78 rfl 79 rfl 80 rfl 81 rfl 82 rfl 83 rfl 10 rfl (by decide) (W := 0) (r8_1 hw a1 O0 H5) (by decide) (by decide) H3 e4 (g := (mkF m 32 #[rv a1, un] [(.ref a1)])) rfl (by rw [hml]; rfl) (argsL := []) (rest := []) (lenOf pd23 rfl) rfl wf (hb hby d7_32) rfl (by decide) (by decide)
  obtain ⟨rfl, N6q, e6⟩ := hQ6
  have N6 := Fr.app N0 N6q
  obtain ⟨_, _, _, X9, hQ9, st9⟩ := cS X6 hx hZ hw hown (y := y10) 86 rfl 87 rfl 63 rfl 88 rfl (by decide) (W := 0) (r10_1 hw a7 O0 H8) (by decide) (by decide) e6 (g := (mkF m 40 #[rv a1, un] [])) rfl (by rw [hml]; rfl) (argsL := []) (rest := []) (lenOf pd20 rfl) rfl wf (hb hby d7_40) rfl (by decide) (by decide)
  obtain ⟨rfl, N9q, e9⟩ := hQ9
  have N9 := Fr.app N6 N9q
  refine fin (Q := r7_1Q Z a1 a7 h0 n0) (rm := (rM 1 0 0 12)) Bd X9 e9 (some (.ref a7)) nofun ⟨rfl, N9, rfl⟩ (by decide) (by decide) fun fs hr => ?_
  show St p e below s₁ m 0 #[rv a1, un] [] _
  refine aN X0 hx hby d7_0 rfl rfl ?_
  refine st2 _ ?_
  refine XS.ifNo X2.here hx rfl (hb hby d7_4) rfl ((if0 _ _).trans (teq (rfl : (0:Int32) = (0:Int32))).2) ?_
  refine aN X2 hx hby d7_7 rfl rfl ?_
  refine st4 _ ?_
  refine XS.ifYes X4.here hx rfl (pc0 := 11) (pc' := 31) rfl (hb hby d7_11) rfl ((if0 _ _).trans (teq (rfl : (0:Int32) = (0:Int32))).1) (by decide) (by decide) ?_
  refine aN X4 hx hby d7_31 rfl rfl ?_
  refine st6.trans ?_
  refine XS.ifNo X6.here hx rfl (hb hby d7_37) rfl ((if0 _ _).trans (feq (by decide : ¬ ((1:Int32) = (0:Int32)))).1) ?_
  refine st9 _ ?_
  exact retA X9 hx Bd.returns rfl rfl (hb hby d7_43) hr
theorem pd5 : parseMethodDescriptor "(Ljava/util/Collection;)Ljava/util/List;" = some ⟨[(.object "java/util/Collection")], some (.object "java/util/List")⟩ := by decide +kernel
theorem d6_4 : dk jdk_40_method_48_code 4 .areturn 1 := by decide +kernel
abbrev y6 : MethodName := ⟨"java/util/List", "copyOf", "(Ljava/util/Collection;)Ljava/util/List;"⟩
def r6_1Q (Z : State) (a1 a4 : Addr) (h0 : Heap) (n0 : Nat) : QT := fun v h L => v = some (.ref a4) ∧ Fr n0 L ∧ h = h0
theorem r6_1 (hw : HW a0 Z) (a1 a4 : Addr) (O0 : Old Z n0 h0) (H2 : xE1 Z h0 a1) (H3 : xF3 Z h0 a1 (.int (0:Int32))) (H5 : Sta Z Z.heap "java/util/ImmutableCollections" "EMPTY_LIST" "Ljava/util/ImmutableCollections$ListN;" (.ref a4)) :
    MF l y6 jdk_40_method_48_code 1 (some (.object "java/util/List")) [] (rM 2 0 0 25) Z #[(.ref a1)] h0 (r6_1Q Z a1 a4 h0 n0) := by
  refine own_in (pq pn15) #[rv a1] (fun _ => by first | (simp [entryFrame, mkF, argsToLocals, Value.category]; done) | rfl) ?_
  intro p e s m below meth c s₁ Bd hx hby hml hown hnm hZ e0 X0
  have N0 := Fr.nil n0
  obtain ⟨_, _, _, X6, hQ6, st6⟩ := cS X0 hx hZ hw hown (y := y7) 65 rfl 66 rfl 67 rfl 68 rfl (by decide) (W := 0) (r7_1 hw a1 a4 O0 H2 H3 H5) (by decide) (by decide) e0 (g := (mkF m 1 #[rv a1] [(.ref a1)])) rfl (by rw [hml]; rfl) (argsL := [(.ref a1)]) (rest := []) (lenOf pd5 rfl) rfl wf (hb hby d6_1) rfl (by decide) (by decide)
  obtain ⟨rfl, N6q, e6⟩ := hQ6
  have N6 := Fr.app N0 N6q
  refine fin (Q := r6_1Q Z a1 a4 h0 n0) (rm := (rM 2 0 0 25)) Bd X6 e6 (some (.ref a4)) nofun ⟨rfl, N6, rfl⟩ (by decide) (by decide) fun fs hr => ?_
  show St p e below s₁ m 0 #[rv a1] [] _
  refine aN X0 hx hby d6_0 rfl rfl ?_
  refine st6 _ ?_
  exact retA X6 hx Bd.returns rfl rfl (hb hby d6_4) hr
theorem d5_37 : dk cP16_1 37 (.putfield 34) 3 := by decide +kernel
abbrev xF10 (Z : State) (h : Heap) (a : Addr) (v : Value) : Prop := Fld Z h a "tabula/engine/Concept" "parts" "Ljava/util/List;" v
theorem d5_40 : dk cP16_1 40 (.aload 4) 2 := by decide +kernel
theorem d5_42 : dk cP16_1 42 (.ifnull 15) 3 := by decide +kernel
theorem d5_57 : dk cP16_1 57 (.iconst 0) 1 := by decide +kernel
theorem d5_58 : dk cP16_1 58 (.istore 7) 2 := by decide +kernel
theorem d5_60 : dk cP16_1 60 (.aload 6) 2 := by decide +kernel
theorem d5_62 : dk cP16_1 62 (.invokeinterface 44 1) 5 := by decide +kernel
theorem d11_0 : dk cJ38_55 0 (.new 267) 3 := by decide +kernel
theorem d11_3 : dk cJ38_55 3 .dup 1 := by decide +kernel
theorem d11_4 : dk cJ38_55 4 (.aload_n 0) 1 := by decide +kernel
theorem d11_5 : dk cJ38_55 5 (.invokespecial 269) 3 := by decide +kernel
theorem d12_0 : dk cJ49_1 0 (.aload_n 0) 1 := by decide +kernel
theorem d12_1 : dk cJ49_1 1 (.aload_n 1) 1 := by decide +kernel
theorem d12_2 : dk cJ49_1 2 (.putfield 1) 3 := by decide +kernel
abbrev xF11 (Z : State) (h : Heap) (a : Addr) (v : Value) : Prop := Fld Z h a "java/util/ArrayList$Itr" "this$0" "Ljava/util/ArrayList;" v
abbrev xE12 (Z : State) (h : Heap) (a : Addr) : Prop := Exa Z h a "java/util/ArrayList$Itr"
theorem d12_5 : dk cJ49_1 5 (.aload_n 0) 1 := by decide +kernel
theorem d12_6 : dk cJ49_1 6 (.invokespecial 7) 3 := by decide +kernel
theorem d12_9 : dk cJ49_1 9 (.aload_n 0) 1 := by decide +kernel
theorem d12_10 : dk cJ49_1 10 (.iconst (-1)) 1 := by decide +kernel
theorem d12_11 : dk cJ49_1 11 (.putfield 13) 3 := by decide +kernel
abbrev xF13 (Z : State) (h : Heap) (a : Addr) (v : Value) : Prop := Fld Z h a "java/util/ArrayList$Itr" "lastRet" "I" v
theorem d12_14 : dk cJ49_1 14 (.aload_n 0) 1 := by decide +kernel
theorem d12_15 : dk cJ49_1 15 (.aload_n 0) 1 := by decide +kernel
theorem d12_16 : dk cJ49_1 16 (.getfield 1) 3 := by decide +kernel
theorem d12_19 : dk cJ49_1 19 (.getfield 17) 3 := by decide +kernel
theorem d12_22 : dk cJ49_1 22 (.putfield 22) 3 := by decide +kernel
abbrev xF14 (Z : State) (h : Heap) (a : Addr) (v : Value) : Prop := Fld Z h a "java/util/ArrayList$Itr" "expectedModCount" "I" v
theorem d12_25 : dk cJ49_1 25 .return_ 1 := by decide +kernel
abbrev xF15 (Z : State) (h : Heap) (a : Addr) (v : Value) : Prop := Fld Z h a "java/util/ArrayList$Itr" "cursor" "I" v
abbrev y12 : MethodName := ⟨"java/util/ArrayList$Itr", "<init>", "(Ljava/util/ArrayList;)V"⟩
theorem pn7 : plainName "java/util/ArrayList$Itr" = true := by first | (simp [plainName, overriddenIn]; done) | decide +kernel
def r12_1Q (Z : State) (a1 a2 : Addr) (h0 : Heap) (n0 : Nat) : QT := fun v h L => v = none ∧ Fr n0 L ∧ Keep h0 h [a1] ∧ xF11 Z h a1 (.ref a2) ∧ xE12 Z h a1 ∧ xF13 Z h a1 (.int (-1:Int32)) ∧ xF14 Z h a1 (.int (0:Int32)) ∧ xF15 Z h a1 (.int (0:Int32))
theorem r12_1 (hw : HW a0 Z) (a1 a2 : Addr) (O0 : Old Z n0 h0) (H3 : xF11 Z h0 a1 .null) (H4 : xE12 Z h0 a1) (H6 : n0 ≤ a1) (H10 : xF13 Z h0 a1 (.int (0:Int32))) (H19 : xF0 Z h0 a2 (.int (0:Int32))) (H20 : a2 ≠ a1) (H23 : xF14 Z h0 a1 (.int (0:Int32))) (H28 : xF15 Z h0 a1 (.int (0:Int32))) :
    MF l y12 cJ49_1 2 none [] (rM 1 0 0 12) Z #[(.ref a1), (.ref a2)] h0 (r12_1Q Z a1 a2 h0 n0) := by
  refine own_in (pq pn7) #[rv a1, rv a2] (fun _ => by first | (simp [entryFrame, mkF, argsToLocals, Value.category]; done) | rfl) ?_
  intro p e s m below meth c s₁ Bd hx hby hml hown hnm hZ e0 X0
  have N0 := Fr.nil n0
  obtain ⟨_, h5, X5, e5, W5, st5⟩ := pF X0 hx hZ hown (ow hw 108 rfl) e0 H3 H4 (Or.inr ⟨(ow hw 109 rfl), rfl, hnm⟩) (ow hw 102 rfl) (ty := (.object "java/util/ArrayList")) (by decide) rfl rfl (g := (mkF m 2 #[rv a1, rv a2] [(.ref a2), (.ref a1)])) rfl rfl (hb hby d12_2)
  have Kp_W5 : Keep h0 h5 [a1] := (Keep.refl h0 [a1]).wr W5 (mI 0 rfl)
  have N7 := Fr.snoc X5 N0 H6
  have f8 := H3.same W5
  obtain ⟨_, X9, e9, st9⟩ := initO X5 hx hZ hown (ow hw 110 rfl) (ow hw 27 rfl) (ow hw 28 rfl) e5 (g := (mkF m 6 #[rv a1, rv a2] [(.ref a1)])) rfl (by rw [hml]; rfl) rfl (hb hby d12_6) (by decide) (W := 0) wf (by decide)
  have f11 := (H4.wr W5)
  have f12 := (H10.other W5 (Or.inr (sn2 hw)))
  obtain ⟨_, h13, X13, e13, W13, st13⟩ := pF X9 hx hZ hown (ow hw 111 rfl) e9 f12 f11 (Or.inl (ow hw 112 rfl)) (ow hw 102 rfl) (ty := .int) (by decide) rfl rfl (g := (mkF m 11 #[rv a1, rv a2] [(.int (-1:Int32)), (.ref a1)])) rfl rfl (hb hby d12_11)
  have Kp_W13 : Keep h0 h13 [a1] := Kp_W5.wr W13 (mI 0 rfl)
  have N14 := Fr.snoc X13 N7 H6
  have f15 := f12.same W13
  have f16 := (f11.wr W13)
  have f17 := (f8.other W13 (Or.inr (sn3 hw)))
  obtain ⟨_, X18, e18, st18⟩ := gF X13 hx hZ hown (ow hw 108 rfl) e13 f17 (g := (mkF m 16 #[rv a1, rv a2] [(.ref a1), (.ref a1)])) rfl rfl (hb hby d12_16)
  have f21 := ((H19.other W5 (Or.inl H20)).other W13 (Or.inl H20))
  obtain ⟨_, X22, e22, st22⟩ := getF X18 hx hZ hown (host := "") (Or.inl (ow hw 113 rfl)) (Via.of (ow hw 114 rfl)) e18 f21 (g := (mkF m 19 #[rv a1, rv a2] [(.ref a2), (.ref a1)])) rfl rfl (hb hby d12_19)
  have f24 := ((H23.other W5 (Or.inr (sn4 hw))).other W13 (Or.inr (sn5 hw)))
  obtain ⟨_, h25, X25, e25, W25, st25⟩ := pF X22 hx hZ hown (ow hw 115 rfl) e22 f24 f16 (Or.inl (ow hw 116 rfl)) (ow hw 102 rfl) (ty := .int) (by decide) rfl rfl (g := (mkF m 22 #[rv a1, rv a2] [(.int (0:Int32)), (.ref a1)])) rfl rfl (hb hby d12_22)
  have Kp_W25 : Keep h0 h25 [a1] := Kp_W13.wr W25 (mI 0 rfl)
  have N26 := Fr.snoc X25 N14 H6
  have f27 := f24.same W25
  have f29 := (f16.wr W25)
  have f30 := (((H28.other W5 (Or.inr (sn6 hw))).other W13 (Or.inr (sn7 hw))).other W25 (Or.inr (sn8 hw)))
  have f31 := (f17.other W25 (Or.inr (sn9 hw)))
  have f32 := (f15.other W25 (Or.inr (sn10 hw)))
  refine fin (Q := r12_1Q Z a1 a2 h0 n0) (rm := (rM 1 0 0 12)) Bd X25 e25 (none) (fun _ => rfl) ⟨rfl, N26, Kp_W25, f31, f29, f32, f27, f30⟩ (by decide) (by decide) fun fs hr => ?_
  show St p e below s₁ m 0 #[rv a1, rv a2] [] _
  refine aN X0 hx hby d12_0 rfl rfl ?_
  refine aN X0 hx hby d12_1 rfl rfl ?_
  refine st5 _ ?_
  refine aN X5 hx hby d12_5 rfl rfl ?_
  refine st9 _ ?_
  refine aN X9 hx hby d12_9 rfl rfl ?_
  refine iC X9 hx hby d12_10 ?_
  refine st13 _ ?_
  refine aN X13 hx hby d12_14 rfl rfl ?_
  refine aN X13 hx hby d12_15 rfl rfl ?_
  refine st18 _ ?_
  refine st22 _ ?_
  refine st25 _ ?_
  exact X25.returnOut hx Bd.returns (hb hby d12_25) hr
theorem pd10 : parseMethodDescriptor "(Ljava/util/ArrayList;)V" = some ⟨[(.object "java/util/ArrayList")], none⟩ := by decide +kernel
theorem d11_8 : dk cJ38_55 8 .areturn 1 := by decide +kernel
abbrev y11 : MethodName := ⟨"java/util/ArrayList", "iterator", "()Ljava/util/Iterator;"⟩
def r11_1Q (Z : State) (a1 : Addr) (h0 : Heap) (n0 : Nat) : QT := fun v h L => ∃ (b2 : Addr), v = some (.ref b2) ∧ Fr n0 L ∧ Keep h0 h [] ∧ h0.size ≤ b2 ∧ xE12 Z h b2 ∧ xF11 Z h b2 (.ref a1) ∧ xF13 Z h b2 (.int (-1:Int32)) ∧ xF14 Z h b2 (.int (0:Int32)) ∧ xF15 Z h b2 (.int (0:Int32))
theorem r11_1 (hw : HW a0 Z) (a1 : Addr) (O0 : Old Z n0 h0) (H6 : xF0 Z h0 a1 (.int (0:Int32))) (H8 : xE1 Z h0 a1) :
    MF l y11 cJ38_55 1 (some (.object "java/util/Iterator")) [] (rM 2 1 4 26) Z #[(.ref a1)] h0 (r11_1Q Z a1 h0 n0) := by
  refine own_in (pq pn10) #[rv a1] (fun _ => by first | (simp [entryFrame, mkF, argsToLocals, Value.category]; done) | rfl) ?_
  intro p e s m below meth c s₁ Bd hx hby hml hown hnm hZ e0 X0
  have N0 := Fr.nil n0
  obtain ⟨_, h2, X2, e2, E2, A2, D2, -, st2⟩ := newO X0 hx hZ hown (ow hw 101 rfl) (ow hw 102 rfl) (ow hw 103 rfl) e0 (g := (mkF m 0 #[rv a1] [])) rfl (hb hby d11_0) (by decide) (by decide)
  obtain ⟨b2, g2⟩ : ∃ z, z = h0.size := ⟨_, rfl⟩
  rw [← g2] at A2 D2 st2
  have O_E2 : Old Z n0 h2 := O0.ext E2
  have Kp_E2 : Keep h0 h2 [] := (Keep.refl h0 []).ext E2
  have f3 : xF11 Z h2 b2 .null := D2 (Or.inr (ow hw 109 rfl)) (ty := (.object "java/util/ArrayList")) (by decide)
  have g4 : n0 ≤ b2 := Nat.le_trans (Nat.le_trans (Nat.le_of_eq O0.1.symm) O0.2.1) (Nat.le_of_eq g2.symm)
  have f5 : xF13 Z h2 b2 (.int (0:Int32)) := D2 (Or.inl (ow hw 112 rfl)) (ty := .int) (by decide)
  have f7 := (H6.ext E2)
  have ne10 : a1 ≠ b2 := Nat.ne_of_lt (Nat.lt_of_lt_of_le H8.lt (Nat.le_of_eq g2.symm))
  have f11 : xF14 Z h2 b2 (.int (0:Int32)) := D2 (Or.inl (ow hw 116 rfl)) (ty := .int) (by decide)
  have f12 : xF15 Z h2 b2 (.int (0:Int32)) := D2 (Or.inl (ow hw 127 rfl)) (ty := .int) (by decide)
  obtain ⟨T13, _, _, X13, hQ13, st13⟩ := cP X2 hx hZ hw hown (y := y12) rfl 104 rfl 105 rfl 107 rfl 103 rfl (by decide) (W := 1) (r12_1 hw b2 a1 O_E2 f3 A2 g4 f5 f7 ne10 f11 f12) (by decide) (by decide) e2 (g := (mkF m 5 #[rv a1] [(.ref a1), (.ref b2), (.ref b2)])) rfl (by rw [hml]; rfl) (argsL := [(.ref a1)]) (rest := [(.ref b2)]) (lenOf pd10 rfl) rfl wf (hb hby d11_5) rfl (by decide) (by decide)
  obtain ⟨rfl, N13q, K13, f13_1, f13_2, f13_3, f13_4, f13_5⟩ := hQ13
  have N13 := Fr.app N0 N13q
  have z14 : h0.size ≤ b2 := Nat.le_trans (Keep.refl h0 []).1 (Nat.le_of_eq g2.symm)
  have Kp_K13 : Keep h0 T13.heap [] := Kp_E2.trans K13 (allS (Or.inr z14) all0)
  refine fin (Q := r11_1Q Z a1 h0 n0) (rm := (rM 2 1 4 26)) Bd X13 rfl (some (.ref b2)) nofun ⟨b2, rfl, N13, Kp_K13, z14, f13_2, f13_1, f13_3, f13_4, f13_5⟩ (by decide) (by decide) fun fs hr => ?_
  show St p e below s₁ m 0 #[rv a1] [] _
  refine st2 _ ?_
  refine XS.dup X2.here hx rfl (hb hby d11_3) rfl rfl ?_
  refine aN X2 hx hby d11_4 rfl rfl ?_
  refine st13.trans ?_
  exact retA X13 hx Bd.returns rfl rfl (hb hby d11_8) hr
theorem pd13 : parseMethodDescriptor "()Ljava/util/Iterator;" = some ⟨[], some (.object "java/util/Iterator")⟩ := by decide +kernel
abbrev y13 : MethodName := ⟨"java/util/List", "iterator", "()Ljava/util/Iterator;"⟩
theorem d5_67 : dk cP16_1 67 (.astore 8) 2 := by decide +kernel
theorem d5_69 : dk cP16_1 69 (.aload 8) 2 := by decide +kernel
theorem d5_71 : dk cP16_1 71 (.invokeinterface 48 1) 5 := by decide +kernel
theorem d14_0 : dk cJ49_2 0 (.aload_n 0) 1 := by decide +kernel
theorem d14_1 : dk cJ49_2 1 (.getfield 25) 3 := by decide +kernel
theorem d14_4 : dk cJ49_2 4 (.aload_n 0) 1 := by decide +kernel
theorem d14_5 : dk cJ49_2 5 (.getfield 1) 3 := by decide +kernel
theorem d14_8 : dk cJ49_2 8 (.getfield 28) 3 := by decide +kernel
theorem d14_11 : dk cJ49_2 11 (.if_icmp .eq 7) 3 := by decide +kernel
theorem d14_18 : dk cJ49_2 18 (.iconst 0) 1 := by decide +kernel
theorem d14_19 : dk cJ49_2 19 .ireturn 1 := by decide +kernel
abbrev y14 : MethodName := ⟨"java/util/ArrayList$Itr", "hasNext", "()Z"⟩
def r14_1Q (Z : State) (a1 a4 : Addr) (h0 : Heap) (n0 : Nat) : QT := fun v h L => v = some (.int (0:Int32)) ∧ Fr n0 L ∧ h = h0
theorem r14_1 (hw : HW a0 Z) (a1 a4 : Addr) (O0 : Old Z n0 h0) (H2 : xF15 Z h0 a1 (.int (0:Int32))) (H5 : xF11 Z h0 a1 (.ref a4)) (H7 : xF3 Z h0 a4 (.int (0:Int32))) :
    MF l y14 cJ49_2 1 (some .boolean) [] (rM 0 0 0 0) Z #[(.ref a1)] h0 (r14_1Q Z a1 a4 h0 n0) := by
  refine own_in (pq pn7) #[rv a1] (fun _ => by first | (simp [entryFrame, mkF, argsToLocals, Value.category]; done) | rfl) ?_
  intro p e s m below meth c s₁ Bd hx hby hml hown hnm hZ e0 X0
  have N0 := Fr.nil n0
  obtain ⟨_, X3, e3, st3⟩ := gF X0 hx hZ hown (ow hw 126 rfl) e0 H2 (g := (mkF m 1 #[rv a1] [(.ref a1)])) rfl rfl (hb hby d14_1)
  obtain ⟨_, X6, e6, st6⟩ := gF X3 hx hZ hown (ow hw 108 rfl) e3 H5 (g := (mkF m 5 #[rv a1] [(.ref a1), (.int (0:Int32))])) rfl rfl (hb hby d14_5)
  obtain ⟨_, X8, e8, st8⟩ := getF X6 hx hZ hown (Or.inr (ow hw 128 rfl)) Via.refl e6 H7 (g := (mkF m 8 #[rv a1] [(.ref a4), (.int (0:Int32))])) rfl rfl (hb hby d14_8)
  refine fin (Q := r14_1Q Z a1 a4 h0 n0) (rm := (rM 0 0 0 0)) Bd X8 e8 (some (.int (0:Int32))) nofun ⟨rfl, N0, rfl⟩ (by decide) (by decide) fun fs hr => ?_
  show St p e below s₁ m 0 #[rv a1] [] _
  refine aN X0 hx hby d14_0 rfl rfl ?_
  refine st3 _ ?_
  refine aN X3 hx hby d14_4 rfl rfl ?_
  refine st6 _ ?_
  refine st8 _ ?_
  refine XS.icmpYes X8.here hx rfl (pc0 := 11) (pc' := 18) rfl (hb hby d14_11) rfl (teq (rfl : (0:Int32) = (0:Int32))).1 (by decide) (by decide) ?_
  refine iC X8 hx hby d14_18 ?_
  exact retN X8 hx (t := .boolean) Bd.returns (by simp) (hb hby d14_19) hr
abbrev y15 : MethodName := ⟨"java/util/Iterator", "hasNext", "()Z"⟩
theorem d5_76 : dk cP16_1 76 (.ifCond .eq 28) 3 := by decide +kernel
theorem d5_104 : dk cP16_1 104 (.aload_n 0) 1 := by decide +kernel
theorem d5_105 : dk cP16_1 105 (.iload 7) 2 := by decide +kernel
theorem d5_107 : dk cP16_1 107 (.putfield 57) 3 := by decide +kernel
abbrev xF16 (Z : State) (h : Heap) (a : Addr) (v : Value) : Prop := Fld Z h a "tabula/engine/Concept" "usesUniversalRole" "Z" v
theorem d5_110 : dk cP16_1 110 .return_ 1 := by decide +kernel
abbrev y5 : MethodName := ⟨"tabula/engine/Concept", "<init>", "(ILtabula/engine/Concept$Kind;Ljava/lang/String;Ltabula/engine/Role;ILjava/util/List;)V"⟩
theorem pn9 : plainName "tabula/engine/Concept" = true := by first | (simp [plainName, overriddenIn]; done) | decide +kernel
def r5_1Q (Z : State) (a1 : Addr) (p2:Int32) (a3 a4 : Addr) (p5:Int32) (a6 a43 : Addr) (h0 : Heap) (n0 : Nat) : QT := fun v h L => v = none ∧ Fr n0 L ∧ Keep h0 h [a1] ∧ xE5 Z h a1 ∧ xF6 Z h a1 (.ref a3) ∧ xF10 Z h a1 (.ref a43) ∧ xF16 Z h a1 (.int (0:Int32))
theorem r5_1 (hw : HW a0 Z) (a1 : Addr) (p2:Int32) (a3 a4 : Addr) (p5:Int32) (a6 a43 : Addr) (O0 : Old Z n0 h0) (H8 : xF4 Z h0 a1 (.int (0:Int32))) (H9 : xE5 Z h0 a1) (H11 : n0 ≤ a1) (H14 : xF6 Z h0 a1 .null) (H20 : xF7 Z h0 a1 .null) (H26 : xF8 Z h0 a1 .null) (H32 : xF9 Z h0 a1 (.int (0:Int32))) (H38 : xE1 Z h0 a6) (H40 : xF3 Z h0 a6 (.int (0:Int32))) (H41 : a6 ≠ a1) (H44 : Sta Z Z.heap "java/util/ImmutableCollections" "EMPTY_LIST" "Ljava/util/ImmutableCollections$ListN;" (.ref a43)) (H46 : xF10 Z h0 a1 .null) (H53 : xF0 Z h0 a6 (.int (0:Int32))) (H58 : xF16 Z h0 a1 (.int (0:Int32))) :
    MF l y5 cP16_1 10 none [] (rM 3 1 4 38) Z #[(.ref a1), (.int p2), (.ref a3), (.ref a4), .null, (.int p5), (.ref a6)] h0 (r5_1Q Z a1 p2 a3 a4 p5 a6 a43 h0 n0) := by
  refine own_in (pq pn9) #[rv a1, iv p2, rv a3, rv a4, .val .null, iv p5, rv a6, un, un, un] (fun _ => by first | (simp [entryFrame, mkF, argsToLocals, Value.category]; done) | rfl) ?_
  intro p e s m below meth c s₁ Bd hx hby hml hown hnm hZ e0 X0
  have N0 := Fr.nil n0
  obtain ⟨_, X7, e7, st7⟩ := initO X0 hx hZ hown (ow hw 50 rfl) (ow hw 27 rfl) (ow hw 28 rfl) e0 (g := (mkF m 1 #[rv a1, iv p2, rv a3, rv a4, .val .null, iv p5, rv a6, un, un, un] [(.ref a1)])) rfl (by rw [hml]; rfl) rfl (hb hby d5_1) (by decide) (W := 0) wf (by decide)
  obtain ⟨_, h10, X10, e10, W10, st10⟩ := pF X7 hx hZ hown (ow hw 51 rfl) e7 H8 H9 (Or.inr ⟨(ow hw 52 rfl), rfl, hnm⟩) (ow hw 35 rfl) (ty := .int) (by decide) rfl rfl (g := (mkF m 6 #[rv a1, iv p2, rv a3, rv a4, .val .null, iv p5, rv a6, un, un, un] [(.int p2), (.ref a1)])) rfl rfl (hb hby d5_6)
  have O_W10 : Old Z n0 h10 := O0.wr W10 H11
  have Kp_W10 : Keep h0 h10 [a1] := (Keep.refl h0 [a1]).wr W10 (mI 0 rfl)
  have N12 := Fr.snoc X10 N0 H11
  have f15 := (H9.wr W10)
  have f16 := (H14.other W10 (Or.inr (sn11 hw)))
  obtain ⟨_, h17, X17, e17, W17, st17⟩ := pF X10 hx hZ hown (ow hw 53 rfl) e10 f16 f15 (Or.inr ⟨(ow hw 54 rfl), rfl, hnm⟩) (ow hw 35 rfl) (ty := (.object "tabula/engine/Concept$Kind")) (by decide) rfl rfl (g := (mkF m 11 #[rv a1, iv p2, rv a3, rv a4, .val .null, iv p5, rv a6, un, un, un] [(.ref a3), (.ref a1)])) rfl rfl (hb hby d5_11)
  have O_W17 : Old Z n0 h17 := O_W10.wr W17 H11
  have Kp_W17 : Keep h0 h17 [a1] := Kp_W10.wr W17 (mI 0 rfl)
  have N18 := Fr.snoc X17 N12 H11
  have f19 := f16.same W17
  have f21 := (f15.wr W17)
  have f22 := ((H20.other W10 (Or.inr (sn12 hw))).other W17 (Or.inr (sn13 hw)))
  obtain ⟨_, h23, X23, e23, W23, st23⟩ := pF X17 hx hZ hown (ow hw 55 rfl) e17 f22 f21 (Or.inr ⟨(ow hw 56 rfl), rfl, hnm⟩) (ow hw 35 rfl) (ty := (.object "java/lang/String")) (by decide) rfl rfl (g := (mkF m 16 #[rv a1, iv p2, rv a3, rv a4, .val .null, iv p5, rv a6, un, un, un] [(.ref a4), (.ref a1)])) rfl rfl (hb hby d5_16)
  have O_W23 : Old Z n0 h23 := O_W17.wr W23 H11
  have Kp_W23 : Keep h0 h23 [a1] := Kp_W17.wr W23 (mI 0 rfl)
  have N24 := Fr.snoc X23 N18 H11
  have f27 := (f21.wr W23)
  have f28 := (((H26.other W10 (Or.inr (sn14 hw))).other W17 (Or.inr (sn15 hw))).other W23 (Or.inr (sn16 hw)))
  obtain ⟨_, h29, X29, e29, W29, st29⟩ := pF X23 hx hZ hown (ow hw 57 rfl) e23 f28 f27 (Or.inr ⟨(ow hw 58 rfl), rfl, hnm⟩) (ow hw 35 rfl) (ty := (.object "tabula/engine/Role")) (by decide) rfl rfl (g := (mkF m 22 #[rv a1, iv p2, rv a3, rv a4, .val .null, iv p5, rv a6, un, un, un] [.null, (.ref a1)])) rfl rfl (hb hby d5_22)
  have O_W29 : Old Z n0 h29 := O_W23.wr W29 H11
  have Kp_W29 : Keep h0 h29 [a1] := Kp_W23.wr W29 (mI 0 rfl)
  have N30 := Fr.snoc X29 N24 H11
  have f33 := (f27.wr W29)
  have f34 := ((((H32.other W10 (Or.inr (sn17 hw))).other W17 (Or.inr (sn18 hw))).other W23 (Or.inr (sn19 hw))).other W29 (Or.inr (sn20 hw)))
  obtain ⟨_, h35, X35, e35, W35, st35⟩ := pF X29 hx hZ hown (ow hw 59 rfl) e29 f34 f33 (Or.inr ⟨(ow hw 60 rfl), rfl, hnm⟩) (ow hw 35 rfl) (ty := .int) (by decide) rfl rfl (g := (mkF m 28 #[rv a1, iv p2, rv a3, rv a4, .val .null, iv p5, rv a6, un, un, un] [(.int p5), (.ref a1)])) rfl rfl (hb hby d5_28)
  have O_W35 : Old Z n0 h35 := O_W29.wr W35 H11
  have Kp_W35 : Keep h0 h35 [a1] := Kp_W29.wr W35 (mI 0 rfl)
  have N36 := Fr.snoc X35 N30 H11
  have f39 := (((((H38.wr W10).wr W17).wr W23).wr W29).wr W35)
  have f42 := (((((H40.other W10 (Or.inl H41)).other W17 (Or.inl H41)).other W23 (Or.inl H41)).other W29 (Or.inl H41)).other W35 (Or.inl H41))
  obtain ⟨_, _, _, X45, hQ45, st45⟩ := cS X35 hx hZ hw hown (y := y6) 61 rfl 62 rfl 63 rfl 64 rfl (by decide) (W := 1) (r6_1 hw a6 a43 O_W35 f39 f42 H44) (by decide) (by decide) e35 (g := (mkF m 34 #[rv a1, iv p2, rv a3, rv a4, .val .null, iv p5, rv a6, un, un, un] [(.ref a6), (.ref a1)])) rfl (by rw [hml]; rfl) (argsL := [(.ref a6)]) (rest := [(.ref a1)]) (lenOf pd5 rfl) rfl wf (hb hby d5_34) rfl (by decide) (by decide)
  obtain ⟨rfl, N45q, e45⟩ := hQ45
  have N45 := Fr.app N36 N45q
  have f47 := (f33.wr W35)
  have f48 := (((((H46.other W10 (Or.inr (sn21 hw))).other W17 (Or.inr (sn22 hw))).other W23 (Or.inr (sn23 hw))).other W29 (Or.inr (sn24 hw))).other W35 (Or.inr (sn25 hw)))
  obtain ⟨T49, h49, X49, e49, W49, st49⟩ := pF X45 hx hZ hown (ow hw 90 rfl) e45 f48 f47 (Or.inr ⟨(ow hw 91 rfl), rfl, hnm⟩) (ow hw 35 rfl) (ty := (.object "java/util/List")) (by decide) rfl rfl (g := (mkF m 37 #[rv a1, iv p2, rv a3, rv a4, .val .null, iv p5, rv a6, un, un, un] [(.ref a43), (.ref a1)])) rfl rfl (hb hby d5_37)
  have O_W49 : Old Z n0 h49 := O_W35.wr W49 H11
  have Kp_W49 : Keep h0 h49 [a1] := Kp_W35.wr W49 (mI 0 rfl)
  have N50 := Fr.snoc X49 N45 H11
  have f51 := f48.same W49
  have f52 := (f39.wr W49)
  have f54 := ((((((H53.other W10 (Or.inl H41)).other W17 (Or.inl H41)).other W23 (Or.inl H41)).other W29 (Or.inl H41)).other W35 (Or.inl H41)).other W49 (Or.inl H41))
  obtain ⟨T55, _, _, X55, hQ55, st55⟩ := cI X49 hx hZ hw hown (x := y13) (y := y11) 92 rfl 93 rfl 94 rfl 95 rfl 96 rfl 97 rfl 98 rfl 99 rfl 100 rfl 10 rfl (by decide) (W := 0) (r11_1 hw a6 O_W49 f54 f52) (by decide) (by decide) f52 e49 (g := (mkF m 62 #[rv a1, iv p2, rv a3, rv a4, .val .null, iv p5, rv a6, iv (0:Int32), un, un] [(.ref a6)])) rfl (by rw [hml]; rfl) (argsL := []) (rest := []) (lenOf pd13 rfl) rfl wf (hb hby d5_62) rfl (by decide) (by decide)
  obtain ⟨b55_0, rfl, N55q, K55, _, f55_2, f55_3, _, _, f55_6⟩ := hQ55
  have N55 := Fr.app N50 N55q
  have O_K55 : Old Z n0 T55.heap := O_W49.keep K55 all0
  have Kp_K55 : Keep h0 T55.heap [a1] := Kp_W49.trans K55 all0
  have f56 := ((f42.other W49 (Or.inl H41)).keep K55 nin0)
  obtain ⟨_, _, _, X57, hQ57, st57⟩ := cI X55 hx hZ hw hown (x := y15) (y := y14) 117 rfl 118 rfl 119 rfl 120 rfl 121 rfl 122 rfl 123 rfl 124 rfl 125 rfl 103 rfl (by decide) (W := 0) (r14_1 hw b55_0 a6 O_K55 f55_6 f55_3 f56) (by decide) (by decide) f55_2 rfl (g := (mkF m 71 #[rv a1, iv p2, rv a3, rv a4, .val .null, iv p5, rv a6, iv (0:Int32), rv b55_0, un] [(.ref b55_0)])) rfl (by rw [hml]; rfl) (argsL := []) (rest := []) (lenOf pd23 rfl) rfl wf (hb hby d5_71) rfl (by decide) (by decide)
  obtain ⟨rfl, N57q, e57⟩ := hQ57
  have N57 := Fr.app N55 N57q
  have f59 := ((f47.wr W49).keep K55)
  have f60 := (((((((H58.other W10 (Or.inr (sn26 hw))).other W17 (Or.inr (sn27 hw))).other W23 (Or.inr (sn28 hw))).other W29 (Or.inr (sn29 hw))).other W35 (Or.inr (sn30 hw))).other W49 (Or.inr (sn31 hw))).keep K55 nin0)
  obtain ⟨_, h61, X61, e61, W61, st61⟩ := pF X57 hx hZ hown (ow hw 129 rfl) e57 f60 f59 (Or.inr ⟨(ow hw 130 rfl), rfl, hnm⟩) (ow hw 35 rfl) (ty := .boolean) (by decide) rfl rfl (g := (mkF m 107 #[rv a1, iv p2, rv a3, rv a4, .val .null, iv p5, rv a6, iv (0:Int32), rv b55_0, un] [(.int (0:Int32)), (.ref a1)])) rfl rfl (hb hby d5_107)
  have Kp_W61 : Keep h0 h61 [a1] := Kp_K55.wr W61 (mI 0 rfl)
  have N62 := Fr.snoc X61 N57 H11
  have f63 := f60.same W61
  have f64 := (f59.wr W61)
  have f65 := ((((((f19.other W23 (Or.inr (sn32 hw))).other W29 (Or.inr (sn33 hw))).other W35 (Or.inr (sn34 hw))).other W49 (Or.inr (sn35 hw))).keep K55 nin0).other W61 (Or.inr (sn36 hw)))
  have f66 := ((f51.keep K55 nin0).other W61 (Or.inr (sn37 hw)))
  refine fin (Q := r5_1Q Z a1 p2 a3 a4 p5 a6 a43 h0 n0) (rm := (rM 3 1 4 38)) Bd X61 e61 (none) (fun _ => rfl) ⟨rfl, N62, Kp_W61, f64, f65, f66, f63⟩ (by decide) (by decide) fun fs hr => ?_
  show St p e below s₁ m 0 #[rv a1, iv p2, rv a3, rv a4, .val .null, iv p5, rv a6, un, un, un] [] _
  refine aN X0 hx hby d5_0 rfl rfl ?_
  refine st7 _ ?_
  refine aN X7 hx hby d5_4 rfl rfl ?_
  refine iN X7 hx hby d5_5 rfl ?_
  refine st10 _ ?_
  refine aN X10 hx hby d5_9 rfl rfl ?_
  refine aN X10 hx hby d5_10 rfl rfl ?_
  refine st17 _ ?_
  refine aN X17 hx hby d5_14 rfl rfl ?_
  refine aN X17 hx hby d5_15 rfl rfl ?_
  refine st23 _ ?_
  refine aN X23 hx hby d5_19 rfl rfl ?_
  refine aL X23 hx hby d5_20 rfl rfl ?_
  refine st29 _ ?_
  refine aN X29 hx hby d5_25 rfl rfl ?_
  refine iL X29 hx hby d5_26 rfl ?_
  refine st35 _ ?_
  refine aN X35 hx hby d5_31 rfl rfl ?_
  refine aL X35 hx hby d5_32 rfl rfl ?_
  refine st45 _ ?_
  refine st49 _ ?_
  refine aL X49 hx hby d5_40 rfl rfl ?_
  refine XS.ifnullYes X49.here hx rfl (pc0 := 42) (pc' := 57) rfl (hb hby d5_42) rfl (by decide) (by decide) ?_
  refine iC X49 hx hby d5_57 ?_
  refine XS.istore X49.here hx rfl (hb hby d5_58) rfl (l' := #[rv a1, iv p2, rv a3, rv a4, .val .null, iv p5, rv a6, iv (0:Int32), un, un]) rfl ?_
  show St p e below T49 m 60 #[rv a1, iv p2, rv a3, rv a4, .val .null, iv p5, rv a6, iv (0:Int32), un, un] [] _
  refine aL X49 hx hby d5_60 rfl rfl ?_
  refine st55.trans ?_
  refine XS.astore X55.here hx rfl (hb hby d5_67) rfl rfl (l' := #[rv a1, iv p2, rv a3, rv a4, .val .null, iv p5, rv a6, iv (0:Int32), rv b55_0, un]) rfl ?_
  refine aL X55 hx hby d5_69 rfl rfl ?_
  refine st57.trans ?_
  refine XS.ifYes X57.here hx rfl (pc0 := 76) (pc' := 104) rfl (hb hby d5_76) rfl ((if0 _ _).trans (teq (rfl : (0:Int32) = (0:Int32))).1) (by decide) (by decide) ?_
  refine aN X57 hx hby d5_104 rfl rfl ?_
  refine iL X57 hx hby d5_105 rfl ?_
  refine st61 _ ?_
  exact X61.returnOut hx Bd.returns (hb hby d5_110) hr
theorem pd0 : parseMethodDescriptor "(ILtabula/engine/Concept$Kind;Ljava/lang/String;Ltabula/engine/Role;ILjava/util/List;)V" = some ⟨[.int, (.object "tabula/engine/Concept$Kind"), (.object "java/lang/String"), (.object "tabula/engine/Role"), .int, (.object "java/util/List")], none⟩ := by decide +kernel
theorem g1_2 (p1 p2 p3 p4:Int32) (a5 : Addr) (p6 p7:Int32) (a13 a18 a37 : Addr)
    (H0 : SG p l e R s m args below meth c T0 locs cells slots Z a0 h0 n0 14 66 4 60) (H14 : Sta Z Z.heap "java/util/ArrayList" "DEFAULTCAPACITY_EMPTY_ELEMENTDATA" "[Ljava/lang/Object;" (.ref a13)) (H19 : Sta Z Z.heap "tabula/engine/Concept$Kind" "NAME" "Ltabula/engine/Concept$Kind;" (.ref a18)) (H38 : Sta Z Z.heap "java/util/ImmutableCollections" "EMPTY_LIST" "Ljava/util/ImmutableCollections$ListN;" (.ref a37)) :
    ∃ (T' : State) (h' : Heap) (L' : List Loc) (vm' : Vm) (b8 b17 b46 b71 b96 : Addr), Stand p l e R (s.setVm vm') m args below meth c T' L' (cells + 14) (slots + 66) ∧ T'.heap = h' ∧ s.Since vm' h'.size ∧ Fr n0 L' ∧ Keep h0 h' [] ∧ h0.size ≤ b8 ∧ h0.size ≤ b17 ∧ h0.size ≤ b46 ∧ h0.size ≤ b71 ∧ h0.size ≤ b96 ∧ b8 ≠ b17 ∧ b8 ≠ b46 ∧ b8 ≠ b71 ∧ b8 ≠ b96 ∧ b17 ≠ b46 ∧ b17 ≠ b71 ∧ b17 ≠ b96 ∧ b46 ≠ b71 ∧ b46 ≠ b96 ∧ b71 ≠ b96 ∧ xE1 Z h' b8 ∧ xF0 Z h' b8 (.int (0:Int32)) ∧ xF2 Z h' b8 (.ref a13) ∧ xF3 Z h' b8 (.int (0:Int32)) ∧ xE5 Z h' b17 ∧ xF6 Z h' b17 (.ref a18) ∧ xF10 Z h' b17 (.ref a37) ∧ xF16 Z h' b17 (.int (0:Int32)) ∧ xE5 Z h' b46 ∧ xF6 Z h' b46 (.ref a18) ∧ xF10 Z h' b46 (.ref a37) ∧ xF16 Z h' b46 (.int (0:Int32)) ∧ xE5 Z h' b71 ∧ xF6 Z h' b71 (.ref a18) ∧ xF10 Z h' b71 (.ref a37) ∧ xF16 Z h' b71 (.int (0:Int32)) ∧ xE1 Z h' b96 ∧ xF0 Z h' b96 (.int (0:Int32)) ∧ xF2 Z h' b96 (.ref a13) ∧ xF3 Z h' b96 (.int (0:Int32)) ∧
      ∀ target, St p e below T' m 122 #[iv p1, iv p2, iv p3, iv p4, rv a5, iv p6, iv p7, rv b8, rv b17, rv b46, rv b71, rv b96, iv (0:Int32), un, un, un, un, un, un] [] target → St p e below T0 m 44 #[iv p1, iv p2, iv p3, iv p4, rv a5, iv p6, iv p7, un, un, un, un, un, un, un, un, un, un, un, un] [] target := by
  obtain ⟨X0, hx, hZ, hw, hby, hml, hown, e0, O0, N0, rc, rs, rf, rl⟩ := H0
  obtain ⟨_, h8, X8, e8, E8, A8, D8, -, st8⟩ := newO X0 hx hZ hown (ow hw 8 rfl) (ow hw 9 rfl) (ow hw 10 rfl) e0 (g := (mkF m 44 #[iv p1, iv p2, iv p3, iv p4, rv a5, iv p6, iv p7, un, un, un, un, un, un, un, un, un, un, un, un] [])) rfl (hb hby at_44) (by omega) (by omega)
  obtain ⟨b8, g8⟩ : ∃ z, z = h0.size := ⟨_, rfl⟩
  rw [← g8] at A8 D8 st8
  have O_E8 : Old Z n0 h8 := O0.ext E8
  have Kp_E8 : Keep h0 h8 [] := (Keep.refl h0 []).ext E8
  have f9 : xF0 Z h8 b8 (.int (0:Int32)) := D8 (Or.inl (ow hw 30 rfl)) (ty := .int) (by decide)
  have g10 : n0 ≤ b8 := Nat.le_trans (Nat.le_trans (Nat.le_of_eq O0.1.symm) O0.2.1) (Nat.le_of_eq g8.symm)
  have f11 : xF2 Z h8 b8 .null := D8 (Or.inl (ow hw 33 rfl)) (ty := (.array (.object "java/lang/Object"))) (by decide)
  have f12 : xF3 Z h8 b8 (.int (0:Int32)) := D8 (Or.inl (ow hw 85 rfl)) (ty := .int) (by decide)
  obtain ⟨T15, _, _, X15, hQ15, st15⟩ := cP X8 hx hZ hw hown (y := y2) rfl 11 rfl 12 rfl 13 rfl 10 rfl (by decide) (W := 1) (r2_1 hw b8 a13 O_E8 f9 A8 g10 f11 f12 H14) (by show 3 + 1 ≤ R.frames; omega) (by show 1 + (1 + 11) + 36 ≤ R.locals; omega) e8 (g := (mkF m 48 #[iv p1, iv p2, iv p3, iv p4, rv a5, iv p6, iv p7, un, un, un, un, un, un, un, un, un, un, un, un] [(.ref b8), (.ref b8)])) rfl (by rw [hml]; rfl) (argsL := []) (rest := [(.ref b8)]) (lenOf pd22 rfl) rfl wf (hb hby at_48) rfl (by show cells + 1 + 0 ≤ R.cells; omega) (by show slots + 3 + 0 ≤ R.slots; omega)
  obtain ⟨rfl, N15q, K15, f15_1, f15_2, f15_3, f15_4⟩ := hQ15
  have N15 := Fr.app N0 N15q
  have z16 : h0.size ≤ b8 := Nat.le_trans (Keep.refl h0 []).1 (Nat.le_of_eq g8.symm)
  have O_K15 : Old Z n0 T15.heap := O_E8.keep K15 (allS g10 all0)
  have Kp_K15 : Keep h0 T15.heap [] := Kp_E8.trans K15 (allS (Or.inr z16) all0)
  replace X15 : Stand p l e R _ m args below meth c T15 _ (cells + 1) (slots + 3) := X15
  obtain ⟨_, h17, X17, e17, E17, A17, D17, -, st17⟩ := newO X15 hx hZ hown (ow hw 34 rfl) (ow hw 35 rfl) (ow hw 36 rfl) rfl (g := (mkF m 53 #[iv p1, iv p2, iv p3, iv p4, rv a5, iv p6, iv p7, rv b8, un, un, un, un, un, un, un, un, un, un, un] [])) rfl (hb hby at_53) (by omega) (by omega)
  obtain ⟨b17, g17⟩ : ∃ z, z = T15.heap.size := ⟨_, rfl⟩
  rw [← g17] at A17 D17 st17
  have O_E17 : Old Z n0 h17 := O_K15.ext E17
  have Kp_E17 : Keep h0 h17 [] := Kp_K15.ext E17
  obtain ⟨_, X20, e20, st20⟩ := getS2 X17 hx hZ hown (host := "") (Or.inl (ow hw 37 rfl)) Via.refl e17 (H19.ext O_E17.2) (g := (mkF m 58 #[iv p1, iv p2, iv p3, iv p4, rv a5, iv p6, iv p7, rv b8, un, un, un, un, un, un, un, un, un, un, un] [(.int (0:Int32)), (.ref b17), (.ref b17)])) rfl (hb hby at_58)
  obtain ⟨a21, T21, h21, _, X21, e21, E21, hS21, hk21, hZ21, hown21, st21⟩ := ldcS (s := s) (vm0 := s.vm) X20 hx hZ (own := "tabula/engine/ConceptOperandsPinLaw") hown (ow hw 39 rfl) (fun d hd => hw d (strW d hd)) e20 (State.WarmedH.since (State.WarmedH.refl s) 0) (Nat.zero_le _) (g := (mkF m 61 #[iv p1, iv p2, iv p3, iv p4, rv a5, iv p6, iv p7, rv b8, un, un, un, un, un, un, un, un, un, un, un] [(.ref a18), (.int (0:Int32)), (.ref b17), (.ref b17)])) rfl (hb hby at_61) (n := 4) (by decide) (by decide) (by omega) (by omega)
  have O_E21 : Old Z n0 h21 := O_E17.ext E21
  have Kp_E21 : Keep h0 h21 [] := Kp_E17.ext E21
  have f22 : xF4 Z h17 b17 (.int (0:Int32)) := D17 (Or.inr (ow hw 52 rfl)) (ty := .int) (by decide)
  have f23 := (f22.ext E21)
  have f24 := (A17.ext E21)
  have g25 : n0 ≤ b17 := Nat.le_trans (Nat.le_trans (Nat.le_of_eq O_K15.1.symm) O_K15.2.1) (Nat.le_of_eq g17.symm)
  have f26 : xF6 Z h17 b17 .null := D17 (Or.inr (ow hw 54 rfl)) (ty := (.object "tabula/engine/Concept$Kind")) (by decide)
  have f27 := (f26.ext E21)
  have f28 : xF7 Z h17 b17 .null := D17 (Or.inr (ow hw 56 rfl)) (ty := (.object "java/lang/String")) (by decide)
  have f29 := (f28.ext E21)
  have f30 : xF8 Z h17 b17 .null := D17 (Or.inr (ow hw 58 rfl)) (ty := (.object "tabula/engine/Role")) (by decide)
  have f31 := (f30.ext E21)
  have f32 : xF9 Z h17 b17 (.int (0:Int32)) := D17 (Or.inr (ow hw 60 rfl)) (ty := .int) (by decide)
  have f33 := (f32.ext E21)
  have f34 := ((f15_2.ext E17).ext E21)
  have f35 := ((f15_4.ext E17).ext E21)
  have ne36 : b8 ≠ b17 := Nat.ne_of_lt (Nat.lt_of_lt_of_le (A8.keep K15).lt (Nat.le_of_eq g17.symm))
  have f39 : xF10 Z h17 b17 .null := D17 (Or.inr (ow hw 91 rfl)) (ty := (.object "java/util/List")) (by decide)
  have f40 := (f39.ext E21)
  have f41 := ((f15_1.ext E17).ext E21)
  have f42 : xF16 Z h17 b17 (.int (0:Int32)) := D17 (Or.inr (ow hw 130 rfl)) (ty := .boolean) (by decide)
  have f43 := (f42.ext E21)
  obtain ⟨T44, _, _, X44, hQ44, st44⟩ := cP X21 hx hZ21 hw hown21 (y := y5) rfl 47 rfl 48 rfl 49 rfl 36 rfl (by decide) (W := 1) (r5_1 hw b17 (0:Int32) a18 a21 (0:Int32) b8 a37 O_E21 f23 f24 g25 f27 f29 f31 f33 f34 f35 ne36 H38 f40 f41 f43) (by show 3 + 1 ≤ R.frames; omega) (by show 1 + (10 + 11) + 38 ≤ R.locals; omega) e21 (g := (mkF m 67 #[iv p1, iv p2, iv p3, iv p4, rv a5, iv p6, iv p7, rv b8, un, un, un, un, un, un, un, un, un, un, un] [(.ref b8), (.int (0:Int32)), .null, (.ref a21), (.ref a18), (.int (0:Int32)), (.ref b17), (.ref b17)])) rfl (by rw [hml]; rfl) (argsL := [(.int (0:Int32)), (.ref a18), (.ref a21), .null, (.int (0:Int32)), (.ref b8)]) (rest := [(.ref b17)]) (lenOf pd0 rfl) rfl wf (hb hby at_67) rfl (by show cells + 4 + 1 ≤ R.cells; omega) (by show slots + 19 + 4 ≤ R.slots; omega)
  obtain ⟨rfl, N44q, K44, f44_1, f44_2, f44_3, f44_4⟩ := hQ44
  have N44 := Fr.app N15 N44q
  have z45 : h0.size ≤ b17 := Nat.le_trans Kp_K15.1 (Nat.le_of_eq g17.symm)
  have O_K44 : Old Z n0 T44.heap := O_E21.keep K44 (allS g25 all0)
  have Kp_K44 : Keep h0 T44.heap [] := Kp_E21.trans K44 (allS (Or.inr z45) all0)
  replace X44 : Stand p l e R _ m args below meth c T44 _ (cells + 5) (slots + 23) := X44
  obtain ⟨_, h46, X46, e46, E46, A46, D46, -, st46⟩ := newO X44 hx hZ21 hown21 (ow hw 34 rfl) (ow hw 35 rfl) (ow hw 36 rfl) rfl (g := (mkF m 72 #[iv p1, iv p2, iv p3, iv p4, rv a5, iv p6, iv p7, rv b8, rv b17, un, un, un, un, un, un, un, un, un, un] [])) rfl (hb hby at_72) (by omega) (by omega)
  obtain ⟨b46, g46⟩ : ∃ z, z = T44.heap.size := ⟨_, rfl⟩
  rw [← g46] at A46 D46 st46
  have O_E46 : Old Z n0 h46 := O_K44.ext E46
  have Kp_E46 : Keep h0 h46 [] := Kp_K44.ext E46
  obtain ⟨_, X47, e47, st47⟩ := getS2 X46 hx hZ21 hown21 (host := "") (Or.inl (ow hw 37 rfl)) Via.refl e46 (H19.ext O_E46.2) (g := (mkF m 77 #[iv p1, iv p2, iv p3, iv p4, rv a5, iv p6, iv p7, rv b8, rv b17, un, un, un, un, un, un, un, un, un, un] [(.int (1:Int32)), (.ref b46), (.ref b46)])) rfl (hb hby at_77)
  obtain ⟨a48, T48, h48, _, X48, e48, E48, hS48, hk48, hZ48, hown48, st48⟩ := ldcS (s := s) (vm0 := T21.vm) X47 hx hZ21 (own := "tabula/engine/ConceptOperandsPinLaw") hown21 (ow hw 131 rfl) (fun d hd => hw d (strW d hd)) e47 hS21 (Nat.le_trans (Nat.le_trans hk21 K44.1) E46.1) (g := (mkF m 80 #[iv p1, iv p2, iv p3, iv p4, rv a5, iv p6, iv p7, rv b8, rv b17, un, un, un, un, un, un, un, un, un, un] [(.ref a18), (.int (1:Int32)), (.ref b46), (.ref b46)])) rfl (hb hby at_80) (n := 4) (by decide) (by decide) (by omega) (by omega)
  have O_E48 : Old Z n0 h48 := O_E46.ext E48
  have Kp_E48 : Keep h0 h48 [] := Kp_E46.ext E48
  have f49 : xF4 Z h46 b46 (.int (0:Int32)) := D46 (Or.inr (ow hw 52 rfl)) (ty := .int) (by decide)
  have f50 := (f49.ext E48)
  have f51 := (A46.ext E48)
  have g52 : n0 ≤ b46 := Nat.le_trans (Nat.le_trans (Nat.le_of_eq O_K44.1.symm) O_K44.2.1) (Nat.le_of_eq g46.symm)
  have f53 : xF6 Z h46 b46 .null := D46 (Or.inr (ow hw 54 rfl)) (ty := (.object "tabula/engine/Concept$Kind")) (by decide)
  have f54 := (f53.ext E48)
  have f55 : xF7 Z h46 b46 .null := D46 (Or.inr (ow hw 56 rfl)) (ty := (.object "java/lang/String")) (by decide)
  have f56 := (f55.ext E48)
  have f57 : xF8 Z h46 b46 .null := D46 (Or.inr (ow hw 58 rfl)) (ty := (.object "tabula/engine/Role")) (by decide)
  have f58 := (f57.ext E48)
  have f59 : xF9 Z h46 b46 (.int (0:Int32)) := D46 (Or.inr (ow hw 60 rfl)) (ty := .int) (by decide)
  have f60 := (f59.ext E48)
  have f61 := (((f34.keep K44).ext E46).ext E48)
  have f62 := (((f35.keep K44 (ninS ne36 nin0)).ext E46).ext E48)
  have ne63 : b8 ≠ b46 := Nat.ne_of_lt (Nat.lt_of_lt_of_le ((((A8.keep K15).ext E17).ext E21).keep K44).lt (Nat.le_of_eq g46.symm))
  have f64 : xF10 Z h46 b46 .null := D46 (Or.inr (ow hw 91 rfl)) (ty := (.object "java/util/List")) (by decide)
  have f65 := (f64.ext E48)
  have f66 := (((f41.keep K44 (ninS ne36 nin0)).ext E46).ext E48)
  have f67 : xF16 Z h46 b46 (.int (0:Int32)) := D46 (Or.inr (ow hw 130 rfl)) (ty := .boolean) (by decide)
  have f68 := (f67.ext E48)
  obtain ⟨T69, _, _, X69, hQ69, st69⟩ := cP X48 hx hZ48 hw hown48 (y := y5) rfl 47 rfl 48 rfl 49 rfl 36 rfl (by decide) (W := 1) (r5_1 hw b46 (1:Int32) a18 a48 (0:Int32) b8 a37 O_E48 f50 f51 g52 f54 f56 f58 f60 f61 f62 ne63 H38 f65 f66 f68) (by show 3 + 1 ≤ R.frames; omega) (by show 1 + (10 + 11) + 38 ≤ R.locals; omega) e48 (g := (mkF m 86 #[iv p1, iv p2, iv p3, iv p4, rv a5, iv p6, iv p7, rv b8, rv b17, un, un, un, un, un, un, un, un, un, un] [(.ref b8), (.int (0:Int32)), .null, (.ref a48), (.ref a18), (.int (1:Int32)), (.ref b46), (.ref b46)])) rfl (by rw [hml]; rfl) (argsL := [(.int (1:Int32)), (.ref a18), (.ref a48), .null, (.int (0:Int32)), (.ref b8)]) (rest := [(.ref b46)]) (lenOf pd0 rfl) rfl wf (hb hby at_86) rfl (by show cells + 8 + 1 ≤ R.cells; omega) (by show slots + 39 + 4 ≤ R.slots; omega)
  obtain ⟨rfl, N69q, K69, f69_1, f69_2, f69_3, f69_4⟩ := hQ69
  have N69 := Fr.app N44 N69q
  have z70 : h0.size ≤ b46 := Nat.le_trans Kp_K44.1 (Nat.le_of_eq g46.symm)
  have O_K69 : Old Z n0 T69.heap := O_E48.keep K69 (allS g52 all0)
  have Kp_K69 : Keep h0 T69.heap [] := Kp_E48.trans K69 (allS (Or.inr z70) all0)
  replace X69 : Stand p l e R _ m args below meth c T69 _ (cells + 9) (slots + 43) := X69
  obtain ⟨T71, h71, X71, e71, E71, A71, D71, -, st71⟩ := newO X69 hx hZ48 hown48 (ow hw 34 rfl) (ow hw 35 rfl) (ow hw 36 rfl) rfl (g := (mkF m 91 #[iv p1, iv p2, iv p3, iv p4, rv a5, iv p6, iv p7, rv b8, rv b17, rv b46, un, un, un, un, un, un, un, un, un] [])) rfl (hb hby at_91) (by omega) (by omega)
  obtain ⟨b71, g71⟩ : ∃ z, z = T69.heap.size := ⟨_, rfl⟩
  rw [← g71] at A71 D71 st71
  have O_E71 : Old Z n0 h71 := O_K69.ext E71
  have Kp_E71 : Keep h0 h71 [] := Kp_K69.ext E71
  obtain ⟨_, X72, e72, st72⟩ := getS2 X71 hx hZ48 hown48 (host := "") (Or.inl (ow hw 37 rfl)) Via.refl e71 (H19.ext O_E71.2) (g := (mkF m 96 #[iv p1, iv p2, iv p3, iv p4, rv a5, iv p6, iv p7, rv b8, rv b17, rv b46, un, un, un, un, un, un, un, un, un] [(.int (2:Int32)), (.ref b71), (.ref b71)])) rfl (hb hby at_96)
  obtain ⟨a73, T73, h73, _, X73, e73, E73, hS73, hk73, hZ73, hown73, st73⟩ := ldcS (s := s) (vm0 := T48.vm) X72 hx hZ48 (own := "tabula/engine/ConceptOperandsPinLaw") hown48 (ow hw 132 rfl) (fun d hd => hw d (strW d hd)) e72 hS48 (Nat.le_trans (Nat.le_trans hk48 K69.1) E71.1) (g := (mkF m 99 #[iv p1, iv p2, iv p3, iv p4, rv a5, iv p6, iv p7, rv b8, rv b17, rv b46, un, un, un, un, un, un, un, un, un] [(.ref a18), (.int (2:Int32)), (.ref b71), (.ref b71)])) rfl (hb hby at_99) (n := 4) (by decide) (by decide) (by omega) (by omega)
  have O_E73 : Old Z n0 h73 := O_E71.ext E73
  have Kp_E73 : Keep h0 h73 [] := Kp_E71.ext E73
  have f74 : xF4 Z h71 b71 (.int (0:Int32)) := D71 (Or.inr (ow hw 52 rfl)) (ty := .int) (by decide)
  have f75 := (f74.ext E73)
  have f76 := (A71.ext E73)
  have g77 : n0 ≤ b71 := Nat.le_trans (Nat.le_trans (Nat.le_of_eq O_K69.1.symm) O_K69.2.1) (Nat.le_of_eq g71.symm)
  have f78 : xF6 Z h71 b71 .null := D71 (Or.inr (ow hw 54 rfl)) (ty := (.object "tabula/engine/Concept$Kind")) (by decide)
  have f79 := (f78.ext E73)
  have f80 : xF7 Z h71 b71 .null := D71 (Or.inr (ow hw 56 rfl)) (ty := (.object "java/lang/String")) (by decide)
  have f81 := (f80.ext E73)
  have f82 : xF8 Z h71 b71 .null := D71 (Or.inr (ow hw 58 rfl)) (ty := (.object "tabula/engine/Role")) (by decide)
  have f83 := (f82.ext E73)
  have f84 : xF9 Z h71 b71 (.int (0:Int32)) := D71 (Or.inr (ow hw 60 rfl)) (ty := .int) (by decide)
  have f85 := (f84.ext E73)
  have f86 := (((f61.keep K69).ext E71).ext E73)
  have f87 := (((f62.keep K69 (ninS ne63 nin0)).ext E71).ext E73)
  have ne88 : b8 ≠ b71 := Nat.ne_of_lt (Nat.lt_of_lt_of_le (((((((A8.keep K15).ext E17).ext E21).keep K44).ext E46).ext E48).keep K69).lt (Nat.le_of_eq g71.symm))
  have f89 : xF10 Z h71 b71 .null := D71 (Or.inr (ow hw 91 rfl)) (ty := (.object "java/util/List")) (by decide)
  have f90 := (f89.ext E73)
  have f91 := (((f66.keep K69 (ninS ne63 nin0)).ext E71).ext E73)
  have f92 : xF16 Z h71 b71 (.int (0:Int32)) := D71 (Or.inr (ow hw 130 rfl)) (ty := .boolean) (by decide)
  have f93 := (f92.ext E73)
  obtain ⟨T94, _, _, X94, hQ94, st94⟩ := cP X73 hx hZ73 hw hown73 (y := y5) rfl 47 rfl 48 rfl 49 rfl 36 rfl (by decide) (W := 1) (r5_1 hw b71 (2:Int32) a18 a73 (0:Int32) b8 a37 O_E73 f75 f76 g77 f79 f81 f83 f85 f86 f87 ne88 H38 f90 f91 f93) (by show 3 + 1 ≤ R.frames; omega) (by show 1 + (10 + 11) + 38 ≤ R.locals; omega) e73 (g := (mkF m 105 #[iv p1, iv p2, iv p3, iv p4, rv a5, iv p6, iv p7, rv b8, rv b17, rv b46, un, un, un, un, un, un, un, un, un] [(.ref b8), (.int (0:Int32)), .null, (.ref a73), (.ref a18), (.int (2:Int32)), (.ref b71), (.ref b71)])) rfl (by rw [hml]; rfl) (argsL := [(.int (2:Int32)), (.ref a18), (.ref a73), .null, (.int (0:Int32)), (.ref b8)]) (rest := [(.ref b71)]) (lenOf pd0 rfl) rfl wf (hb hby at_105) rfl (by show cells + 12 + 1 ≤ R.cells; omega) (by show slots + 59 + 4 ≤ R.slots; omega)
  obtain ⟨rfl, N94q, K94, f94_1, f94_2, f94_3, f94_4⟩ := hQ94
  have N94 := Fr.app N69 N94q
  have z95 : h0.size ≤ b71 := Nat.le_trans Kp_K69.1 (Nat.le_of_eq g71.symm)
  have O_K94 : Old Z n0 T94.heap := O_E73.keep K94 (allS g77 all0)
  have Kp_K94 : Keep h0 T94.heap [] := Kp_E73.trans K94 (allS (Or.inr z95) all0)
  replace X94 : Stand p l e R _ m args below meth c T94 _ (cells + 13) (slots + 63) := X94
  obtain ⟨_, h96, X96, e96, E96, A96, D96, -, st96⟩ := newO X94 hx hZ73 hown73 (ow hw 8 rfl) (ow hw 9 rfl) (ow hw 10 rfl) rfl (g := (mkF m 110 #[iv p1, iv p2, iv p3, iv p4, rv a5, iv p6, iv p7, rv b8, rv b17, rv b46, rv b71, un, un, un, un, un, un, un, un] [])) rfl (hb hby at_110) (by omega) (by omega)
  obtain ⟨b96, g96⟩ : ∃ z, z = T94.heap.size := ⟨_, rfl⟩
  rw [← g96] at A96 D96 st96
  have O_E96 : Old Z n0 h96 := O_K94.ext E96
  have Kp_E96 : Keep h0 h96 [] := Kp_K94.ext E96
  have f97 : xF0 Z h96 b96 (.int (0:Int32)) := D96 (Or.inl (ow hw 30 rfl)) (ty := .int) (by decide)
  have g98 : n0 ≤ b96 := Nat.le_trans (Nat.le_trans (Nat.le_of_eq O_K94.1.symm) O_K94.2.1) (Nat.le_of_eq g96.symm)
  have f99 : xF2 Z h96 b96 .null := D96 (Or.inl (ow hw 33 rfl)) (ty := (.array (.object "java/lang/Object"))) (by decide)
  have f100 : xF3 Z h96 b96 (.int (0:Int32)) := D96 (Or.inl (ow hw 85 rfl)) (ty := .int) (by decide)
  obtain ⟨T101, _, _, X101, hQ101, st101⟩ := cP X96 hx hZ73 hw hown73 (y := y2) rfl 11 rfl 12 rfl 13 rfl 10 rfl (by decide) (W := 1) (r2_1 hw b96 a13 O_E96 f97 A96 g98 f99 f100 H14) (by show 3 + 1 ≤ R.frames; omega) (by show 1 + (1 + 11) + 36 ≤ R.locals; omega) e96 (g := (mkF m 114 #[iv p1, iv p2, iv p3, iv p4, rv a5, iv p6, iv p7, rv b8, rv b17, rv b46, rv b71, un, un, un, un, un, un, un, un] [(.ref b96), (.ref b96)])) rfl (by rw [hml]; rfl) (argsL := []) (rest := [(.ref b96)]) (lenOf pd22 rfl) rfl wf (hb hby at_114) rfl (by show cells + 14 + 0 ≤ R.cells; omega) (by show slots + 66 + 0 ≤ R.slots; omega)
  obtain ⟨rfl, N101q, K101, f101_1, f101_2, f101_3, f101_4⟩ := hQ101
  have N101 := Fr.app N94 N101q
  have z102 : h0.size ≤ b96 := Nat.le_trans Kp_K94.1 (Nat.le_of_eq g96.symm)
  have Kp_K101 : Keep h0 T101.heap [] := Kp_E96.trans K101 (allS (Or.inr z102) all0)
  replace X101 : Stand p l e R _ m args below meth c T101 _ (cells + 14) (slots + 66) := X101
  have ne103 : b8 ≠ b96 := Nat.ne_of_lt (Nat.lt_of_lt_of_le (f86.keep K94).lt (Nat.le_of_eq g96.symm))
  have ne104 : b17 ≠ b46 := Nat.ne_of_lt (Nat.lt_of_lt_of_le f44_1.lt (Nat.le_of_eq g46.symm))
  have ne105 : b17 ≠ b71 := Nat.ne_of_lt (Nat.lt_of_lt_of_le (((f44_1.ext E46).ext E48).keep K69).lt (Nat.le_of_eq g71.symm))
  have ne106 : b17 ≠ b96 := Nat.ne_of_lt (Nat.lt_of_lt_of_le ((((((f44_1.ext E46).ext E48).keep K69).ext E71).ext E73).keep K94).lt (Nat.le_of_eq g96.symm))
  have ne107 : b46 ≠ b71 := Nat.ne_of_lt (Nat.lt_of_lt_of_le f69_1.lt (Nat.le_of_eq g71.symm))
  have ne108 : b46 ≠ b96 := Nat.ne_of_lt (Nat.lt_of_lt_of_le (((f69_1.ext E71).ext E73).keep K94).lt (Nat.le_of_eq g96.symm))
  have ne109 : b71 ≠ b96 := Nat.ne_of_lt (Nat.lt_of_lt_of_le f94_1.lt (Nat.le_of_eq g96.symm))
  have f110 := (((f86.keep K94).ext E96).keep K101)
  have f111 := (((f91.keep K94 (ninS ne88 nin0)).ext E96).keep K101 (ninS ne103 nin0))
  have f112 := (((((((((((f15_3.ext E17).ext E21).keep K44 (ninS ne36 nin0)).ext E46).ext E48).keep K69 (ninS ne63 nin0)).ext E71).ext E73).keep K94 (ninS ne88 nin0)).ext E96).keep K101 (ninS ne103 nin0))
  have f113 := (((f87.keep K94 (ninS ne88 nin0)).ext E96).keep K101 (ninS ne103 nin0))
  have f114 := ((((((((f44_1.ext E46).ext E48).keep K69).ext E71).ext E73).keep K94).ext E96).keep K101)
  have f115 := ((((((((f44_2.ext E46).ext E48).keep K69 (ninS ne104 nin0)).ext E71).ext E73).keep K94 (ninS ne105 nin0)).ext E96).keep K101 (ninS ne106 nin0))
  have f116 := ((((((((f44_3.ext E46).ext E48).keep K69 (ninS ne104 nin0)).ext E71).ext E73).keep K94 (ninS ne105 nin0)).ext E96).keep K101 (ninS ne106 nin0))
  have f117 := ((((((((f44_4.ext E46).ext E48).keep K69 (ninS ne104 nin0)).ext E71).ext E73).keep K94 (ninS ne105 nin0)).ext E96).keep K101 (ninS ne106 nin0))
  have f118 := (((((f69_1.ext E71).ext E73).keep K94).ext E96).keep K101)
  have f119 := (((((f69_2.ext E71).ext E73).keep K94 (ninS ne107 nin0)).ext E96).keep K101 (ninS ne108 nin0))
  have f120 := (((((f69_3.ext E71).ext E73).keep K94 (ninS ne107 nin0)).ext E96).keep K101 (ninS ne108 nin0))
  have f121 := (((((f69_4.ext E71).ext E73).keep K94 (ninS ne107 nin0)).ext E96).keep K101 (ninS ne108 nin0))
  have f122 := ((f94_1.ext E96).keep K101)
  have f123 := ((f94_2.ext E96).keep K101 (ninS ne109 nin0))
  have f124 := ((f94_3.ext E96).keep K101 (ninS ne109 nin0))
  have f125 := ((f94_4.ext E96).keep K101 (ninS ne109 nin0))
  refine ⟨T101, _, _, T73.vm, b8, b17, b46, b71, b96, X101.more (by omega) (by omega), rfl, own_since hS73 (Nat.le_trans (Nat.le_trans (Nat.le_trans hk73 K94.1) E96.1) K101.1), N101, Kp_K101, z16, z45, z70, z95, z102, ne36, ne63, ne88, ne103, ne104, ne105, ne106, ne107, ne108, ne109, f110, f111, f112, f113, f114, f115, f116, f117, f118, f119, f120, f121, f122, f123, f124, f125, f101_2, f101_1, f101_3, f101_4, fun target kt => ?_⟩
  show St p e below T0 m 44 #[iv p1, iv p2, iv p3, iv p4, rv a5, iv p6, iv p7, un, un, un, un, un, un, un, un, un, un, un, un] [] _
  refine st8 _ ?_
  refine XS.dup X8.here hx rfl (hb hby at_47) rfl rfl ?_
  refine st15.trans ?_
  refine XS.astore X15.here hx rfl (hb hby at_51) rfl rfl (l' := #[iv p1, iv p2, iv p3, iv p4, rv a5, iv p6, iv p7, rv b8, un, un, un, un, un, un, un, un, un, un, un]) rfl ?_
  refine st17 _ ?_
  refine XS.dup X17.here hx rfl (hb hby at_56) rfl rfl ?_
  refine iC X17 hx hby at_57 ?_
  refine st20 _ ?_
  refine st21 _ ?_
  refine XS.aconstNull X21.here hx rfl (hb hby at_63) ?_
  refine iC X21 hx hby at_64 ?_
  refine aL X21 hx hby at_65 rfl rfl ?_
  refine st44.trans ?_
  refine XS.astore X44.here hx rfl (hb hby at_70) rfl rfl (l' := #[iv p1, iv p2, iv p3, iv p4, rv a5, iv p6, iv p7, rv b8, rv b17, un, un, un, un, un, un, un, un, un, un]) rfl ?_
  refine st46 _ ?_
  refine XS.dup X46.here hx rfl (hb hby at_75) rfl rfl ?_
  refine iC X46 hx hby at_76 ?_
  refine st47 _ ?_
  refine st48 _ ?_
  refine XS.aconstNull X48.here hx rfl (hb hby at_82) ?_
  refine iC X48 hx hby at_83 ?_
  refine aL X48 hx hby at_84 rfl rfl ?_
  refine st69.trans ?_
  refine XS.astore X69.here hx rfl (hb hby at_89) rfl rfl (l' := #[iv p1, iv p2, iv p3, iv p4, rv a5, iv p6, iv p7, rv b8, rv b17, rv b46, un, un, un, un, un, un, un, un, un]) rfl ?_
  refine st71 _ ?_
  show St p e below T71 m 94 #[iv p1, iv p2, iv p3, iv p4, rv a5, iv p6, iv p7, rv b8, rv b17, rv b46, un, un, un, un, un, un, un, un, un] [(.ref b71)] _
  refine XS.dup X71.here hx rfl (hb hby at_94) rfl rfl ?_
  refine iC X71 hx hby at_95 ?_
  refine st72 _ ?_
  refine st73 _ ?_
  refine XS.aconstNull X73.here hx rfl (hb hby at_101) ?_
  refine iC X73 hx hby at_102 ?_
  refine aL X73 hx hby at_103 rfl rfl ?_
  refine st94.trans ?_
  refine XS.astore X94.here hx rfl (hb hby at_108) rfl rfl (l' := #[iv p1, iv p2, iv p3, iv p4, rv a5, iv p6, iv p7, rv b8, rv b17, rv b46, rv b71, un, un, un, un, un, un, un, un]) rfl ?_
  refine st96 _ ?_
  refine XS.dup X96.here hx rfl (hb hby at_113) rfl rfl ?_
  refine st101.trans ?_
  refine XS.astore X101.here hx rfl (hb hby at_117) rfl rfl (l' := #[iv p1, iv p2, iv p3, iv p4, rv a5, iv p6, iv p7, rv b8, rv b17, rv b46, rv b71, rv b96, un, un, un, un, un, un, un]) rfl ?_
  refine iC X101 hx hby at_119 ?_
  refine XS.istore X101.here hx rfl (hb hby at_120) rfl (l' := #[iv p1, iv p2, iv p3, iv p4, rv a5, iv p6, iv p7, rv b8, rv b17, rv b46, rv b71, rv b96, iv (0:Int32), un, un, un, un, un, un]) rfl ?_
  exact kt
theorem g1_3 (p1 p2 p3 p4:Int32) (a5 : Addr) (p6 p7:Int32) (a8 a9 a10 a11 a12 : Addr) (p13:Int32)
    (H0 : SG p l e R s m args below meth c T0 locs cells slots Z a0 h0 n0 0 0 0 0) (hc14 : p6 = (0:Int32)) (hc15 : p7 = (0:Int32)) :
    ∃ (T' : State) (L' : List Loc), Stand p l e R s m args below meth c T' L' (cells + 0) (slots + 0) ∧ T'.heap = h0 ∧ Fr n0 L' ∧
      ∀ target, St p e below T' m 180 #[iv p1, iv p2, iv p3, iv p4, rv a5, iv p6, iv p7, rv a8, rv a9, rv a10, rv a11, rv a12, iv p13, un, un, un, un, un, un] [] target → St p e below T0 m 122 #[iv p1, iv p2, iv p3, iv p4, rv a5, iv p6, iv p7, rv a8, rv a9, rv a10, rv a11, rv a12, iv p13, un, un, un, un, un, un] [] target := by
  obtain ⟨X0, hx, hZ, hw, hby, hml, hown, e0, O0, N0, rc, rs, rf, rl⟩ := H0
  refine ⟨T0, _, X0.more (by omega) (by omega), e0, N0, fun target kt => ?_⟩
  show St p e below T0 m 122 #[iv p1, iv p2, iv p3, iv p4, rv a5, iv p6, iv p7, rv a8, rv a9, rv a10, rv a11, rv a12, iv p13, un, un, un, un, un, un] [] _
  refine iL X0 hx hby at_122 rfl ?_
  refine XS.ifYes X0.here hx rfl (pc0 := 124) (pc' := 167) rfl (hb hby at_124) rfl ((if0 _ _).trans (teq hc14).1) (by decide) (by decide) ?_
  refine iL X0 hx hby at_167 rfl ?_
  refine XS.ifYes X0.here hx rfl (pc0 := 169) (pc' := 180) rfl (hb hby at_169) rfl ((if0 _ _).trans (teq hc15).1) (by decide) (by decide) ?_
  exact kt
theorem g1_4 (p1 p2 p3 p4:Int32) (a5 : Addr) (p6 p7:Int32) (a8 a9 a10 a11 a12 : Addr) (p13:Int32)
    (H0 : SG p l e R s m args below meth c T0 locs cells slots Z a0 h0 n0 0 0 0 0) (hc14 : p7 = (0:Int32)) :
    ∃ (T' : State) (L' : List Loc), Stand p l e R s m args below meth c T' L' (cells + 0) (slots + 0) ∧ T'.heap = h0 ∧ Fr n0 L' ∧
      ∀ target, St p e below T' m 246 #[iv p1, iv p2, iv p3, iv p4, rv a5, iv p6, iv p7, rv a8, rv a9, rv a10, rv a11, rv a12, iv p13, .val .null, un, un, un, un, un] [] target → St p e below T0 m 180 #[iv p1, iv p2, iv p3, iv p4, rv a5, iv p6, iv p7, rv a8, rv a9, rv a10, rv a11, rv a12, iv p13, un, un, un, un, un, un] [] target := by
  obtain ⟨X0, hx, hZ, hw, hby, hml, hown, e0, O0, N0, rc, rs, rf, rl⟩ := H0
  refine ⟨T0, _, X0.more (by omega) (by omega), e0, N0, fun target kt => ?_⟩
  show St p e below T0 m 180 #[iv p1, iv p2, iv p3, iv p4, rv a5, iv p6, iv p7, rv a8, rv a9, rv a10, rv a11, rv a12, iv p13, un, un, un, un, un, un] [] _
  refine XS.aconstNull X0.here hx rfl (hb hby at_180) ?_
  refine XS.astore X0.here hx rfl (hb hby at_181) rfl rfl (l' := #[iv p1, iv p2, iv p3, iv p4, rv a5, iv p6, iv p7, rv a8, rv a9, rv a10, rv a11, rv a12, iv p13, .val .null, un, un, un, un, un]) rfl ?_
  refine iL X0 hx hby at_183 rfl ?_
  refine XS.ifYes X0.here hx rfl (pc0 := 185) (pc' := 246) rfl (hb hby at_185) rfl ((if0 _ _).trans (teq hc14).1) (by decide) (by decide) ?_
  exact kt
theorem g1_5 (p1 p2 p3 p4:Int32) (a5 : Addr) (p6 p7:Int32) (a8 a9 a10 a11 a12 : Addr) (p13:Int32)
    (H0 : SG p l e R s m args below meth c T0 locs cells slots Z a0 h0 n0 0 0 0 0) (hc14 : ¬ (p4 = (2:Int32))) (hc15 : ¬ (p4 = (3:Int32))) :
    ∃ (T' : State) (L' : List Loc), Stand p l e R s m args below meth c T' L' (cells + 0) (slots + 0) ∧ T'.heap = h0 ∧ Fr n0 L' ∧
      ∀ target, St p e below T' m 264 #[iv p1, iv p2, iv p3, iv p4, rv a5, iv p6, iv p7, rv a8, rv a9, rv a10, rv a11, rv a12, iv p13, .val .null, .val .null, un, un, un, un] [] target → St p e below T0 m 246 #[iv p1, iv p2, iv p3, iv p4, rv a5, iv p6, iv p7, rv a8, rv a9, rv a10, rv a11, rv a12, iv p13, .val .null, un, un, un, un, un] [] target := by
  obtain ⟨X0, hx, hZ, hw, hby, hml, hown, e0, O0, N0, rc, rs, rf, rl⟩ := H0
  refine ⟨T0, _, X0.more (by omega) (by omega), e0, N0, fun target kt => ?_⟩
  show St p e below T0 m 246 #[iv p1, iv p2, iv p3, iv p4, rv a5, iv p6, iv p7, rv a8, rv a9, rv a10, rv a11, rv a12, iv p13, .val .null, un, un, un, un, un] [] _
  refine iN X0 hx hby at_246 rfl ?_
  refine iC X0 hx hby at_247 ?_
  refine XS.icmpNo X0.here hx rfl (hb hby at_248) rfl (feq hc14).1 ?_
  refine iN X0 hx hby at_251 rfl ?_
  refine iC X0 hx hby at_252 ?_
  refine XS.icmpYes X0.here hx rfl (pc0 := 253) (pc' := 261) rfl (hb hby at_253) rfl (feq hc15).2 (by decide) (by decide) ?_
  refine XS.aconstNull X0.here hx rfl (hb hby at_261) ?_
  refine XS.astore X0.here hx rfl (hb hby at_262) rfl rfl (l' := #[iv p1, iv p2, iv p3, iv p4, rv a5, iv p6, iv p7, rv a8, rv a9, rv a10, rv a11, rv a12, iv p13, .val .null, .val .null, un, un, un, un]) rfl ?_
  exact kt
theorem d16_0 : dk method_3_code 0 (.iload_n 0) 1 := by decide +kernel
theorem d16_1 : dk method_3_code 1 (.bipush 6) 2 := by decide +kernel
theorem d16_3 : dk method_3_code 3 (.if_icmp .ne 5) 3 := by decide +kernel
theorem d16_8 : dk method_3_code 8 (.iload_n 0) 1 := by decide +kernel
theorem d16_9 : dk method_3_code 9 (.bipush 7) 2 := by decide +kernel
theorem d16_11 : dk method_3_code 11 (.if_icmp .ne 5) 3 := by decide +kernel
theorem d16_16 : dk method_3_code 16 (.iload_n 0) 1 := by decide +kernel
theorem d16_17 : dk method_3_code 17 (.bipush 8) 2 := by decide +kernel
theorem d16_19 : dk method_3_code 19 (.if_icmp .ne 9) 3 := by decide +kernel
theorem d16_28 : dk method_3_code 28 (.iload_n 0) 1 := by decide +kernel
theorem d16_29 : dk method_3_code 29 (.bipush 9) 2 := by decide +kernel
theorem d16_31 : dk method_3_code 31 (.if_icmp .ne 9) 3 := by decide +kernel
theorem d16_40 : dk method_3_code 40 (.iconst 0) 1 := by decide +kernel
theorem d16_41 : dk method_3_code 41 .ireturn 1 := by decide +kernel
abbrev y16 : MethodName := ⟨"tabula/engine/ConceptOperandsPinLaw", "cardinalityOf", "(II)I"⟩
def r16_1Q (Z : State) (p1 p2:Int32) (h0 : Heap) (n0 : Nat) : QT := fun v h L => v = some (.int (0:Int32)) ∧ Fr n0 L ∧ h = h0
theorem r16_1 (hw : HW a0 Z) (p1 p2:Int32) (O0 : Old Z n0 h0) (hc3 : ¬ (p1 = (6:Int32))) (hc4 : ¬ (p1 = (7:Int32))) (hc5 : ¬ (p1 = (8:Int32))) (hc6 : ¬ (p1 = (9:Int32))) :
    MF l y16 method_3_code 2 (some .int) [] (rM 0 0 0 0) Z #[(.int p1), (.int p2)] h0 (r16_1Q Z p1 p2 h0 n0) := by
  refine own_in (pq pn4) #[iv p1, iv p2] (fun _ => by first | (simp [entryFrame, mkF, argsToLocals, Value.category]; done) | rfl) ?_
  intro p e s m below meth c s₁ Bd hx hby hml hown hnm hZ e0 X0
  have N0 := Fr.nil n0
  refine fin (Q := r16_1Q Z p1 p2 h0 n0) (rm := (rM 0 0 0 0)) Bd X0 e0 (some (.int (0:Int32))) nofun ⟨rfl, N0, rfl⟩ (by decide) (by decide) fun fs hr => ?_
  show St p e below s₁ m 0 #[iv p1, iv p2] [] _
  refine iN X0 hx hby d16_0 rfl ?_
  refine XS.bipush X0.here hx rfl (hb hby d16_1) ?_
  refine XS.icmpYes X0.here hx rfl (pc0 := 3) (pc' := 8) rfl (hb hby d16_3) rfl (feq hc3).2 (by decide) (by decide) ?_
  refine iN X0 hx hby d16_8 rfl ?_
  refine XS.bipush X0.here hx rfl (hb hby d16_9) ?_
  refine XS.icmpYes X0.here hx rfl (pc0 := 11) (pc' := 16) rfl (hb hby d16_11) rfl (feq hc4).2 (by decide) (by decide) ?_
  refine iN X0 hx hby d16_16 rfl ?_
  refine XS.bipush X0.here hx rfl (hb hby d16_17) ?_
  refine XS.icmpYes X0.here hx rfl (pc0 := 19) (pc' := 28) rfl (hb hby d16_19) rfl (feq hc5).2 (by decide) (by decide) ?_
  refine iN X0 hx hby d16_28 rfl ?_
  refine XS.bipush X0.here hx rfl (hb hby d16_29) ?_
  refine XS.icmpYes X0.here hx rfl (pc0 := 31) (pc' := 40) rfl (hb hby d16_31) rfl (feq hc6).2 (by decide) (by decide) ?_
  refine iC X0 hx hby d16_40 ?_
  exact retI X0 hx Bd.returns (hb hby d16_41) hr
theorem pd21 : parseMethodDescriptor "(II)I" = some ⟨[.int, .int], some .int⟩ := by decide +kernel
theorem g1_6 (p1 p2 p3 p4:Int32) (a5 : Addr) (p6 p7:Int32) (a8 a9 a10 a11 a12 : Addr) (p13:Int32)
    (H0 : SG p l e R s m args below meth c T0 locs cells slots Z a0 h0 n0 0 0 1 13) (hc14 : ¬ (p4 = (6:Int32))) (hc15 : ¬ (p4 = (7:Int32))) (hc16 : ¬ (p4 = (8:Int32))) (hc17 : ¬ (p4 = (9:Int32))) :
    ∃ (T' : State) (L' : List Loc), Stand p l e R s m args below meth c T' L' (cells + 0) (slots + 0) ∧ T'.heap = h0 ∧ Fr n0 L' ∧
      ∀ target, St p e below T' m 271 #[iv p1, iv p2, iv p3, iv p4, rv a5, iv p6, iv p7, rv a8, rv a9, rv a10, rv a11, rv a12, iv p13, .val .null, .val .null, iv (0:Int32), un, un, un] [] target → St p e below T0 m 264 #[iv p1, iv p2, iv p3, iv p4, rv a5, iv p6, iv p7, rv a8, rv a9, rv a10, rv a11, rv a12, iv p13, .val .null, .val .null, un, un, un, un] [] target := by
  obtain ⟨X0, hx, hZ, hw, hby, hml, hown, e0, O0, N0, rc, rs, rf, rl⟩ := H0
  obtain ⟨T18, _, _, X18, hQ18, st18⟩ := cS X0 hx hZ hw hown (y := y16) 133 rfl 134 rfl 3 rfl 135 rfl (by decide) (W := 0) (r16_1 hw p4 p2 O0 hc14 hc15 hc16 hc17) (by show 0 + 1 ≤ R.frames; omega) (by show 0 + (2 + 11) + 0 ≤ R.locals; omega) e0 (g := (mkF m 266 #[iv p1, iv p2, iv p3, iv p4, rv a5, iv p6, iv p7, rv a8, rv a9, rv a10, rv a11, rv a12, iv p13, .val .null, .val .null, un, un, un, un] [(.int p2), (.int p4)])) rfl (by rw [hml]; rfl) (argsL := [(.int p4), (.int p2)]) (rest := []) (lenOf pd21 rfl) rfl wf (hb hby at_266) rfl (by show cells + 0 + 0 ≤ R.cells; omega) (by show slots + 0 + 0 ≤ R.slots; omega)
  obtain ⟨rfl, N18q, e18⟩ := hQ18
  have N18 := Fr.app N0 N18q
  replace X18 : Stand p l e R _ m args below meth c T18 _ (cells + 0) (slots + 0) := X18
  refine ⟨T18, _, X18.more (by omega) (by omega), e18, N18, fun target kt => ?_⟩
  show St p e below T0 m 264 #[iv p1, iv p2, iv p3, iv p4, rv a5, iv p6, iv p7, rv a8, rv a9, rv a10, rv a11, rv a12, iv p13, .val .null, .val .null, un, un, un, un] [] _
  refine iN X0 hx hby at_264 rfl ?_
  refine iN X0 hx hby at_265 rfl ?_
  refine st18 _ ?_
  refine XS.istore X18.here hx rfl (hb hby at_269) rfl (l' := #[iv p1, iv p2, iv p3, iv p4, rv a5, iv p6, iv p7, rv a8, rv a9, rv a10, rv a11, rv a12, iv p13, .val .null, .val .null, iv (0:Int32), un, un, un]) rfl ?_
  exact kt
def r5_2Q (Z : State) (a1 : Addr) (p2:Int32) (a3 : Addr) (p4:Int32) (a5 a42 : Addr) (h0 : Heap) (n0 : Nat) : QT := fun v h L => v = none ∧ Fr n0 L ∧ Keep h0 h [a1] ∧ xE5 Z h a1 ∧ xF6 Z h a1 (.ref a3) ∧ xF10 Z h a1 (.ref a42) ∧ xF16 Z h a1 (.int (0:Int32))
theorem r5_2 (hw : HW a0 Z) (a1 : Addr) (p2:Int32) (a3 : Addr) (p4:Int32) (a5 a42 : Addr) (O0 : Old Z n0 h0) (H7 : xF4 Z h0 a1 (.int (0:Int32))) (H8 : xE5 Z h0 a1) (H10 : n0 ≤ a1) (H13 : xF6 Z h0 a1 .null) (H19 : xF7 Z h0 a1 .null) (H25 : xF8 Z h0 a1 .null) (H31 : xF9 Z h0 a1 (.int (0:Int32))) (H37 : xE1 Z h0 a5) (H39 : xF3 Z h0 a5 (.int (0:Int32))) (H40 : a5 ≠ a1) (H43 : Sta Z Z.heap "java/util/ImmutableCollections" "EMPTY_LIST" "Ljava/util/ImmutableCollections$ListN;" (.ref a42)) (H45 : xF10 Z h0 a1 .null) (H52 : xF0 Z h0 a5 (.int (0:Int32))) (H57 : xF16 Z h0 a1 (.int (0:Int32))) :
    MF l y5 cP16_1 10 none [] (rM 3 1 4 38) Z #[(.ref a1), (.int p2), (.ref a3), .null, .null, (.int p4), (.ref a5)] h0 (r5_2Q Z a1 p2 a3 p4 a5 a42 h0 n0) := by
  refine own_in (pq pn9) #[rv a1, iv p2, rv a3, .val .null, .val .null, iv p4, rv a5, un, un, un] (fun _ => by first | (simp [entryFrame, mkF, argsToLocals, Value.category]; done) | rfl) ?_
  intro p e s m below meth c s₁ Bd hx hby hml hown hnm hZ e0 X0
  have N0 := Fr.nil n0
  obtain ⟨_, X6, e6, st6⟩ := initO X0 hx hZ hown (ow hw 50 rfl) (ow hw 27 rfl) (ow hw 28 rfl) e0 (g := (mkF m 1 #[rv a1, iv p2, rv a3, .val .null, .val .null, iv p4, rv a5, un, un, un] [(.ref a1)])) rfl (by rw [hml]; rfl) rfl (hb hby d5_1) (by decide) (W := 0) wf (by decide)
  obtain ⟨_, h9, X9, e9, W9, st9⟩ := pF X6 hx hZ hown (ow hw 51 rfl) e6 H7 H8 (Or.inr ⟨(ow hw 52 rfl), rfl, hnm⟩) (ow hw 35 rfl) (ty := .int) (by decide) rfl rfl (g := (mkF m 6 #[rv a1, iv p2, rv a3, .val .null, .val .null, iv p4, rv a5, un, un, un] [(.int p2), (.ref a1)])) rfl rfl (hb hby d5_6)
  have O_W9 : Old Z n0 h9 := O0.wr W9 H10
  have Kp_W9 : Keep h0 h9 [a1] := (Keep.refl h0 [a1]).wr W9 (mI 0 rfl)
  have N11 := Fr.snoc X9 N0 H10
  have f14 := (H8.wr W9)
  have f15 := (H13.other W9 (Or.inr (sn11 hw)))
  obtain ⟨_, h16, X16, e16, W16, st16⟩ := pF X9 hx hZ hown (ow hw 53 rfl) e9 f15 f14 (Or.inr ⟨(ow hw 54 rfl), rfl, hnm⟩) (ow hw 35 rfl) (ty := (.object "tabula/engine/Concept$Kind")) (by decide) rfl rfl (g := (mkF m 11 #[rv a1, iv p2, rv a3, .val .null, .val .null, iv p4, rv a5, un, un, un] [(.ref a3), (.ref a1)])) rfl rfl (hb hby d5_11)
  have O_W16 : Old Z n0 h16 := O_W9.wr W16 H10
  have Kp_W16 : Keep h0 h16 [a1] := Kp_W9.wr W16 (mI 0 rfl)
  have N17 := Fr.snoc X16 N11 H10
  have f18 := f15.same W16
  have f20 := (f14.wr W16)
  have f21 := ((H19.other W9 (Or.inr (sn12 hw))).other W16 (Or.inr (sn13 hw)))
  obtain ⟨_, h22, X22, e22, W22, st22⟩ := pF X16 hx hZ hown (ow hw 55 rfl) e16 f21 f20 (Or.inr ⟨(ow hw 56 rfl), rfl, hnm⟩) (ow hw 35 rfl) (ty := (.object "java/lang/String")) (by decide) rfl rfl (g := (mkF m 16 #[rv a1, iv p2, rv a3, .val .null, .val .null, iv p4, rv a5, un, un, un] [.null, (.ref a1)])) rfl rfl (hb hby d5_16)
  have O_W22 : Old Z n0 h22 := O_W16.wr W22 H10
  have Kp_W22 : Keep h0 h22 [a1] := Kp_W16.wr W22 (mI 0 rfl)
  have N23 := Fr.snoc X22 N17 H10
  have f26 := (f20.wr W22)
  have f27 := (((H25.other W9 (Or.inr (sn14 hw))).other W16 (Or.inr (sn15 hw))).other W22 (Or.inr (sn16 hw)))
  obtain ⟨_, h28, X28, e28, W28, st28⟩ := pF X22 hx hZ hown (ow hw 57 rfl) e22 f27 f26 (Or.inr ⟨(ow hw 58 rfl), rfl, hnm⟩) (ow hw 35 rfl) (ty := (.object "tabula/engine/Role")) (by decide) rfl rfl (g := (mkF m 22 #[rv a1, iv p2, rv a3, .val .null, .val .null, iv p4, rv a5, un, un, un] [.null, (.ref a1)])) rfl rfl (hb hby d5_22)
  have O_W28 : Old Z n0 h28 := O_W22.wr W28 H10
  have Kp_W28 : Keep h0 h28 [a1] := Kp_W22.wr W28 (mI 0 rfl)
  have N29 := Fr.snoc X28 N23 H10
  have f32 := (f26.wr W28)
  have f33 := ((((H31.other W9 (Or.inr (sn17 hw))).other W16 (Or.inr (sn18 hw))).other W22 (Or.inr (sn19 hw))).other W28 (Or.inr (sn20 hw)))
  obtain ⟨_, h34, X34, e34, W34, st34⟩ := pF X28 hx hZ hown (ow hw 59 rfl) e28 f33 f32 (Or.inr ⟨(ow hw 60 rfl), rfl, hnm⟩) (ow hw 35 rfl) (ty := .int) (by decide) rfl rfl (g := (mkF m 28 #[rv a1, iv p2, rv a3, .val .null, .val .null, iv p4, rv a5, un, un, un] [(.int p4), (.ref a1)])) rfl rfl (hb hby d5_28)
  have O_W34 : Old Z n0 h34 := O_W28.wr W34 H10
  have Kp_W34 : Keep h0 h34 [a1] := Kp_W28.wr W34 (mI 0 rfl)
  have N35 := Fr.snoc X34 N29 H10
  have f38 := (((((H37.wr W9).wr W16).wr W22).wr W28).wr W34)
  have f41 := (((((H39.other W9 (Or.inl H40)).other W16 (Or.inl H40)).other W22 (Or.inl H40)).other W28 (Or.inl H40)).other W34 (Or.inl H40))
  obtain ⟨_, _, _, X44, hQ44, st44⟩ := cS X34 hx hZ hw hown (y := y6) 61 rfl 62 rfl 63 rfl 64 rfl (by decide) (W := 1) (r6_1 hw a5 a42 O_W34 f38 f41 H43) (by decide) (by decide) e34 (g := (mkF m 34 #[rv a1, iv p2, rv a3, .val .null, .val .null, iv p4, rv a5, un, un, un] [(.ref a5), (.ref a1)])) rfl (by rw [hml]; rfl) (argsL := [(.ref a5)]) (rest := [(.ref a1)]) (lenOf pd5 rfl) rfl wf (hb hby d5_34) rfl (by decide) (by decide)
  obtain ⟨rfl, N44q, e44⟩ := hQ44
  have N44 := Fr.app N35 N44q
  have f46 := (f32.wr W34)
  have f47 := (((((H45.other W9 (Or.inr (sn21 hw))).other W16 (Or.inr (sn22 hw))).other W22 (Or.inr (sn23 hw))).other W28 (Or.inr (sn24 hw))).other W34 (Or.inr (sn25 hw)))
  obtain ⟨T48, h48, X48, e48, W48, st48⟩ := pF X44 hx hZ hown (ow hw 90 rfl) e44 f47 f46 (Or.inr ⟨(ow hw 91 rfl), rfl, hnm⟩) (ow hw 35 rfl) (ty := (.object "java/util/List")) (by decide) rfl rfl (g := (mkF m 37 #[rv a1, iv p2, rv a3, .val .null, .val .null, iv p4, rv a5, un, un, un] [(.ref a42), (.ref a1)])) rfl rfl (hb hby d5_37)
  have O_W48 : Old Z n0 h48 := O_W34.wr W48 H10
  have Kp_W48 : Keep h0 h48 [a1] := Kp_W34.wr W48 (mI 0 rfl)
  have N49 := Fr.snoc X48 N44 H10
  have f50 := f47.same W48
  have f51 := (f38.wr W48)
  have f53 := ((((((H52.other W9 (Or.inl H40)).other W16 (Or.inl H40)).other W22 (Or.inl H40)).other W28 (Or.inl H40)).other W34 (Or.inl H40)).other W48 (Or.inl H40))
  obtain ⟨T54, _, _, X54, hQ54, st54⟩ := cI X48 hx hZ hw hown (x := y13) (y := y11) 92 rfl 93 rfl 94 rfl 95 rfl 96 rfl 97 rfl 98 rfl 99 rfl 100 rfl 10 rfl (by decide) (W := 0) (r11_1 hw a5 O_W48 f53 f51) (by decide) (by decide) f51 e48 (g := (mkF m 62 #[rv a1, iv p2, rv a3, .val .null, .val .null, iv p4, rv a5, iv (0:Int32), un, un] [(.ref a5)])) rfl (by rw [hml]; rfl) (argsL := []) (rest := []) (lenOf pd13 rfl) rfl wf (hb hby d5_62) rfl (by decide) (by decide)
  obtain ⟨b54_0, rfl, N54q, K54, _, f54_2, f54_3, _, _, f54_6⟩ := hQ54
  have N54 := Fr.app N49 N54q
  have O_K54 : Old Z n0 T54.heap := O_W48.keep K54 all0
  have Kp_K54 : Keep h0 T54.heap [a1] := Kp_W48.trans K54 all0
  have f55 := ((f41.other W48 (Or.inl H40)).keep K54 nin0)
  obtain ⟨_, _, _, X56, hQ56, st56⟩ := cI X54 hx hZ hw hown (x := y15) (y := y14) 117 rfl 118 rfl 119 rfl 120 rfl 121 rfl 122 rfl 123 rfl 124 rfl 125 rfl 103 rfl (by decide) (W := 0) (r14_1 hw b54_0 a5 O_K54 f54_6 f54_3 f55) (by decide) (by decide) f54_2 rfl (g := (mkF m 71 #[rv a1, iv p2, rv a3, .val .null, .val .null, iv p4, rv a5, iv (0:Int32), rv b54_0, un] [(.ref b54_0)])) rfl (by rw [hml]; rfl) (argsL := []) (rest := []) (lenOf pd23 rfl) rfl wf (hb hby d5_71) rfl (by decide) (by decide)
  obtain ⟨rfl, N56q, e56⟩ := hQ56
  have N56 := Fr.app N54 N56q
  have f58 := ((f46.wr W48).keep K54)
  have f59 := (((((((H57.other W9 (Or.inr (sn26 hw))).other W16 (Or.inr (sn27 hw))).other W22 (Or.inr (sn28 hw))).other W28 (Or.inr (sn29 hw))).other W34 (Or.inr (sn30 hw))).other W48 (Or.inr (sn31 hw))).keep K54 nin0)
  obtain ⟨_, h60, X60, e60, W60, st60⟩ := pF X56 hx hZ hown (ow hw 129 rfl) e56 f59 f58 (Or.inr ⟨(ow hw 130 rfl), rfl, hnm⟩) (ow hw 35 rfl) (ty := .boolean) (by decide) rfl rfl (g := (mkF m 107 #[rv a1, iv p2, rv a3, .val .null, .val .null, iv p4, rv a5, iv (0:Int32), rv b54_0, un] [(.int (0:Int32)), (.ref a1)])) rfl rfl (hb hby d5_107)
  have Kp_W60 : Keep h0 h60 [a1] := Kp_K54.wr W60 (mI 0 rfl)
  have N61 := Fr.snoc X60 N56 H10
  have f62 := f59.same W60
  have f63 := (f58.wr W60)
  have f64 := ((((((f18.other W22 (Or.inr (sn32 hw))).other W28 (Or.inr (sn33 hw))).other W34 (Or.inr (sn34 hw))).other W48 (Or.inr (sn35 hw))).keep K54 nin0).other W60 (Or.inr (sn36 hw)))
  have f65 := ((f50.keep K54 nin0).other W60 (Or.inr (sn37 hw)))
  refine fin (Q := r5_2Q Z a1 p2 a3 p4 a5 a42 h0 n0) (rm := (rM 3 1 4 38)) Bd X60 e60 (none) (fun _ => rfl) ⟨rfl, N61, Kp_W60, f63, f64, f65, f62⟩ (by decide) (by decide) fun fs hr => ?_
  show St p e below s₁ m 0 #[rv a1, iv p2, rv a3, .val .null, .val .null, iv p4, rv a5, un, un, un] [] _
  refine aN X0 hx hby d5_0 rfl rfl ?_
  refine st6 _ ?_
  refine aN X6 hx hby d5_4 rfl rfl ?_
  refine iN X6 hx hby d5_5 rfl ?_
  refine st9 _ ?_
  refine aN X9 hx hby d5_9 rfl rfl ?_
  refine aN X9 hx hby d5_10 rfl rfl ?_
  refine st16 _ ?_
  refine aN X16 hx hby d5_14 rfl rfl ?_
  refine aN X16 hx hby d5_15 rfl rfl ?_
  refine st22 _ ?_
  refine aN X22 hx hby d5_19 rfl rfl ?_
  refine aL X22 hx hby d5_20 rfl rfl ?_
  refine st28 _ ?_
  refine aN X28 hx hby d5_25 rfl rfl ?_
  refine iL X28 hx hby d5_26 rfl ?_
  refine st34 _ ?_
  refine aN X34 hx hby d5_31 rfl rfl ?_
  refine aL X34 hx hby d5_32 rfl rfl ?_
  refine st44 _ ?_
  refine st48 _ ?_
  refine aL X48 hx hby d5_40 rfl rfl ?_
  refine XS.ifnullYes X48.here hx rfl (pc0 := 42) (pc' := 57) rfl (hb hby d5_42) rfl (by decide) (by decide) ?_
  refine iC X48 hx hby d5_57 ?_
  refine XS.istore X48.here hx rfl (hb hby d5_58) rfl (l' := #[rv a1, iv p2, rv a3, .val .null, .val .null, iv p4, rv a5, iv (0:Int32), un, un]) rfl ?_
  show St p e below T48 m 60 #[rv a1, iv p2, rv a3, .val .null, .val .null, iv p4, rv a5, iv (0:Int32), un, un] [] _
  refine aL X48 hx hby d5_60 rfl rfl ?_
  refine st54.trans ?_
  refine XS.astore X54.here hx rfl (hb hby d5_67) rfl rfl (l' := #[rv a1, iv p2, rv a3, .val .null, .val .null, iv p4, rv a5, iv (0:Int32), rv b54_0, un]) rfl ?_
  refine aL X54 hx hby d5_69 rfl rfl ?_
  refine st56.trans ?_
  refine XS.ifYes X56.here hx rfl (pc0 := 76) (pc' := 104) rfl (hb hby d5_76) rfl ((if0 _ _).trans (teq (rfl : (0:Int32) = (0:Int32))).1) (by decide) (by decide) ?_
  refine aN X56 hx hby d5_104 rfl rfl ?_
  refine iL X56 hx hby d5_105 rfl ?_
  refine st60 _ ?_
  exact X60.returnOut hx Bd.returns (hb hby d5_110) hr
theorem d17_0 : dk cP16_8 0 (.aload_n 0) 1 := by decide +kernel
theorem d17_1 : dk cP16_8 1 (.getfield 13) 3 := by decide +kernel
theorem d17_4 : dk cP16_8 4 (.getstatic 65) 3 := by decide +kernel
theorem d17_7 : dk cP16_8 7 (.if_acmp .eq 13) 3 := by decide +kernel
theorem d17_10 : dk cP16_8 10 (.aload_n 0) 1 := by decide +kernel
theorem d17_11 : dk cP16_8 11 (.getfield 13) 3 := by decide +kernel
theorem d17_14 : dk cP16_8 14 (.getstatic 70) 3 := by decide +kernel
theorem d17_17 : dk cP16_8 17 (.if_acmp .ne 10) 3 := by decide +kernel
theorem d17_27 : dk cP16_8 27 (.invokestatic 73) 3 := by decide +kernel
theorem d17_30 : dk cP16_8 30 .areturn 1 := by decide +kernel
abbrev y17 : MethodName := ⟨"tabula/engine/Concept", "operands", "()Ljava/util/List;"⟩
def r17_1Q (Z : State) (a1 a2 a5 a10 a14 : Addr) (h0 : Heap) (n0 : Nat) : QT := fun v h L => v = some (.ref a14) ∧ Fr n0 L ∧ h = h0
theorem r17_1 (hw : HW a0 Z) (a1 a2 a5 a10 a14 : Addr) (O0 : Old Z n0 h0) (H3 : xF6 Z h0 a1 (.ref a2)) (H6 : Sta Z Z.heap "tabula/engine/Concept$Kind" "AND" "Ltabula/engine/Concept$Kind;" (.ref a5)) (H8 : a2 ≠ a5) (H11 : Sta Z Z.heap "tabula/engine/Concept$Kind" "OR" "Ltabula/engine/Concept$Kind;" (.ref a10)) (H13 : a2 ≠ a10) (H15 : Sta Z Z.heap "java/util/ImmutableCollections" "EMPTY_LIST" "Ljava/util/ImmutableCollections$ListN;" (.ref a14)) :
    MF l y17 cP16_8 1 (some (.object "java/util/List")) [] (rM 1 0 0 11) Z #[(.ref a1)] h0 (r17_1Q Z a1 a2 a5 a10 a14 h0 n0) := by
  refine own_in (pq pn9) #[rv a1] (fun _ => by first | (simp [entryFrame, mkF, argsToLocals, Value.category]; done) | rfl) ?_
  intro p e s m below meth c s₁ Bd hx hby hml hown hnm hZ e0 X0
  have N0 := Fr.nil n0
  obtain ⟨_, X4, e4, st4⟩ := gF X0 hx hZ hown (ow hw 53 rfl) e0 H3 (g := (mkF m 1 #[rv a1] [(.ref a1)])) rfl rfl (hb hby d17_1)
  obtain ⟨_, X7, e7, st7⟩ := getS2 X4 hx hZ hown (host := "") (Or.inl (ow hw 141 rfl)) Via.refl e4 (H6.ext O0.2) (g := (mkF m 4 #[rv a1] [(.ref a2)])) rfl (hb hby d17_4)
  obtain ⟨_, X9, e9, st9⟩ := gF X7 hx hZ hown (ow hw 53 rfl) e7 H3 (g := (mkF m 11 #[rv a1] [(.ref a1)])) rfl rfl (hb hby d17_11)
  obtain ⟨_, X12, e12, st12⟩ := getS2 X9 hx hZ hown (host := "") (Or.inl (ow hw 143 rfl)) Via.refl e9 (H11.ext O0.2) (g := (mkF m 14 #[rv a1] [(.ref a2)])) rfl (hb hby d17_14)
  obtain ⟨_, _, _, X16, hQ16, st16⟩ := cS X12 hx hZ hw hown (y := y10) 145 rfl 87 rfl 63 rfl 88 rfl (by decide) (W := 0) (r10_1 hw a14 O0 H15) (by decide) (by decide) e12 (g := (mkF m 27 #[rv a1] [])) rfl (by rw [hml]; rfl) (argsL := []) (rest := []) (lenOf pd20 rfl) rfl wf (hb hby d17_27) rfl (by decide) (by decide)
  obtain ⟨rfl, N16q, e16⟩ := hQ16
  have N16 := Fr.app N0 N16q
  refine fin (Q := r17_1Q Z a1 a2 a5 a10 a14 h0 n0) (rm := (rM 1 0 0 11)) Bd X16 e16 (some (.ref a14)) nofun ⟨rfl, N16, rfl⟩ (by decide) (by decide) fun fs hr => ?_
  show St p e below s₁ m 0 #[rv a1] [] _
  refine aN X0 hx hby d17_0 rfl rfl ?_
  refine st4 _ ?_
  refine st7 _ ?_
  refine Jvm.RoadKit.acmp (g := (mkF m 7 #[rv a1] [(.ref a5), (.ref a2)])) X7 hx rfl rfl rfl (pc0 := 7) (pc' := 10) (same := false) rfl (hb hby d17_7) rfl (decide_eq_false fun q => H8 (Value.ref.inj q)) (by decide) (by decide) ?_
  refine aN X7 hx hby d17_10 rfl rfl ?_
  refine st9 _ ?_
  refine st12 _ ?_
  refine Jvm.RoadKit.acmp (g := (mkF m 17 #[rv a1] [(.ref a10), (.ref a2)])) X12 hx rfl rfl rfl (pc0 := 17) (pc' := 27) (same := false) rfl (hb hby d17_17) rfl (decide_eq_false fun q => H13 (Value.ref.inj q)) (by decide) (by decide) ?_
  refine st16 _ ?_
  exact retA X16 hx Bd.returns rfl rfl (hb hby d17_30) hr
theorem g1_7 (p1 p2 p3 p4:Int32) (a5 : Addr) (p6 p7:Int32) (a8 a9 a10 a11 a12 : Addr) (p13 p14:Int32) (a27 a35 a38 : Addr)
    (H0 : SG p l e R s m args below meth c T0 locs cells slots Z a0 h0 n0 2 12 4 60) (H22 : xE1 Z h0 a12) (H24 : xF3 Z h0 a12 (.int (0:Int32))) (H28 : Sta Z Z.heap "java/util/ImmutableCollections" "EMPTY_LIST" "Ljava/util/ImmutableCollections$ListN;" (.ref a27)) (H30 : xF0 Z h0 a12 (.int (0:Int32))) (H36 : Sta Z Z.heap "tabula/engine/Concept$Kind" "AND" "Ltabula/engine/Concept$Kind;" (.ref a35)) (H37 : a5 ≠ a35) (H39 : Sta Z Z.heap "tabula/engine/Concept$Kind" "OR" "Ltabula/engine/Concept$Kind;" (.ref a38)) (H40 : a5 ≠ a38) :
    ∃ (T' : State) (h' : Heap) (L' : List Loc) (b15 : Addr), Stand p l e R s m args below meth c T' L' (cells + 2) (slots + 12) ∧ T'.heap = h' ∧ Fr n0 L' ∧ Keep h0 h' [] ∧ h0.size ≤ b15 ∧ xE5 Z h' b15 ∧ xF6 Z h' b15 (.ref a5) ∧ xF10 Z h' b15 (.ref a27) ∧ xF16 Z h' b15 (.int (0:Int32)) ∧
      ∀ target, St p e below T' m 298 #[iv p1, iv p2, iv p3, iv p4, rv a5, iv p6, iv p7, rv a8, rv a9, rv a10, rv a11, rv a12, iv p13, .val .null, .val .null, iv p14, rv b15, rv a27, un] [] target → St p e below T0 m 271 #[iv p1, iv p2, iv p3, iv p4, rv a5, iv p6, iv p7, rv a8, rv a9, rv a10, rv a11, rv a12, iv p13, .val .null, .val .null, iv p14, un, un, un] [] target := by
  obtain ⟨X0, hx, hZ, hw, hby, hml, hown, e0, O0, N0, rc, rs, rf, rl⟩ := H0
  obtain ⟨_, h15, X15, e15, E15, A15, D15, -, st15⟩ := newO X0 hx hZ hown (ow hw 34 rfl) (ow hw 35 rfl) (ow hw 36 rfl) e0 (g := (mkF m 271 #[iv p1, iv p2, iv p3, iv p4, rv a5, iv p6, iv p7, rv a8, rv a9, rv a10, rv a11, rv a12, iv p13, .val .null, .val .null, iv p14, un, un, un] [])) rfl (hb hby at_271) (by omega) (by omega)
  obtain ⟨b15, g15⟩ : ∃ z, z = h0.size := ⟨_, rfl⟩
  rw [← g15] at A15 D15 st15
  have O_E15 : Old Z n0 h15 := O0.ext E15
  have Kp_E15 : Keep h0 h15 [] := (Keep.refl h0 []).ext E15
  have f16 : xF4 Z h15 b15 (.int (0:Int32)) := D15 (Or.inr (ow hw 52 rfl)) (ty := .int) (by decide)
  have g17 : n0 ≤ b15 := Nat.le_trans (Nat.le_trans (Nat.le_of_eq O0.1.symm) O0.2.1) (Nat.le_of_eq g15.symm)
  have f18 : xF6 Z h15 b15 .null := D15 (Or.inr (ow hw 54 rfl)) (ty := (.object "tabula/engine/Concept$Kind")) (by decide)
  have f19 : xF7 Z h15 b15 .null := D15 (Or.inr (ow hw 56 rfl)) (ty := (.object "java/lang/String")) (by decide)
  have f20 : xF8 Z h15 b15 .null := D15 (Or.inr (ow hw 58 rfl)) (ty := (.object "tabula/engine/Role")) (by decide)
  have f21 : xF9 Z h15 b15 (.int (0:Int32)) := D15 (Or.inr (ow hw 60 rfl)) (ty := .int) (by decide)
  have f23 := (H22.ext E15)
  have f25 := (H24.ext E15)
  have ne26 : a12 ≠ b15 := Nat.ne_of_lt (Nat.lt_of_lt_of_le H22.lt (Nat.le_of_eq g15.symm))
  have f29 : xF10 Z h15 b15 .null := D15 (Or.inr (ow hw 91 rfl)) (ty := (.object "java/util/List")) (by decide)
  have f31 := (H30.ext E15)
  have f32 : xF16 Z h15 b15 (.int (0:Int32)) := D15 (Or.inr (ow hw 130 rfl)) (ty := .boolean) (by decide)
  obtain ⟨T33, _, _, X33, hQ33, st33⟩ := cP X15 hx hZ hw hown (y := y5) rfl 47 rfl 48 rfl 49 rfl 36 rfl (by decide) (W := 1) (r5_2 hw b15 (3:Int32) a5 p14 a12 a27 O_E15 f16 A15 g17 f18 f19 f20 f21 f23 f25 ne26 H28 f29 f31 f32) (by show 3 + 1 ≤ R.frames; omega) (by show 1 + (10 + 11) + 38 ≤ R.locals; omega) e15 (g := (mkF m 286 #[iv p1, iv p2, iv p3, iv p4, rv a5, iv p6, iv p7, rv a8, rv a9, rv a10, rv a11, rv a12, iv p13, .val .null, .val .null, iv p14, un, un, un] [(.ref a12), (.int p14), .null, .null, (.ref a5), (.int (3:Int32)), (.ref b15), (.ref b15)])) rfl (by rw [hml]; rfl) (argsL := [(.int (3:Int32)), (.ref a5), .null, .null, (.int p14), (.ref a12)]) (rest := [(.ref b15)]) (lenOf pd0 rfl) rfl wf (hb hby at_286) rfl (by show cells + 1 + 1 ≤ R.cells; omega) (by show slots + 8 + 4 ≤ R.slots; omega)
  obtain ⟨rfl, N33q, K33, f33_1, f33_2, f33_3, f33_4⟩ := hQ33
  have N33 := Fr.app N0 N33q
  have z34 : h0.size ≤ b15 := Nat.le_trans (Keep.refl h0 []).1 (Nat.le_of_eq g15.symm)
  have O_K33 : Old Z n0 T33.heap := O_E15.keep K33 (allS g17 all0)
  have Kp_K33 : Keep h0 T33.heap [] := Kp_E15.trans K33 (allS (Or.inr z34) all0)
  replace X33 : Stand p l e R _ m args below meth c T33 _ (cells + 2) (slots + 12) := X33
  obtain ⟨T41, _, _, X41, hQ41, st41⟩ := cV X33 hx hZ hw hown (y := y17) 136 rfl 137 rfl 139 rfl 138 rfl 140 rfl 36 rfl (by decide) (W := 0) (r17_1 hw b15 a5 a35 a38 a27 O_K33 f33_2 H36 H37 H39 H40 H28) (by show 1 + 1 ≤ R.frames; omega) (by show 0 + (1 + 11) + 11 ≤ R.locals; omega) f33_1 rfl (g := (mkF m 293 #[iv p1, iv p2, iv p3, iv p4, rv a5, iv p6, iv p7, rv a8, rv a9, rv a10, rv a11, rv a12, iv p13, .val .null, .val .null, iv p14, rv b15, un, un] [(.ref b15)])) rfl (by rw [hml]; rfl) (argsL := []) (rest := []) (lenOf pd20 rfl) rfl wf (hb hby at_293) rfl (by show cells + 2 + 0 ≤ R.cells; omega) (by show slots + 12 + 0 ≤ R.slots; omega)
  obtain ⟨rfl, N41q, e41⟩ := hQ41
  have N41 := Fr.app N33 N41q
  replace X41 : Stand p l e R _ m args below meth c T41 _ (cells + 2) (slots + 12) := X41
  refine ⟨T41, _, _, b15, X41.more (by omega) (by omega), e41, N41, Kp_K33, z34, f33_1, f33_2, f33_3, f33_4, fun target kt => ?_⟩
  show St p e below T0 m 271 #[iv p1, iv p2, iv p3, iv p4, rv a5, iv p6, iv p7, rv a8, rv a9, rv a10, rv a11, rv a12, iv p13, .val .null, .val .null, iv p14, un, un, un] [] _
  refine st15 _ ?_
  refine XS.dup X15.here hx rfl (hb hby at_274) rfl rfl ?_
  refine iC X15 hx hby at_275 ?_
  refine aL X15 hx hby at_276 rfl rfl ?_
  refine aL X15 hx hby at_278 rfl rfl ?_
  refine aL X15 hx hby at_280 rfl rfl ?_
  refine iL X15 hx hby at_282 rfl ?_
  refine aL X15 hx hby at_284 rfl rfl ?_
  refine st33.trans ?_
  refine XS.astore X33.here hx rfl (hb hby at_289) rfl rfl (l' := #[iv p1, iv p2, iv p3, iv p4, rv a5, iv p6, iv p7, rv a8, rv a9, rv a10, rv a11, rv a12, iv p13, .val .null, .val .null, iv p14, rv b15, un, un]) rfl ?_
  refine aL X33 hx hby at_291 rfl rfl ?_
  refine st41.trans ?_
  refine XS.astore X41.here hx rfl (hb hby at_296) rfl rfl (l' := #[iv p1, iv p2, iv p3, iv p4, rv a5, iv p6, iv p7, rv a8, rv a9, rv a10, rv a11, rv a12, iv p13, .val .null, .val .null, iv p14, rv b15, rv a27, un]) rfl ?_
  exact kt
abbrev xE17 (Z : State) (h : Heap) (a : Addr) : Prop := Exa Z h a "java/util/ImmutableCollections$ListN"
theorem d18_0 : dk jdk_45_method_2_code 0 (.aload_n 0) 1 := by decide +kernel
theorem d18_1 : dk jdk_45_method_2_code 1 (.getfield 7) 3 := by decide +kernel
abbrev xF18 (Z : State) (h : Heap) (a : Addr) (v : Value) : Prop := Fld Z h a "java/util/ImmutableCollections$ListN" "elements" "[Ljava/lang/Object;" v
theorem d18_4 : dk jdk_45_method_2_code 4 .arraylength 1 := by decide +kernel
theorem d18_5 : dk jdk_45_method_2_code 5 (.ifCond .ne 7) 3 := by decide +kernel
theorem d18_8 : dk jdk_45_method_2_code 8 (.iconst 1) 1 := by decide +kernel
theorem d18_9 : dk jdk_45_method_2_code 9 (.goto 4) 3 := by decide +kernel
theorem d18_13 : dk jdk_45_method_2_code 13 .ireturn 1 := by decide +kernel
abbrev y18 : MethodName := ⟨"java/util/ImmutableCollections$ListN", "isEmpty", "()Z"⟩
theorem pn3 : plainName "java/util/ImmutableCollections$ListN" = true := by first | (simp [plainName, overriddenIn]; done) | decide +kernel
def r18_1Q (Z : State) (a1 a2 : Addr) (k6 : ClassId) (h0 : Heap) (n0 : Nat) : QT := fun v h L => v = some (.int (1:Int32)) ∧ Fr n0 L ∧ h = h0
theorem r18_1 (hw : HW a0 Z) (a1 a2 : Addr) (k6 : ClassId) (O0 : Old Z n0 h0) (H3 : xF18 Z Z.heap a1 (.ref a2)) (H7 : Arv Z Z.heap a2 k6 (.object "java/lang/Object") (0:Int32) [] .null) :
    MF l y18 jdk_45_method_2_code 1 (some .boolean) [] (rM 0 0 0 0) Z #[(.ref a1)] h0 (r18_1Q Z a1 a2 k6 h0 n0) := by
  refine own_in (pq pn3) #[rv a1] (fun _ => by first | (simp [entryFrame, mkF, argsToLocals, Value.category]; done) | rfl) ?_
  intro p e s m below meth c s₁ Bd hx hby hml hown hnm hZ e0 X0
  have N0 := Fr.nil n0
  obtain ⟨_, X4, e4, st4⟩ := gF X0 hx hZ hown (ow hw 156 rfl) e0 (H3.ext O0.2) (g := (mkF m 1 #[rv a1] [(.ref a1)])) rfl rfl (hb hby d18_1)
  obtain ⟨_, Ar5, _, S5, M5, _, _⟩ := id (H7.ext O0.2)
  refine fin (Q := r18_1Q Z a1 a2 k6 h0 n0) (rm := (rM 0 0 0 0)) Bd X4 e4 (some (.int (1:Int32))) nofun ⟨rfl, N0, rfl⟩ (by decide) (by decide) fun fs hr => ?_
  show St p e below s₁ m 0 #[rv a1] [] _
  refine aN X0 hx hby d18_0 rfl rfl ?_
  refine st4 _ ?_
  refine X4.arraylength hx (by rw [e4]; exact Ar5.1) (State.isArrayOf_alike hZ.alike Ar5.2.1) (g := (mkF m 4 #[rv a1] [(.ref a2)])) rfl rfl (hb hby d18_4) _ ?_
  rw [len_of S5 M5]
  refine XS.ifNo X4.here hx rfl (hb hby d18_5) rfl ((if0 _ _).trans (teq (rfl : (0:Int32) = (0:Int32))).2) ?_
  refine iC X4 hx hby d18_8 ?_
  refine XS.goto X4.here hx rfl (pc0 := 9) (pc' := 13) rfl (hb hby d18_9) (by decide) (by decide) ?_
  exact retN X4 hx (t := .boolean) Bd.returns (by simp) (hb hby d18_13) hr
abbrev y19 : MethodName := ⟨"java/util/List", "isEmpty", "()Z"⟩
theorem g1_8 (p1 p2 p3 p4:Int32) (a5 : Addr) (p6 p7:Int32) (a8 a9 a10 a11 a12 : Addr) (p13 p14:Int32) (a15 a16 a19 : Addr) (k21 : ClassId)
    (H0 : SG p l e R s m args below meth c T0 locs cells slots Z a0 h0 n0 0 0 1 12) (hc17 : p6 = (0:Int32)) (H18 : xE17 Z Z.heap a16) (H20 : xF18 Z Z.heap a16 (.ref a19)) (H22 : Arv Z Z.heap a19 k21 (.object "java/lang/Object") (0:Int32) [] .null) :
    ∃ (T' : State) (L' : List Loc), Stand p l e R s m args below meth c T' L' (cells + 0) (slots + 0) ∧ T'.heap = h0 ∧ Fr n0 L' ∧
      ∀ target, St p e below T' m 310 #[iv p1, iv p2, iv p3, iv p4, rv a5, iv p6, iv p7, rv a8, rv a9, rv a10, rv a11, rv a12, iv p13, .val .null, .val .null, iv p14, rv a15, rv a16, un] [(.int (1:Int32))] target → St p e below T0 m 298 #[iv p1, iv p2, iv p3, iv p4, rv a5, iv p6, iv p7, rv a8, rv a9, rv a10, rv a11, rv a12, iv p13, .val .null, .val .null, iv p14, rv a15, rv a16, un] [] target := by
  obtain ⟨X0, hx, hZ, hw, hby, hml, hown, e0, O0, N0, rc, rs, rf, rl⟩ := H0
  obtain ⟨T23, _, _, X23, hQ23, st23⟩ := cI X0 hx hZ hw hown (x := y19) (y := y18) 146 rfl 147 rfl 148 rfl 149 rfl 150 rfl 151 rfl 152 rfl 153 rfl 155 rfl 154 rfl (by decide) (W := 0) (r18_1 hw a16 a19 k21 O0 H20 H22) (by show 0 + 1 ≤ R.frames; omega) (by show 0 + (1 + 11) + 0 ≤ R.locals; omega) (H18.ext O0.2) e0 (g := (mkF m 305 #[iv p1, iv p2, iv p3, iv p4, rv a5, iv p6, iv p7, rv a8, rv a9, rv a10, rv a11, rv a12, iv p13, .val .null, .val .null, iv p14, rv a15, rv a16, un] [(.ref a16)])) rfl (by rw [hml]; rfl) (argsL := []) (rest := []) (lenOf pd23 rfl) rfl wf (hb hby at_305) rfl (by show cells + 0 + 0 ≤ R.cells; omega) (by show slots + 0 + 0 ≤ R.slots; omega)
  obtain ⟨rfl, N23q, e23⟩ := hQ23
  have N23 := Fr.app N0 N23q
  replace X23 : Stand p l e R _ m args below meth c T23 _ (cells + 0) (slots + 0) := X23
  refine ⟨T23, _, X23.more (by omega) (by omega), e23, N23, fun target kt => ?_⟩
  show St p e below T0 m 298 #[iv p1, iv p2, iv p3, iv p4, rv a5, iv p6, iv p7, rv a8, rv a9, rv a10, rv a11, rv a12, iv p13, .val .null, .val .null, iv p14, rv a15, rv a16, un] [] _
  refine iL X0 hx hby at_298 rfl ?_
  refine XS.ifNo X0.here hx rfl (hb hby at_300) rfl ((if0 _ _).trans (teq hc17).2) ?_
  refine aL X0 hx hby at_303 rfl rfl ?_
  refine st23.trans ?_
  exact kt
def lawQ (n0 : Nat) (v : Option Value) (h : Heap) (L : List Loc) : Prop := v = some (.int (1:Int32)) ∧ Fr n0 L
theorem law_1 (l : Launch) (Z : State) (a0 : Array Value) (hw : HW a0 Z) (ws : List Jvm.Cond) (w0 w1 w2 w3 w4 w5 w6 w7 w8 w9 w10 w11 w12 w13 w14 : Addr) (k_w10 k_w11 k_w13 : ClassId) (wMir : Addr) (B : Base Z w0 w1 w2 w3 w4 w5 w6 w7 w8 w9 w10 w11 w12 w13 w14 k_w10 k_w11 k_w13 wMir) (i0 i1 i2:Int32) (h0 : Heap) (n0 : Nat) (O0 : Old Z n0 h0) (pin0 : ((i0 &&& (2147483647:Int32)) % (10:Int32)) = (0:Int32)) :
    MetFree l x (head1 (Jvm.Cond.code x code maxLocals ret :: ws) room_1) (fun a U => a = #[(.int i0), (.int i1), (.int i2)] ∧ Z.Warmed39 U.vm ∧ U.heap = h0) (fun _ _ _ _ _ => True) (fun _ U o U' => ∃ v L, o = .returned v ∧ lawQ n0 v U'.heap L ∧ ReturnedEndW U o U' L room_1.cells room_1.slots) := by
  refine own_in (pq pn4) #[iv i0, iv i1, iv i2, un, un, un, un, un, un, un, un, un, un, un, un, un, un, un, un] (fun _ => by first | (simp [entryFrame, mkF, argsToLocals, Value.category, maxLocals]; done) | rfl) ?_
  intro p e s m below meth c s₁ Bd hx hby hml hown hnm hZ e0 X0
  have N0 := Fr.nil n0
  skip
  obtain ⟨_, _, _, X1, hQ1, st1⟩ := cS X0 hx hZ hw hown (y := y0) 1 rfl 2 rfl 3 rfl 4 rfl (by decide) (W := 0) (r0_1 hw w0 O0 (B.1.1)) (by decide) (by decide) e0 (g := (mkF m 9 #[iv i0, iv i1, iv i2, iv (0:Int32), un, un, un, un, un, un, un, un, un, un, un, un, un, un, un] [(.int (0:Int32))])) rfl (by rw [hml]; rfl) (argsL := [(.int (0:Int32))]) (rest := []) (lenOf pd9 rfl) rfl wf (hb hby at_9) rfl (by decide) (by decide)
  obtain ⟨rfl, N1q, e1⟩ := hQ1
  have N1 := Fr.app N0 N1q
  obtain ⟨_, _, X2, e2, N2, st2⟩ := g1_1 i0 i1 i2 (0:Int32) w0 ⟨X1, hx, hZ, hw, hby, hml, hown, e1, O0, N1, by decide, by decide, by decide, by decide⟩ (by decide) (by decide) (by decide)
  obtain ⟨_, h3, _, vm3, b3_0, b3_1, b3_2, b3_3, b3_4, X3, e3, hSq3, N3, K3, _, _, _, _, _, _, _, _, _, _, _, _, _, _, _, _, _, _, _, _, _, _, _, _, _, _, _, _, _, _, _, f3_32, f3_33, _, f3_35, st3⟩ := g1_2 i0 i1 i2 (0:Int32) w0 (0:Int32) (0:Int32) w11 w1 w12 ⟨X2, hx, hZ, hw, hby, hml, hown, e2, O0, N2, by decide, by decide, by decide, by decide⟩ (B.2.1.2.2.2.2.2.2.2.2.2.2.1) (B.1.2.2.1) (B.2.2.1.1)
  obtain ⟨Y3, hS3, hZ3, hown3⟩ := rebS (s := s) (vm0 := s.vm) (State.WarmedH.since (State.WarmedH.refl s) 0) (Nat.zero_le _) X3 hSq3 K3.1 hZ hown
  have O_K3 : Old Z n0 h3 := O0.keep K3 all0
  obtain ⟨_, _, X4, e4, N4, st4⟩ := g1_3 i0 i1 i2 (0:Int32) w0 (0:Int32) (0:Int32) b3_0 b3_1 b3_2 b3_3 b3_4 (0:Int32) ⟨Y3, hx, hZ3, hw, hby, hml, hown3, e3, O_K3, N3, by decide, by decide, by decide, by decide⟩ (by decide) (by decide)
  obtain ⟨_, _, X5, e5, N5, st5⟩ := g1_4 i0 i1 i2 (0:Int32) w0 (0:Int32) (0:Int32) b3_0 b3_1 b3_2 b3_3 b3_4 (0:Int32) ⟨X4, hx, hZ3, hw, hby, hml, hown3, e4, O_K3, N4, by decide, by decide, by decide, by decide⟩ (by decide)
  obtain ⟨_, _, X6, e6, N6, st6⟩ := g1_5 i0 i1 i2 (0:Int32) w0 (0:Int32) (0:Int32) b3_0 b3_1 b3_2 b3_3 b3_4 (0:Int32) ⟨X5, hx, hZ3, hw, hby, hml, hown3, e5, O_K3, N5, by decide, by decide, by decide, by decide⟩ (by decide) (by decide)
  obtain ⟨_, _, X7, e7, N7, st7⟩ := g1_6 i0 i1 i2 (0:Int32) w0 (0:Int32) (0:Int32) b3_0 b3_1 b3_2 b3_3 b3_4 (0:Int32) ⟨X6, hx, hZ3, hw, hby, hml, hown3, e6, O_K3, N6, by decide, by decide, by decide, by decide⟩ (by decide) (by decide) (by decide) (by decide)
  obtain ⟨_, h8, _, b8_0, X8, e8, N8, K8, _, _, _, _, _, st8⟩ := g1_7 i0 i1 i2 (0:Int32) w0 (0:Int32) (0:Int32) b3_0 b3_1 b3_2 b3_3 b3_4 (0:Int32) (0:Int32) w12 w2 w3 ⟨X7, hx, hZ3, hw, hby, hml, hown3, e7, O_K3, N7, by decide, by decide, by decide, by decide⟩ f3_32 f3_35 (B.2.2.1.1) f3_33 (B.1.2.2.2.2.1) (B.2.2.2.1.2.2.2.2.2.2.2.2.2.2.1) (B.1.2.2.2.2.2.2.1) (B.2.2.2.1.2.2.2.2.2.2.2.2.2.2.2)
  have O_K8 : Old Z n0 h8 := O_K3.keep K8 all0
  obtain ⟨T9, _, X9, e9, N9, st9⟩ := g1_8 i0 i1 i2 (0:Int32) w0 (0:Int32) (0:Int32) b3_0 b3_1 b3_2 b3_3 b3_4 (0:Int32) (0:Int32) b8_0 w12 w13 k_w13 ⟨X8, hx, hZ3, hw, hby, hml, hown3, e8, O_K8, N8, by decide, by decide, by decide, by decide⟩ (by decide) (B.2.2.1.2.1) (B.2.2.1.2.2.1) (B.2.2.2.1.2.2.2.2.2.2.2.2.1)
  obtain ⟨_, hr, hrun, hended, hE⟩ := Stand.leaveW (s := s) (vm₁ := vm3) X9 hS3 (by rw [e9]; exact (Nat.le_trans (Nat.le_refl _) K8.1)) (v := some (.int (1:Int32))) (fun h => by rw [Bd.returns] at h; cases h)
  refine ⟨_, _, ?_, hrun, hended, _, _, rfl, ?_, hE.1, hE.2.1, hE.2.2.1, hE.2.2.2.mono (by decide) (by decide)⟩
  · show St p e below s₁ m 0 #[iv i0, iv i1, iv i2, un, un, un, un, un, un, un, un, un, un, un, un, un, un, un, un] [] _
    refine iN X0 hx hby at_0 rfl ?_
    refine X0.ldcInt hx hown (mo hZ hw 0 rfl) (g := (mkF m 1 #[iv i0, iv i1, iv i2, un, un, un, un, un, un, un, un, un, un, un, un, un, un, un, un] [(.int i0)])) rfl (hb hby at_1) _ ?_
    refine XS.iand X0.here hx rfl (hb hby at_3) rfl ?_
    refine XS.bipush X0.here hx rfl (hb hby at_4) ?_
    refine Jvm.RoadKit.iremM (g := (mkF m 6 #[iv i0, iv i1, iv i2, un, un, un, un, un, un, un, un, un, un, un, un, un, un, un, un] [(.int (10:Int32)), (.int (i0 &&& (2147483647:Int32)))])) X0 hx rfl (hb hby at_6) rfl (by decide : ¬ ((10:Int32) = (0:Int32))) ?_
    show St p e below s₁ m 7 #[iv i0, iv i1, iv i2, un, un, un, un, un, un, un, un, un, un, un, un, un, un, un, un] [(.int ((i0 &&& (2147483647:Int32)) % (10:Int32)))] _
    rw [pin0]
    refine XS.istoreN X0.here hx rfl (hb hby at_7) rfl (l' := #[iv i0, iv i1, iv i2, iv (0:Int32), un, un, un, un, un, un, un, un, un, un, un, un, un, un, un]) rfl ?_
    refine iN X0 hx hby at_8 rfl ?_
    refine st1 _ ?_
    refine XS.astore X1.here hx rfl (hb hby at_12) rfl rfl (l' := #[iv i0, iv i1, iv i2, iv (0:Int32), rv w0, un, un, un, un, un, un, un, un, un, un, un, un, un, un]) rfl ?_
    refine st2 _ ?_
    refine st3 _ ?_
    refine st4 _ ?_
    refine st5 _ ?_
    refine st6 _ ?_
    refine st7 _ ?_
    refine st8 _ ?_
    refine st9 _ ?_
    exact retN X9 hx (t := .boolean) Bd.returns (by simp) (hb hby at_310) hr
  · show lawQ n0 _ T9.heap _
    rw [e9]
    exact ⟨rfl, N9⟩
theorem d0_8 : dk method_2_code 8 (.iload_n 0) 1 := by decide +kernel
theorem d0_9 : dk method_2_code 9 (.iconst 1) 1 := by decide +kernel
theorem d0_10 : dk method_2_code 10 (.if_icmp .ne 7) 3 := by decide +kernel
theorem d0_13 : dk method_2_code 13 (.getstatic 13) 3 := by decide +kernel
theorem d0_16 : dk method_2_code 16 .areturn 1 := by decide +kernel
def r0_2Q (Z : State) (a1 : Addr) (h0 : Heap) (n0 : Nat) : QT := fun v h L => v = some (.ref a1) ∧ Fr n0 L ∧ h = h0
theorem r0_2 (hw : HW a0 Z) (a1 : Addr) (O0 : Old Z n0 h0) (H2 : Sta Z Z.heap "tabula/engine/Concept$Kind" "BOTTOM" "Ltabula/engine/Concept$Kind;" (.ref a1)) :
    MF l y0 method_2_code 1 (some (.object "tabula/engine/Concept$Kind")) [] (rM 0 0 0 0) Z #[(.int (1:Int32))] h0 (r0_2Q Z a1 h0 n0) := by
  refine own_in (pq pn4) #[iv (1:Int32)] (fun _ => by first | (simp [entryFrame, mkF, argsToLocals, Value.category]; done) | rfl) ?_
  intro p e s m below meth c s₁ Bd hx hby hml hown hnm hZ e0 X0
  have N0 := Fr.nil n0
  obtain ⟨_, X3, e3, st3⟩ := getS2 X0 hx hZ hown (host := "") (Or.inl (ow hw 158 rfl)) Via.refl e0 (H2.ext O0.2) (g := (mkF m 13 #[iv (1:Int32)] [])) rfl (hb hby d0_13)
  refine fin (Q := r0_2Q Z a1 h0 n0) (rm := (rM 0 0 0 0)) Bd X3 e3 (some (.ref a1)) nofun ⟨rfl, N0, rfl⟩ (by decide) (by decide) fun fs hr => ?_
  show St p e below s₁ m 0 #[iv (1:Int32)] [] _
  refine iN X0 hx hby d0_0 rfl ?_
  refine XS.ifYes X0.here hx rfl (pc0 := 1) (pc' := 8) rfl (hb hby d0_1) rfl ((if0 _ _).trans (feq (by decide : ¬ ((1:Int32) = (0:Int32)))).2) (by decide) (by decide) ?_
  refine iN X0 hx hby d0_8 rfl ?_
  refine iC X0 hx hby d0_9 ?_
  refine XS.icmpNo X0.here hx rfl (hb hby d0_10) rfl (teq (rfl : (1:Int32) = (1:Int32))).2 ?_
  refine st3 _ ?_
  exact retA X3 hx Bd.returns rfl rfl (hb hby d0_16) hr
theorem law_2 (l : Launch) (Z : State) (a0 : Array Value) (hw : HW a0 Z) (ws : List Jvm.Cond) (w0 w1 w2 w3 w4 w5 w6 w7 w8 w9 w10 w11 w12 w13 w14 : Addr) (k_w10 k_w11 k_w13 : ClassId) (wMir : Addr) (B : Base Z w0 w1 w2 w3 w4 w5 w6 w7 w8 w9 w10 w11 w12 w13 w14 k_w10 k_w11 k_w13 wMir) (i0 i1 i2:Int32) (h0 : Heap) (n0 : Nat) (O0 : Old Z n0 h0) (pin0 : ((i0 &&& (2147483647:Int32)) % (10:Int32)) = (1:Int32)) :
    MetFree l x (head1 (Jvm.Cond.code x code maxLocals ret :: ws) room_1) (fun a U => a = #[(.int i0), (.int i1), (.int i2)] ∧ Z.Warmed39 U.vm ∧ U.heap = h0) (fun _ _ _ _ _ => True) (fun _ U o U' => ∃ v L, o = .returned v ∧ lawQ n0 v U'.heap L ∧ ReturnedEndW U o U' L room_1.cells room_1.slots) := by
  refine own_in (pq pn4) #[iv i0, iv i1, iv i2, un, un, un, un, un, un, un, un, un, un, un, un, un, un, un, un] (fun _ => by first | (simp [entryFrame, mkF, argsToLocals, Value.category, maxLocals]; done) | rfl) ?_
  intro p e s m below meth c s₁ Bd hx hby hml hown hnm hZ e0 X0
  have N0 := Fr.nil n0
  skip
  obtain ⟨_, _, _, X1, hQ1, st1⟩ := cS X0 hx hZ hw hown (y := y0) 1 rfl 2 rfl 3 rfl 4 rfl (by decide) (W := 0) (r0_2 hw w4 O0 (B.1.2.2.2.2.2.2.2.2.1)) (by decide) (by decide) e0 (g := (mkF m 9 #[iv i0, iv i1, iv i2, iv (1:Int32), un, un, un, un, un, un, un, un, un, un, un, un, un, un, un] [(.int (1:Int32))])) rfl (by rw [hml]; rfl) (argsL := [(.int (1:Int32))]) (rest := []) (lenOf pd9 rfl) rfl wf (hb hby at_9) rfl (by decide) (by decide)
  obtain ⟨rfl, N1q, e1⟩ := hQ1
  have N1 := Fr.app N0 N1q
  obtain ⟨_, _, X2, e2, N2, st2⟩ := g1_1 i0 i1 i2 (1:Int32) w4 ⟨X1, hx, hZ, hw, hby, hml, hown, e1, O0, N1, by decide, by decide, by decide, by decide⟩ (by decide) (by decide) (by decide)
  obtain ⟨_, h3, _, vm3, b3_0, b3_1, b3_2, b3_3, b3_4, X3, e3, hSq3, N3, K3, _, _, _, _, _, _, _, _, _, _, _, _, _, _, _, _, _, _, _, _, _, _, _, _, _, _, _, _, _, _, _, f3_32, f3_33, _, f3_35, st3⟩ := g1_2 i0 i1 i2 (1:Int32) w4 (0:Int32) (0:Int32) w11 w1 w12 ⟨X2, hx, hZ, hw, hby, hml, hown, e2, O0, N2, by decide, by decide, by decide, by decide⟩ (B.2.1.2.2.2.2.2.2.2.2.2.2.1) (B.1.2.2.1) (B.2.2.1.1)
  obtain ⟨Y3, hS3, hZ3, hown3⟩ := rebS (s := s) (vm0 := s.vm) (State.WarmedH.since (State.WarmedH.refl s) 0) (Nat.zero_le _) X3 hSq3 K3.1 hZ hown
  have O_K3 : Old Z n0 h3 := O0.keep K3 all0
  obtain ⟨_, _, X4, e4, N4, st4⟩ := g1_3 i0 i1 i2 (1:Int32) w4 (0:Int32) (0:Int32) b3_0 b3_1 b3_2 b3_3 b3_4 (0:Int32) ⟨Y3, hx, hZ3, hw, hby, hml, hown3, e3, O_K3, N3, by decide, by decide, by decide, by decide⟩ (by decide) (by decide)
  obtain ⟨_, _, X5, e5, N5, st5⟩ := g1_4 i0 i1 i2 (1:Int32) w4 (0:Int32) (0:Int32) b3_0 b3_1 b3_2 b3_3 b3_4 (0:Int32) ⟨X4, hx, hZ3, hw, hby, hml, hown3, e4, O_K3, N4, by decide, by decide, by decide, by decide⟩ (by decide)
  obtain ⟨_, _, X6, e6, N6, st6⟩ := g1_5 i0 i1 i2 (1:Int32) w4 (0:Int32) (0:Int32) b3_0 b3_1 b3_2 b3_3 b3_4 (0:Int32) ⟨X5, hx, hZ3, hw, hby, hml, hown3, e5, O_K3, N5, by decide, by decide, by decide, by decide⟩ (by decide) (by decide)
  obtain ⟨_, _, X7, e7, N7, st7⟩ := g1_6 i0 i1 i2 (1:Int32) w4 (0:Int32) (0:Int32) b3_0 b3_1 b3_2 b3_3 b3_4 (0:Int32) ⟨X6, hx, hZ3, hw, hby, hml, hown3, e6, O_K3, N6, by decide, by decide, by decide, by decide⟩ (by decide) (by decide) (by decide) (by decide)
  obtain ⟨_, h8, _, b8_0, X8, e8, N8, K8, _, _, _, _, _, st8⟩ := g1_7 i0 i1 i2 (1:Int32) w4 (0:Int32) (0:Int32) b3_0 b3_1 b3_2 b3_3 b3_4 (0:Int32) (0:Int32) w12 w2 w3 ⟨X7, hx, hZ3, hw, hby, hml, hown3, e7, O_K3, N7, by decide, by decide, by decide, by decide⟩ f3_32 f3_35 (B.2.2.1.1) f3_33 (B.1.2.2.2.2.1) (Ne.symm B.2.2.2.2.2.2.1.2.1) (B.1.2.2.2.2.2.2.1) (Ne.symm B.2.2.2.2.2.2.2.1.1)
  have O_K8 : Old Z n0 h8 := O_K3.keep K8 all0
  obtain ⟨T9, _, X9, e9, N9, st9⟩ := g1_8 i0 i1 i2 (1:Int32) w4 (0:Int32) (0:Int32) b3_0 b3_1 b3_2 b3_3 b3_4 (0:Int32) (0:Int32) b8_0 w12 w13 k_w13 ⟨X8, hx, hZ3, hw, hby, hml, hown3, e8, O_K8, N8, by decide, by decide, by decide, by decide⟩ (by decide) (B.2.2.1.2.1) (B.2.2.1.2.2.1) (B.2.2.2.1.2.2.2.2.2.2.2.2.1)
  obtain ⟨_, hr, hrun, hended, hE⟩ := Stand.leaveW (s := s) (vm₁ := vm3) X9 hS3 (by rw [e9]; exact (Nat.le_trans (Nat.le_refl _) K8.1)) (v := some (.int (1:Int32))) (fun h => by rw [Bd.returns] at h; cases h)
  refine ⟨_, _, ?_, hrun, hended, _, _, rfl, ?_, hE.1, hE.2.1, hE.2.2.1, hE.2.2.2.mono (by decide) (by decide)⟩
  · show St p e below s₁ m 0 #[iv i0, iv i1, iv i2, un, un, un, un, un, un, un, un, un, un, un, un, un, un, un, un] [] _
    refine iN X0 hx hby at_0 rfl ?_
    refine X0.ldcInt hx hown (mo hZ hw 0 rfl) (g := (mkF m 1 #[iv i0, iv i1, iv i2, un, un, un, un, un, un, un, un, un, un, un, un, un, un, un, un] [(.int i0)])) rfl (hb hby at_1) _ ?_
    refine XS.iand X0.here hx rfl (hb hby at_3) rfl ?_
    refine XS.bipush X0.here hx rfl (hb hby at_4) ?_
    refine Jvm.RoadKit.iremM (g := (mkF m 6 #[iv i0, iv i1, iv i2, un, un, un, un, un, un, un, un, un, un, un, un, un, un, un, un] [(.int (10:Int32)), (.int (i0 &&& (2147483647:Int32)))])) X0 hx rfl (hb hby at_6) rfl (by decide : ¬ ((10:Int32) = (0:Int32))) ?_
    show St p e below s₁ m 7 #[iv i0, iv i1, iv i2, un, un, un, un, un, un, un, un, un, un, un, un, un, un, un, un] [(.int ((i0 &&& (2147483647:Int32)) % (10:Int32)))] _
    rw [pin0]
    refine XS.istoreN X0.here hx rfl (hb hby at_7) rfl (l' := #[iv i0, iv i1, iv i2, iv (1:Int32), un, un, un, un, un, un, un, un, un, un, un, un, un, un, un]) rfl ?_
    refine iN X0 hx hby at_8 rfl ?_
    refine st1 _ ?_
    refine XS.astore X1.here hx rfl (hb hby at_12) rfl rfl (l' := #[iv i0, iv i1, iv i2, iv (1:Int32), rv w4, un, un, un, un, un, un, un, un, un, un, un, un, un, un]) rfl ?_
    refine st2 _ ?_
    refine st3 _ ?_
    refine st4 _ ?_
    refine st5 _ ?_
    refine st6 _ ?_
    refine st7 _ ?_
    refine st8 _ ?_
    refine st9 _ ?_
    exact retN X9 hx (t := .boolean) Bd.returns (by simp) (hb hby at_310) hr
  · show lawQ n0 _ T9.heap _
    rw [e9]
    exact ⟨rfl, N9⟩
theorem d0_17 : dk method_2_code 17 (.iload_n 0) 1 := by decide +kernel
theorem d0_18 : dk method_2_code 18 (.iconst 2) 1 := by decide +kernel
theorem d0_19 : dk method_2_code 19 (.if_icmp .ne 7) 3 := by decide +kernel
theorem d0_22 : dk method_2_code 22 (.getstatic 16) 3 := by decide +kernel
theorem d0_25 : dk method_2_code 25 .areturn 1 := by decide +kernel
def r0_3Q (Z : State) (a1 : Addr) (h0 : Heap) (n0 : Nat) : QT := fun v h L => v = some (.ref a1) ∧ Fr n0 L ∧ h = h0
theorem r0_3 (hw : HW a0 Z) (a1 : Addr) (O0 : Old Z n0 h0) (H2 : Sta Z Z.heap "tabula/engine/Concept$Kind" "NAME" "Ltabula/engine/Concept$Kind;" (.ref a1)) :
    MF l y0 method_2_code 1 (some (.object "tabula/engine/Concept$Kind")) [] (rM 0 0 0 0) Z #[(.int (2:Int32))] h0 (r0_3Q Z a1 h0 n0) := by
  refine own_in (pq pn4) #[iv (2:Int32)] (fun _ => by first | (simp [entryFrame, mkF, argsToLocals, Value.category]; done) | rfl) ?_
  intro p e s m below meth c s₁ Bd hx hby hml hown hnm hZ e0 X0
  have N0 := Fr.nil n0
  obtain ⟨_, X3, e3, st3⟩ := getS2 X0 hx hZ hown (host := "") (Or.inl (ow hw 37 rfl)) Via.refl e0 (H2.ext O0.2) (g := (mkF m 22 #[iv (2:Int32)] [])) rfl (hb hby d0_22)
  refine fin (Q := r0_3Q Z a1 h0 n0) (rm := (rM 0 0 0 0)) Bd X3 e3 (some (.ref a1)) nofun ⟨rfl, N0, rfl⟩ (by decide) (by decide) fun fs hr => ?_
  show St p e below s₁ m 0 #[iv (2:Int32)] [] _
  refine iN X0 hx hby d0_0 rfl ?_
  refine XS.ifYes X0.here hx rfl (pc0 := 1) (pc' := 8) rfl (hb hby d0_1) rfl ((if0 _ _).trans (feq (by decide : ¬ ((2:Int32) = (0:Int32)))).2) (by decide) (by decide) ?_
  refine iN X0 hx hby d0_8 rfl ?_
  refine iC X0 hx hby d0_9 ?_
  refine XS.icmpYes X0.here hx rfl (pc0 := 10) (pc' := 17) rfl (hb hby d0_10) rfl (feq (by decide : ¬ ((2:Int32) = (1:Int32)))).2 (by decide) (by decide) ?_
  refine iN X0 hx hby d0_17 rfl ?_
  refine iC X0 hx hby d0_18 ?_
  refine XS.icmpNo X0.here hx rfl (hb hby d0_19) rfl (teq (rfl : (2:Int32) = (2:Int32))).2 ?_
  refine st3 _ ?_
  exact retA X3 hx Bd.returns rfl rfl (hb hby d0_25) hr
theorem g1_9 (p1 p2 p3 p4:Int32) (a5 : Addr) (p6 p7:Int32) (a8 a9 a10 a11 a12 : Addr) (p13:Int32)
    (H0 : SG p l e R s m args below meth c T0 locs cells slots Z a0 h0 n0 2 8 0 0) (hc14 : p4 = (2:Int32)) :
    ∃ (T' : State) (h' : Heap) (L' : List Loc) (vm' : Vm) (a15 : Addr), Stand p l e R (s.setVm vm') m args below meth c T' L' (cells + 2) (slots + 8) ∧ T'.heap = h' ∧ s.Since vm' h'.size ∧ Fr n0 L' ∧ Keep h0 h' [] ∧
      ∀ target, St p e below T' m 264 #[iv p1, iv p2, iv p3, iv p4, rv a5, iv p6, iv p7, rv a8, rv a9, rv a10, rv a11, rv a12, iv p13, .val .null, rv a15, un, un, un, un] [] target → St p e below T0 m 246 #[iv p1, iv p2, iv p3, iv p4, rv a5, iv p6, iv p7, rv a8, rv a9, rv a10, rv a11, rv a12, iv p13, .val .null, un, un, un, un, un] [] target := by
  obtain ⟨X0, hx, hZ, hw, hby, hml, hown, e0, O0, N0, rc, rs, rf, rl⟩ := H0
  obtain ⟨a15, T15, h15, _, X15, e15, E15, hS15, hk15, _, _, st15⟩ := ldcS (s := s) (vm0 := s.vm) X0 hx hZ (own := "tabula/engine/ConceptOperandsPinLaw") hown (ow hw 347 rfl) (fun d hd => hw d (strW d hd)) e0 (State.WarmedH.since (State.WarmedH.refl s) 0) (Nat.zero_le _) (g := (mkF m 256 #[iv p1, iv p2, iv p3, iv p4, rv a5, iv p6, iv p7, rv a8, rv a9, rv a10, rv a11, rv a12, iv p13, .val .null, un, un, un, un, un] [])) rfl (hb hby at_256) (n := 4) (by decide) (by decide) (by omega) (by omega)
  have Kp_E15 : Keep h0 h15 [] := (Keep.refl h0 []).ext E15
  refine ⟨T15, _, _, T15.vm, a15, X15.more (by omega) (by omega), e15, own_since hS15 hk15, N0, Kp_E15, fun target kt => ?_⟩
  show St p e below T0 m 246 #[iv p1, iv p2, iv p3, iv p4, rv a5, iv p6, iv p7, rv a8, rv a9, rv a10, rv a11, rv a12, iv p13, .val .null, un, un, un, un, un] [] _
  refine iN X0 hx hby at_246 rfl ?_
  refine iC X0 hx hby at_247 ?_
  refine XS.icmpYes X0.here hx rfl (pc0 := 248) (pc' := 256) rfl (hb hby at_248) rfl (teq hc14).1 (by decide) (by decide) ?_
  refine st15 _ ?_
  refine XS.goto X15.here hx rfl (pc0 := 258) (pc' := 262) rfl (hb hby at_258) (by decide) (by decide) ?_
  refine XS.astore X15.here hx rfl (hb hby at_262) rfl rfl (l' := #[iv p1, iv p2, iv p3, iv p4, rv a5, iv p6, iv p7, rv a8, rv a9, rv a10, rv a11, rv a12, iv p13, .val .null, rv a15, un, un, un, un]) rfl ?_
  exact kt
theorem g1_10 (p1 p2 p3 p4:Int32) (a5 : Addr) (p6 p7:Int32) (a8 a9 a10 a11 a12 : Addr) (p13:Int32) (a14 : Addr)
    (H0 : SG p l e R s m args below meth c T0 locs cells slots Z a0 h0 n0 0 0 1 13) (hc15 : ¬ (p4 = (6:Int32))) (hc16 : ¬ (p4 = (7:Int32))) (hc17 : ¬ (p4 = (8:Int32))) (hc18 : ¬ (p4 = (9:Int32))) :
    ∃ (T' : State) (L' : List Loc), Stand p l e R s m args below meth c T' L' (cells + 0) (slots + 0) ∧ T'.heap = h0 ∧ Fr n0 L' ∧
      ∀ target, St p e below T' m 271 #[iv p1, iv p2, iv p3, iv p4, rv a5, iv p6, iv p7, rv a8, rv a9, rv a10, rv a11, rv a12, iv p13, .val .null, rv a14, iv (0:Int32), un, un, un] [] target → St p e below T0 m 264 #[iv p1, iv p2, iv p3, iv p4, rv a5, iv p6, iv p7, rv a8, rv a9, rv a10, rv a11, rv a12, iv p13, .val .null, rv a14, un, un, un, un] [] target := by
  obtain ⟨X0, hx, hZ, hw, hby, hml, hown, e0, O0, N0, rc, rs, rf, rl⟩ := H0
  obtain ⟨T19, _, _, X19, hQ19, st19⟩ := cS X0 hx hZ hw hown (y := y16) 133 rfl 134 rfl 3 rfl 135 rfl (by decide) (W := 0) (r16_1 hw p4 p2 O0 hc15 hc16 hc17 hc18) (by show 0 + 1 ≤ R.frames; omega) (by show 0 + (2 + 11) + 0 ≤ R.locals; omega) e0 (g := (mkF m 266 #[iv p1, iv p2, iv p3, iv p4, rv a5, iv p6, iv p7, rv a8, rv a9, rv a10, rv a11, rv a12, iv p13, .val .null, rv a14, un, un, un, un] [(.int p2), (.int p4)])) rfl (by rw [hml]; rfl) (argsL := [(.int p4), (.int p2)]) (rest := []) (lenOf pd21 rfl) rfl wf (hb hby at_266) rfl (by show cells + 0 + 0 ≤ R.cells; omega) (by show slots + 0 + 0 ≤ R.slots; omega)
  obtain ⟨rfl, N19q, e19⟩ := hQ19
  have N19 := Fr.app N0 N19q
  replace X19 : Stand p l e R _ m args below meth c T19 _ (cells + 0) (slots + 0) := X19
  refine ⟨T19, _, X19.more (by omega) (by omega), e19, N19, fun target kt => ?_⟩
  show St p e below T0 m 264 #[iv p1, iv p2, iv p3, iv p4, rv a5, iv p6, iv p7, rv a8, rv a9, rv a10, rv a11, rv a12, iv p13, .val .null, rv a14, un, un, un, un] [] _
  refine iN X0 hx hby at_264 rfl ?_
  refine iN X0 hx hby at_265 rfl ?_
  refine st19 _ ?_
  refine XS.istore X19.here hx rfl (hb hby at_269) rfl (l' := #[iv p1, iv p2, iv p3, iv p4, rv a5, iv p6, iv p7, rv a8, rv a9, rv a10, rv a11, rv a12, iv p13, .val .null, rv a14, iv (0:Int32), un, un, un]) rfl ?_
  exact kt
theorem g1_11 (p1 p2 p3 p4:Int32) (a5 : Addr) (p6 p7:Int32) (a8 a9 a10 a11 a12 : Addr) (p13:Int32) (a14 : Addr) (p15:Int32) (a28 a36 a39 : Addr)
    (H0 : SG p l e R s m args below meth c T0 locs cells slots Z a0 h0 n0 2 12 4 60) (H23 : xE1 Z h0 a12) (H25 : xF3 Z h0 a12 (.int (0:Int32))) (H29 : Sta Z Z.heap "java/util/ImmutableCollections" "EMPTY_LIST" "Ljava/util/ImmutableCollections$ListN;" (.ref a28)) (H31 : xF0 Z h0 a12 (.int (0:Int32))) (H37 : Sta Z Z.heap "tabula/engine/Concept$Kind" "AND" "Ltabula/engine/Concept$Kind;" (.ref a36)) (H38 : a5 ≠ a36) (H40 : Sta Z Z.heap "tabula/engine/Concept$Kind" "OR" "Ltabula/engine/Concept$Kind;" (.ref a39)) (H41 : a5 ≠ a39) :
    ∃ (T' : State) (h' : Heap) (L' : List Loc) (b16 : Addr), Stand p l e R s m args below meth c T' L' (cells + 2) (slots + 12) ∧ T'.heap = h' ∧ Fr n0 L' ∧ Keep h0 h' [] ∧ h0.size ≤ b16 ∧ xE5 Z h' b16 ∧ xF6 Z h' b16 (.ref a5) ∧ xF10 Z h' b16 (.ref a28) ∧ xF16 Z h' b16 (.int (0:Int32)) ∧
      ∀ target, St p e below T' m 298 #[iv p1, iv p2, iv p3, iv p4, rv a5, iv p6, iv p7, rv a8, rv a9, rv a10, rv a11, rv a12, iv p13, .val .null, rv a14, iv p15, rv b16, rv a28, un] [] target → St p e below T0 m 271 #[iv p1, iv p2, iv p3, iv p4, rv a5, iv p6, iv p7, rv a8, rv a9, rv a10, rv a11, rv a12, iv p13, .val .null, rv a14, iv p15, un, un, un] [] target := by
  obtain ⟨X0, hx, hZ, hw, hby, hml, hown, e0, O0, N0, rc, rs, rf, rl⟩ := H0
  obtain ⟨_, h16, X16, e16, E16, A16, D16, -, st16⟩ := newO X0 hx hZ hown (ow hw 34 rfl) (ow hw 35 rfl) (ow hw 36 rfl) e0 (g := (mkF m 271 #[iv p1, iv p2, iv p3, iv p4, rv a5, iv p6, iv p7, rv a8, rv a9, rv a10, rv a11, rv a12, iv p13, .val .null, rv a14, iv p15, un, un, un] [])) rfl (hb hby at_271) (by omega) (by omega)
  obtain ⟨b16, g16⟩ : ∃ z, z = h0.size := ⟨_, rfl⟩
  rw [← g16] at A16 D16 st16
  have O_E16 : Old Z n0 h16 := O0.ext E16
  have Kp_E16 : Keep h0 h16 [] := (Keep.refl h0 []).ext E16
  have f17 : xF4 Z h16 b16 (.int (0:Int32)) := D16 (Or.inr (ow hw 52 rfl)) (ty := .int) (by decide)
  have g18 : n0 ≤ b16 := Nat.le_trans (Nat.le_trans (Nat.le_of_eq O0.1.symm) O0.2.1) (Nat.le_of_eq g16.symm)
  have f19 : xF6 Z h16 b16 .null := D16 (Or.inr (ow hw 54 rfl)) (ty := (.object "tabula/engine/Concept$Kind")) (by decide)
  have f20 : xF7 Z h16 b16 .null := D16 (Or.inr (ow hw 56 rfl)) (ty := (.object "java/lang/String")) (by decide)
  have f21 : xF8 Z h16 b16 .null := D16 (Or.inr (ow hw 58 rfl)) (ty := (.object "tabula/engine/Role")) (by decide)
  have f22 : xF9 Z h16 b16 (.int (0:Int32)) := D16 (Or.inr (ow hw 60 rfl)) (ty := .int) (by decide)
  have f24 := (H23.ext E16)
  have f26 := (H25.ext E16)
  have ne27 : a12 ≠ b16 := Nat.ne_of_lt (Nat.lt_of_lt_of_le H23.lt (Nat.le_of_eq g16.symm))
  have f30 : xF10 Z h16 b16 .null := D16 (Or.inr (ow hw 91 rfl)) (ty := (.object "java/util/List")) (by decide)
  have f32 := (H31.ext E16)
  have f33 : xF16 Z h16 b16 (.int (0:Int32)) := D16 (Or.inr (ow hw 130 rfl)) (ty := .boolean) (by decide)
  obtain ⟨T34, _, _, X34, hQ34, st34⟩ := cP X16 hx hZ hw hown (y := y5) rfl 47 rfl 48 rfl 49 rfl 36 rfl (by decide) (W := 1) (r5_1 hw b16 (3:Int32) a5 a14 p15 a12 a28 O_E16 f17 A16 g18 f19 f20 f21 f22 f24 f26 ne27 H29 f30 f32 f33) (by show 3 + 1 ≤ R.frames; omega) (by show 1 + (10 + 11) + 38 ≤ R.locals; omega) e16 (g := (mkF m 286 #[iv p1, iv p2, iv p3, iv p4, rv a5, iv p6, iv p7, rv a8, rv a9, rv a10, rv a11, rv a12, iv p13, .val .null, rv a14, iv p15, un, un, un] [(.ref a12), (.int p15), .null, (.ref a14), (.ref a5), (.int (3:Int32)), (.ref b16), (.ref b16)])) rfl (by rw [hml]; rfl) (argsL := [(.int (3:Int32)), (.ref a5), (.ref a14), .null, (.int p15), (.ref a12)]) (rest := [(.ref b16)]) (lenOf pd0 rfl) rfl wf (hb hby at_286) rfl (by show cells + 1 + 1 ≤ R.cells; omega) (by show slots + 8 + 4 ≤ R.slots; omega)
  obtain ⟨rfl, N34q, K34, f34_1, f34_2, f34_3, f34_4⟩ := hQ34
  have N34 := Fr.app N0 N34q
  have z35 : h0.size ≤ b16 := Nat.le_trans (Keep.refl h0 []).1 (Nat.le_of_eq g16.symm)
  have O_K34 : Old Z n0 T34.heap := O_E16.keep K34 (allS g18 all0)
  have Kp_K34 : Keep h0 T34.heap [] := Kp_E16.trans K34 (allS (Or.inr z35) all0)
  replace X34 : Stand p l e R _ m args below meth c T34 _ (cells + 2) (slots + 12) := X34
  obtain ⟨T42, _, _, X42, hQ42, st42⟩ := cV X34 hx hZ hw hown (y := y17) 136 rfl 137 rfl 139 rfl 138 rfl 140 rfl 36 rfl (by decide) (W := 0) (r17_1 hw b16 a5 a36 a39 a28 O_K34 f34_2 H37 H38 H40 H41 H29) (by show 1 + 1 ≤ R.frames; omega) (by show 0 + (1 + 11) + 11 ≤ R.locals; omega) f34_1 rfl (g := (mkF m 293 #[iv p1, iv p2, iv p3, iv p4, rv a5, iv p6, iv p7, rv a8, rv a9, rv a10, rv a11, rv a12, iv p13, .val .null, rv a14, iv p15, rv b16, un, un] [(.ref b16)])) rfl (by rw [hml]; rfl) (argsL := []) (rest := []) (lenOf pd20 rfl) rfl wf (hb hby at_293) rfl (by show cells + 2 + 0 ≤ R.cells; omega) (by show slots + 12 + 0 ≤ R.slots; omega)
  obtain ⟨rfl, N42q, e42⟩ := hQ42
  have N42 := Fr.app N34 N42q
  replace X42 : Stand p l e R _ m args below meth c T42 _ (cells + 2) (slots + 12) := X42
  refine ⟨T42, _, _, b16, X42.more (by omega) (by omega), e42, N42, Kp_K34, z35, f34_1, f34_2, f34_3, f34_4, fun target kt => ?_⟩
  show St p e below T0 m 271 #[iv p1, iv p2, iv p3, iv p4, rv a5, iv p6, iv p7, rv a8, rv a9, rv a10, rv a11, rv a12, iv p13, .val .null, rv a14, iv p15, un, un, un] [] _
  refine st16 _ ?_
  refine XS.dup X16.here hx rfl (hb hby at_274) rfl rfl ?_
  refine iC X16 hx hby at_275 ?_
  refine aL X16 hx hby at_276 rfl rfl ?_
  refine aL X16 hx hby at_278 rfl rfl ?_
  refine aL X16 hx hby at_280 rfl rfl ?_
  refine iL X16 hx hby at_282 rfl ?_
  refine aL X16 hx hby at_284 rfl rfl ?_
  refine st34.trans ?_
  refine XS.astore X34.here hx rfl (hb hby at_289) rfl rfl (l' := #[iv p1, iv p2, iv p3, iv p4, rv a5, iv p6, iv p7, rv a8, rv a9, rv a10, rv a11, rv a12, iv p13, .val .null, rv a14, iv p15, rv b16, un, un]) rfl ?_
  refine aL X34 hx hby at_291 rfl rfl ?_
  refine st42.trans ?_
  refine XS.astore X42.here hx rfl (hb hby at_296) rfl rfl (l' := #[iv p1, iv p2, iv p3, iv p4, rv a5, iv p6, iv p7, rv a8, rv a9, rv a10, rv a11, rv a12, iv p13, .val .null, rv a14, iv p15, rv b16, rv a28, un]) rfl ?_
  exact kt
theorem g1_12 (p1 p2 p3 p4:Int32) (a5 : Addr) (p6 p7:Int32) (a8 a9 a10 a11 a12 : Addr) (p13:Int32) (a14 : Addr) (p15:Int32) (a16 a17 a20 : Addr) (k22 : ClassId)
    (H0 : SG p l e R s m args below meth c T0 locs cells slots Z a0 h0 n0 0 0 1 12) (hc18 : p6 = (0:Int32)) (H19 : xE17 Z Z.heap a17) (H21 : xF18 Z Z.heap a17 (.ref a20)) (H23 : Arv Z Z.heap a20 k22 (.object "java/lang/Object") (0:Int32) [] .null) :
    ∃ (T' : State) (L' : List Loc), Stand p l e R s m args below meth c T' L' (cells + 0) (slots + 0) ∧ T'.heap = h0 ∧ Fr n0 L' ∧
      ∀ target, St p e below T' m 310 #[iv p1, iv p2, iv p3, iv p4, rv a5, iv p6, iv p7, rv a8, rv a9, rv a10, rv a11, rv a12, iv p13, .val .null, rv a14, iv p15, rv a16, rv a17, un] [(.int (1:Int32))] target → St p e below T0 m 298 #[iv p1, iv p2, iv p3, iv p4, rv a5, iv p6, iv p7, rv a8, rv a9, rv a10, rv a11, rv a12, iv p13, .val .null, rv a14, iv p15, rv a16, rv a17, un] [] target := by
  obtain ⟨X0, hx, hZ, hw, hby, hml, hown, e0, O0, N0, rc, rs, rf, rl⟩ := H0
  obtain ⟨T24, _, _, X24, hQ24, st24⟩ := cI X0 hx hZ hw hown (x := y19) (y := y18) 146 rfl 147 rfl 148 rfl 149 rfl 150 rfl 151 rfl 152 rfl 153 rfl 155 rfl 154 rfl (by decide) (W := 0) (r18_1 hw a17 a20 k22 O0 H21 H23) (by show 0 + 1 ≤ R.frames; omega) (by show 0 + (1 + 11) + 0 ≤ R.locals; omega) (H19.ext O0.2) e0 (g := (mkF m 305 #[iv p1, iv p2, iv p3, iv p4, rv a5, iv p6, iv p7, rv a8, rv a9, rv a10, rv a11, rv a12, iv p13, .val .null, rv a14, iv p15, rv a16, rv a17, un] [(.ref a17)])) rfl (by rw [hml]; rfl) (argsL := []) (rest := []) (lenOf pd23 rfl) rfl wf (hb hby at_305) rfl (by show cells + 0 + 0 ≤ R.cells; omega) (by show slots + 0 + 0 ≤ R.slots; omega)
  obtain ⟨rfl, N24q, e24⟩ := hQ24
  have N24 := Fr.app N0 N24q
  replace X24 : Stand p l e R _ m args below meth c T24 _ (cells + 0) (slots + 0) := X24
  refine ⟨T24, _, X24.more (by omega) (by omega), e24, N24, fun target kt => ?_⟩
  show St p e below T0 m 298 #[iv p1, iv p2, iv p3, iv p4, rv a5, iv p6, iv p7, rv a8, rv a9, rv a10, rv a11, rv a12, iv p13, .val .null, rv a14, iv p15, rv a16, rv a17, un] [] _
  refine iL X0 hx hby at_298 rfl ?_
  refine XS.ifNo X0.here hx rfl (hb hby at_300) rfl ((if0 _ _).trans (teq hc18).2) ?_
  refine aL X0 hx hby at_303 rfl rfl ?_
  refine st24.trans ?_
  exact kt
theorem law_3 (l : Launch) (Z : State) (a0 : Array Value) (hw : HW a0 Z) (ws : List Jvm.Cond) (w0 w1 w2 w3 w4 w5 w6 w7 w8 w9 w10 w11 w12 w13 w14 : Addr) (k_w10 k_w11 k_w13 : ClassId) (wMir : Addr) (B : Base Z w0 w1 w2 w3 w4 w5 w6 w7 w8 w9 w10 w11 w12 w13 w14 k_w10 k_w11 k_w13 wMir) (i0 i1 i2:Int32) (h0 : Heap) (n0 : Nat) (O0 : Old Z n0 h0) (pin0 : ((i0 &&& (2147483647:Int32)) % (10:Int32)) = (2:Int32)) :
    MetFree l x (head1 (Jvm.Cond.code x code maxLocals ret :: ws) room_1) (fun a U => a = #[(.int i0), (.int i1), (.int i2)] ∧ Z.Warmed39 U.vm ∧ U.heap = h0) (fun _ _ _ _ _ => True) (fun _ U o U' => ∃ v L, o = .returned v ∧ lawQ n0 v U'.heap L ∧ ReturnedEndW U o U' L room_1.cells room_1.slots) := by
  refine own_in (pq pn4) #[iv i0, iv i1, iv i2, un, un, un, un, un, un, un, un, un, un, un, un, un, un, un, un] (fun _ => by first | (simp [entryFrame, mkF, argsToLocals, Value.category, maxLocals]; done) | rfl) ?_
  intro p e s m below meth c s₁ Bd hx hby hml hown hnm hZ e0 X0
  have N0 := Fr.nil n0
  skip
  obtain ⟨_, _, _, X1, hQ1, st1⟩ := cS X0 hx hZ hw hown (y := y0) 1 rfl 2 rfl 3 rfl 4 rfl (by decide) (W := 0) (r0_3 hw w1 O0 (B.1.2.2.1)) (by decide) (by decide) e0 (g := (mkF m 9 #[iv i0, iv i1, iv i2, iv (2:Int32), un, un, un, un, un, un, un, un, un, un, un, un, un, un, un] [(.int (2:Int32))])) rfl (by rw [hml]; rfl) (argsL := [(.int (2:Int32))]) (rest := []) (lenOf pd9 rfl) rfl wf (hb hby at_9) rfl (by decide) (by decide)
  obtain ⟨rfl, N1q, e1⟩ := hQ1
  have N1 := Fr.app N0 N1q
  obtain ⟨_, _, X2, e2, N2, st2⟩ := g1_1 i0 i1 i2 (2:Int32) w1 ⟨X1, hx, hZ, hw, hby, hml, hown, e1, O0, N1, by decide, by decide, by decide, by decide⟩ (by decide) (by decide) (by decide)
  obtain ⟨_, h3, _, vm3, b3_0, b3_1, b3_2, b3_3, b3_4, X3, e3, hSq3, N3, K3, _, _, _, _, _, _, _, _, _, _, _, _, _, _, _, _, _, _, _, _, _, _, _, _, _, _, _, _, _, _, _, f3_32, f3_33, _, f3_35, st3⟩ := g1_2 i0 i1 i2 (2:Int32) w1 (0:Int32) (0:Int32) w11 w1 w12 ⟨X2, hx, hZ, hw, hby, hml, hown, e2, O0, N2, by decide, by decide, by decide, by decide⟩ (B.2.1.2.2.2.2.2.2.2.2.2.2.1) (B.1.2.2.1) (B.2.2.1.1)
  obtain ⟨Y3, hS3, hZ3, hown3⟩ := rebS (s := s) (vm0 := s.vm) (State.WarmedH.since (State.WarmedH.refl s) 0) (Nat.zero_le _) X3 hSq3 K3.1 hZ hown
  have O_K3 : Old Z n0 h3 := O0.keep K3 all0
  obtain ⟨_, _, X4, e4, N4, st4⟩ := g1_3 i0 i1 i2 (2:Int32) w1 (0:Int32) (0:Int32) b3_0 b3_1 b3_2 b3_3 b3_4 (0:Int32) ⟨Y3, hx, hZ3, hw, hby, hml, hown3, e3, O_K3, N3, by decide, by decide, by decide, by decide⟩ (by decide) (by decide)
  obtain ⟨_, _, X5, e5, N5, st5⟩ := g1_4 i0 i1 i2 (2:Int32) w1 (0:Int32) (0:Int32) b3_0 b3_1 b3_2 b3_3 b3_4 (0:Int32) ⟨X4, hx, hZ3, hw, hby, hml, hown3, e4, O_K3, N4, by decide, by decide, by decide, by decide⟩ (by decide)
  obtain ⟨_, h6, _, vm6, b6_0, X6, e6, hSq6, N6, K6, st6⟩ := g1_9 i0 i1 i2 (2:Int32) w1 (0:Int32) (0:Int32) b3_0 b3_1 b3_2 b3_3 b3_4 (0:Int32) ⟨X5, hx, hZ3, hw, hby, hml, hown3, e5, O_K3, N5, by decide, by decide, by decide, by decide⟩ (by decide)
  obtain ⟨Y6, hS6, hZ6, hown6⟩ := rebS (s := s) (vm0 := vm3) hS3 (Nat.le_refl _) X6 hSq6 K6.1 hZ3 hown3
  have O_K6 : Old Z n0 h6 := O_K3.keep K6 all0
  obtain ⟨_, _, X7, e7, N7, st7⟩ := g1_10 i0 i1 i2 (2:Int32) w1 (0:Int32) (0:Int32) b3_0 b3_1 b3_2 b3_3 b3_4 (0:Int32) b6_0 ⟨Y6, hx, hZ6, hw, hby, hml, hown6, e6, O_K6, N6, by decide, by decide, by decide, by decide⟩ (by decide) (by decide) (by decide) (by decide)
  have f8 := (f3_32.keep K6)
  have f9 := (f3_35.keep K6 nin0)
  have f10 := (f3_33.keep K6 nin0)
  obtain ⟨_, h11, _, b11_0, X11, e11, N11, K11, _, _, _, _, _, st11⟩ := g1_11 i0 i1 i2 (2:Int32) w1 (0:Int32) (0:Int32) b3_0 b3_1 b3_2 b3_3 b3_4 (0:Int32) b6_0 (0:Int32) w12 w2 w3 ⟨X7, hx, hZ6, hw, hby, hml, hown6, e7, O_K6, N7, by decide, by decide, by decide, by decide⟩ f8 f9 (B.2.2.1.1) f10 (B.1.2.2.2.2.1) (B.2.2.2.2.1.2.2.2.2.2.2.2.2.2.2.2) (B.1.2.2.2.2.2.2.1) (B.2.2.2.2.2.1.1)
  have O_K11 : Old Z n0 h11 := O_K6.keep K11 all0
  obtain ⟨T12, _, X12, e12, N12, st12⟩ := g1_12 i0 i1 i2 (2:Int32) w1 (0:Int32) (0:Int32) b3_0 b3_1 b3_2 b3_3 b3_4 (0:Int32) b6_0 (0:Int32) b11_0 w12 w13 k_w13 ⟨X11, hx, hZ6, hw, hby, hml, hown6, e11, O_K11, N11, by decide, by decide, by decide, by decide⟩ (by decide) (B.2.2.1.2.1) (B.2.2.1.2.2.1) (B.2.2.2.1.2.2.2.2.2.2.2.2.1)
  obtain ⟨_, hr, hrun, hended, hE⟩ := Stand.leaveW (s := s) (vm₁ := vm6) X12 hS6 (by rw [e12]; exact (Nat.le_trans (Nat.le_refl _) K11.1)) (v := some (.int (1:Int32))) (fun h => by rw [Bd.returns] at h; cases h)
  refine ⟨_, _, ?_, hrun, hended, _, _, rfl, ?_, hE.1, hE.2.1, hE.2.2.1, hE.2.2.2.mono (by decide) (by decide)⟩
  · show St p e below s₁ m 0 #[iv i0, iv i1, iv i2, un, un, un, un, un, un, un, un, un, un, un, un, un, un, un, un] [] _
    refine iN X0 hx hby at_0 rfl ?_
    refine X0.ldcInt hx hown (mo hZ hw 0 rfl) (g := (mkF m 1 #[iv i0, iv i1, iv i2, un, un, un, un, un, un, un, un, un, un, un, un, un, un, un, un] [(.int i0)])) rfl (hb hby at_1) _ ?_
    refine XS.iand X0.here hx rfl (hb hby at_3) rfl ?_
    refine XS.bipush X0.here hx rfl (hb hby at_4) ?_
    refine Jvm.RoadKit.iremM (g := (mkF m 6 #[iv i0, iv i1, iv i2, un, un, un, un, un, un, un, un, un, un, un, un, un, un, un, un] [(.int (10:Int32)), (.int (i0 &&& (2147483647:Int32)))])) X0 hx rfl (hb hby at_6) rfl (by decide : ¬ ((10:Int32) = (0:Int32))) ?_
    show St p e below s₁ m 7 #[iv i0, iv i1, iv i2, un, un, un, un, un, un, un, un, un, un, un, un, un, un, un, un] [(.int ((i0 &&& (2147483647:Int32)) % (10:Int32)))] _
    rw [pin0]
    refine XS.istoreN X0.here hx rfl (hb hby at_7) rfl (l' := #[iv i0, iv i1, iv i2, iv (2:Int32), un, un, un, un, un, un, un, un, un, un, un, un, un, un, un]) rfl ?_
    refine iN X0 hx hby at_8 rfl ?_
    refine st1 _ ?_
    refine XS.astore X1.here hx rfl (hb hby at_12) rfl rfl (l' := #[iv i0, iv i1, iv i2, iv (2:Int32), rv w1, un, un, un, un, un, un, un, un, un, un, un, un, un, un]) rfl ?_
    refine st2 _ ?_
    refine st3 _ ?_
    refine st4 _ ?_
    refine st5 _ ?_
    refine st6 _ ?_
    refine st7 _ ?_
    refine st11 _ ?_
    refine st12 _ ?_
    exact retN X12 hx (t := .boolean) Bd.returns (by simp) (hb hby at_310) hr
  · show lawQ n0 _ T12.heap _
    rw [e12]
    exact ⟨rfl, N12⟩
theorem d0_26 : dk method_2_code 26 (.iload_n 0) 1 := by decide +kernel
theorem d0_27 : dk method_2_code 27 (.iconst 3) 1 := by decide +kernel
theorem d0_28 : dk method_2_code 28 (.if_icmp .ne 7) 3 := by decide +kernel
theorem d0_31 : dk method_2_code 31 (.getstatic 19) 3 := by decide +kernel
theorem d0_34 : dk method_2_code 34 .areturn 1 := by decide +kernel
def r0_4Q (Z : State) (a1 : Addr) (h0 : Heap) (n0 : Nat) : QT := fun v h L => v = some (.ref a1) ∧ Fr n0 L ∧ h = h0
theorem r0_4 (hw : HW a0 Z) (a1 : Addr) (O0 : Old Z n0 h0) (H2 : Sta Z Z.heap "tabula/engine/Concept$Kind" "NEGATED_NAME" "Ltabula/engine/Concept$Kind;" (.ref a1)) :
    MF l y0 method_2_code 1 (some (.object "tabula/engine/Concept$Kind")) [] (rM 0 0 0 0) Z #[(.int (3:Int32))] h0 (r0_4Q Z a1 h0 n0) := by
  refine own_in (pq pn4) #[iv (3:Int32)] (fun _ => by first | (simp [entryFrame, mkF, argsToLocals, Value.category]; done) | rfl) ?_
  intro p e s m below meth c s₁ Bd hx hby hml hown hnm hZ e0 X0
  have N0 := Fr.nil n0
  obtain ⟨_, X3, e3, st3⟩ := getS2 X0 hx hZ hown (host := "") (Or.inl (ow hw 345 rfl)) Via.refl e0 (H2.ext O0.2) (g := (mkF m 31 #[iv (3:Int32)] [])) rfl (hb hby d0_31)
  refine fin (Q := r0_4Q Z a1 h0 n0) (rm := (rM 0 0 0 0)) Bd X3 e3 (some (.ref a1)) nofun ⟨rfl, N0, rfl⟩ (by decide) (by decide) fun fs hr => ?_
  show St p e below s₁ m 0 #[iv (3:Int32)] [] _
  refine iN X0 hx hby d0_0 rfl ?_
  refine XS.ifYes X0.here hx rfl (pc0 := 1) (pc' := 8) rfl (hb hby d0_1) rfl ((if0 _ _).trans (feq (by decide : ¬ ((3:Int32) = (0:Int32)))).2) (by decide) (by decide) ?_
  refine iN X0 hx hby d0_8 rfl ?_
  refine iC X0 hx hby d0_9 ?_
  refine XS.icmpYes X0.here hx rfl (pc0 := 10) (pc' := 17) rfl (hb hby d0_10) rfl (feq (by decide : ¬ ((3:Int32) = (1:Int32)))).2 (by decide) (by decide) ?_
  refine iN X0 hx hby d0_17 rfl ?_
  refine iC X0 hx hby d0_18 ?_
  refine XS.icmpYes X0.here hx rfl (pc0 := 19) (pc' := 26) rfl (hb hby d0_19) rfl (feq (by decide : ¬ ((3:Int32) = (2:Int32)))).2 (by decide) (by decide) ?_
  refine iN X0 hx hby d0_26 rfl ?_
  refine iC X0 hx hby d0_27 ?_
  refine XS.icmpNo X0.here hx rfl (hb hby d0_28) rfl (teq (rfl : (3:Int32) = (3:Int32))).2 ?_
  refine st3 _ ?_
  exact retA X3 hx Bd.returns rfl rfl (hb hby d0_34) hr
theorem g1_13 (p1 p2 p3 p4:Int32) (a5 : Addr) (p6 p7:Int32) (a8 a9 a10 a11 a12 : Addr) (p13:Int32)
    (H0 : SG p l e R s m args below meth c T0 locs cells slots Z a0 h0 n0 2 8 0 0) (hc14 : ¬ (p4 = (2:Int32))) (hc15 : p4 = (3:Int32)) :
    ∃ (T' : State) (h' : Heap) (L' : List Loc) (vm' : Vm) (a16 : Addr), Stand p l e R (s.setVm vm') m args below meth c T' L' (cells + 2) (slots + 8) ∧ T'.heap = h' ∧ s.Since vm' h'.size ∧ Fr n0 L' ∧ Keep h0 h' [] ∧
      ∀ target, St p e below T' m 264 #[iv p1, iv p2, iv p3, iv p4, rv a5, iv p6, iv p7, rv a8, rv a9, rv a10, rv a11, rv a12, iv p13, .val .null, rv a16, un, un, un, un] [] target → St p e below T0 m 246 #[iv p1, iv p2, iv p3, iv p4, rv a5, iv p6, iv p7, rv a8, rv a9, rv a10, rv a11, rv a12, iv p13, .val .null, un, un, un, un, un] [] target := by
  obtain ⟨X0, hx, hZ, hw, hby, hml, hown, e0, O0, N0, rc, rs, rf, rl⟩ := H0
  obtain ⟨a16, T16, h16, _, X16, e16, E16, hS16, hk16, _, _, st16⟩ := ldcS (s := s) (vm0 := s.vm) X0 hx hZ (own := "tabula/engine/ConceptOperandsPinLaw") hown (ow hw 347 rfl) (fun d hd => hw d (strW d hd)) e0 (State.WarmedH.since (State.WarmedH.refl s) 0) (Nat.zero_le _) (g := (mkF m 256 #[iv p1, iv p2, iv p3, iv p4, rv a5, iv p6, iv p7, rv a8, rv a9, rv a10, rv a11, rv a12, iv p13, .val .null, un, un, un, un, un] [])) rfl (hb hby at_256) (n := 4) (by decide) (by decide) (by omega) (by omega)
  have Kp_E16 : Keep h0 h16 [] := (Keep.refl h0 []).ext E16
  refine ⟨T16, _, _, T16.vm, a16, X16.more (by omega) (by omega), e16, own_since hS16 hk16, N0, Kp_E16, fun target kt => ?_⟩
  show St p e below T0 m 246 #[iv p1, iv p2, iv p3, iv p4, rv a5, iv p6, iv p7, rv a8, rv a9, rv a10, rv a11, rv a12, iv p13, .val .null, un, un, un, un, un] [] _
  refine iN X0 hx hby at_246 rfl ?_
  refine iC X0 hx hby at_247 ?_
  refine XS.icmpNo X0.here hx rfl (hb hby at_248) rfl (feq hc14).1 ?_
  refine iN X0 hx hby at_251 rfl ?_
  refine iC X0 hx hby at_252 ?_
  refine XS.icmpNo X0.here hx rfl (hb hby at_253) rfl (teq hc15).2 ?_
  refine st16 _ ?_
  refine XS.goto X16.here hx rfl (pc0 := 258) (pc' := 262) rfl (hb hby at_258) (by decide) (by decide) ?_
  refine XS.astore X16.here hx rfl (hb hby at_262) rfl rfl (l' := #[iv p1, iv p2, iv p3, iv p4, rv a5, iv p6, iv p7, rv a8, rv a9, rv a10, rv a11, rv a12, iv p13, .val .null, rv a16, un, un, un, un]) rfl ?_
  exact kt
theorem law_4 (l : Launch) (Z : State) (a0 : Array Value) (hw : HW a0 Z) (ws : List Jvm.Cond) (w0 w1 w2 w3 w4 w5 w6 w7 w8 w9 w10 w11 w12 w13 w14 : Addr) (k_w10 k_w11 k_w13 : ClassId) (wMir : Addr) (B : Base Z w0 w1 w2 w3 w4 w5 w6 w7 w8 w9 w10 w11 w12 w13 w14 k_w10 k_w11 k_w13 wMir) (i0 i1 i2:Int32) (h0 : Heap) (n0 : Nat) (O0 : Old Z n0 h0) (pin0 : ((i0 &&& (2147483647:Int32)) % (10:Int32)) = (3:Int32)) :
    MetFree l x (head1 (Jvm.Cond.code x code maxLocals ret :: ws) room_1) (fun a U => a = #[(.int i0), (.int i1), (.int i2)] ∧ Z.Warmed39 U.vm ∧ U.heap = h0) (fun _ _ _ _ _ => True) (fun _ U o U' => ∃ v L, o = .returned v ∧ lawQ n0 v U'.heap L ∧ ReturnedEndW U o U' L room_1.cells room_1.slots) := by
  refine own_in (pq pn4) #[iv i0, iv i1, iv i2, un, un, un, un, un, un, un, un, un, un, un, un, un, un, un, un] (fun _ => by first | (simp [entryFrame, mkF, argsToLocals, Value.category, maxLocals]; done) | rfl) ?_
  intro p e s m below meth c s₁ Bd hx hby hml hown hnm hZ e0 X0
  have N0 := Fr.nil n0
  skip
  obtain ⟨_, _, _, X1, hQ1, st1⟩ := cS X0 hx hZ hw hown (y := y0) 1 rfl 2 rfl 3 rfl 4 rfl (by decide) (W := 0) (r0_4 hw w6 O0 (B.2.1.1)) (by decide) (by decide) e0 (g := (mkF m 9 #[iv i0, iv i1, iv i2, iv (3:Int32), un, un, un, un, un, un, un, un, un, un, un, un, un, un, un] [(.int (3:Int32))])) rfl (by rw [hml]; rfl) (argsL := [(.int (3:Int32))]) (rest := []) (lenOf pd9 rfl) rfl wf (hb hby at_9) rfl (by decide) (by decide)
  obtain ⟨rfl, N1q, e1⟩ := hQ1
  have N1 := Fr.app N0 N1q
  obtain ⟨_, _, X2, e2, N2, st2⟩ := g1_1 i0 i1 i2 (3:Int32) w6 ⟨X1, hx, hZ, hw, hby, hml, hown, e1, O0, N1, by decide, by decide, by decide, by decide⟩ (by decide) (by decide) (by decide)
  obtain ⟨_, h3, _, vm3, b3_0, b3_1, b3_2, b3_3, b3_4, X3, e3, hSq3, N3, K3, _, _, _, _, _, _, _, _, _, _, _, _, _, _, _, _, _, _, _, _, _, _, _, _, _, _, _, _, _, _, _, f3_32, f3_33, _, f3_35, st3⟩ := g1_2 i0 i1 i2 (3:Int32) w6 (0:Int32) (0:Int32) w11 w1 w12 ⟨X2, hx, hZ, hw, hby, hml, hown, e2, O0, N2, by decide, by decide, by decide, by decide⟩ (B.2.1.2.2.2.2.2.2.2.2.2.2.1) (B.1.2.2.1) (B.2.2.1.1)
  obtain ⟨Y3, hS3, hZ3, hown3⟩ := rebS (s := s) (vm0 := s.vm) (State.WarmedH.since (State.WarmedH.refl s) 0) (Nat.zero_le _) X3 hSq3 K3.1 hZ hown
  have O_K3 : Old Z n0 h3 := O0.keep K3 all0
  obtain ⟨_, _, X4, e4, N4, st4⟩ := g1_3 i0 i1 i2 (3:Int32) w6 (0:Int32) (0:Int32) b3_0 b3_1 b3_2 b3_3 b3_4 (0:Int32) ⟨Y3, hx, hZ3, hw, hby, hml, hown3, e3, O_K3, N3, by decide, by decide, by decide, by decide⟩ (by decide) (by decide)
  obtain ⟨_, _, X5, e5, N5, st5⟩ := g1_4 i0 i1 i2 (3:Int32) w6 (0:Int32) (0:Int32) b3_0 b3_1 b3_2 b3_3 b3_4 (0:Int32) ⟨X4, hx, hZ3, hw, hby, hml, hown3, e4, O_K3, N4, by decide, by decide, by decide, by decide⟩ (by decide)
  obtain ⟨_, h6, _, vm6, b6_0, X6, e6, hSq6, N6, K6, st6⟩ := g1_13 i0 i1 i2 (3:Int32) w6 (0:Int32) (0:Int32) b3_0 b3_1 b3_2 b3_3 b3_4 (0:Int32) ⟨X5, hx, hZ3, hw, hby, hml, hown3, e5, O_K3, N5, by decide, by decide, by decide, by decide⟩ (by decide) (by decide)
  obtain ⟨Y6, hS6, hZ6, hown6⟩ := rebS (s := s) (vm0 := vm3) hS3 (Nat.le_refl _) X6 hSq6 K6.1 hZ3 hown3
  have O_K6 : Old Z n0 h6 := O_K3.keep K6 all0
  obtain ⟨_, _, X7, e7, N7, st7⟩ := g1_10 i0 i1 i2 (3:Int32) w6 (0:Int32) (0:Int32) b3_0 b3_1 b3_2 b3_3 b3_4 (0:Int32) b6_0 ⟨Y6, hx, hZ6, hw, hby, hml, hown6, e6, O_K6, N6, by decide, by decide, by decide, by decide⟩ (by decide) (by decide) (by decide) (by decide)
  have f8 := (f3_32.keep K6)
  have f9 := (f3_35.keep K6 nin0)
  have f10 := (f3_33.keep K6 nin0)
  obtain ⟨_, h11, _, b11_0, X11, e11, N11, K11, _, _, _, _, _, st11⟩ := g1_11 i0 i1 i2 (3:Int32) w6 (0:Int32) (0:Int32) b3_0 b3_1 b3_2 b3_3 b3_4 (0:Int32) b6_0 (0:Int32) w12 w2 w3 ⟨X7, hx, hZ6, hw, hby, hml, hown6, e7, O_K6, N7, by decide, by decide, by decide, by decide⟩ f8 f9 (B.2.2.1.1) f10 (B.1.2.2.2.2.1) (Ne.symm B.2.2.2.2.2.2.1.2.2.2.1) (B.1.2.2.2.2.2.2.1) (Ne.symm B.2.2.2.2.2.2.2.1.2.2.1)
  have O_K11 : Old Z n0 h11 := O_K6.keep K11 all0
  obtain ⟨T12, _, X12, e12, N12, st12⟩ := g1_12 i0 i1 i2 (3:Int32) w6 (0:Int32) (0:Int32) b3_0 b3_1 b3_2 b3_3 b3_4 (0:Int32) b6_0 (0:Int32) b11_0 w12 w13 k_w13 ⟨X11, hx, hZ6, hw, hby, hml, hown6, e11, O_K11, N11, by decide, by decide, by decide, by decide⟩ (by decide) (B.2.2.1.2.1) (B.2.2.1.2.2.1) (B.2.2.2.1.2.2.2.2.2.2.2.2.1)
  obtain ⟨_, hr, hrun, hended, hE⟩ := Stand.leaveW (s := s) (vm₁ := vm6) X12 hS6 (by rw [e12]; exact (Nat.le_trans (Nat.le_refl _) K11.1)) (v := some (.int (1:Int32))) (fun h => by rw [Bd.returns] at h; cases h)
  refine ⟨_, _, ?_, hrun, hended, _, _, rfl, ?_, hE.1, hE.2.1, hE.2.2.1, hE.2.2.2.mono (by decide) (by decide)⟩
  · show St p e below s₁ m 0 #[iv i0, iv i1, iv i2, un, un, un, un, un, un, un, un, un, un, un, un, un, un, un, un] [] _
    refine iN X0 hx hby at_0 rfl ?_
    refine X0.ldcInt hx hown (mo hZ hw 0 rfl) (g := (mkF m 1 #[iv i0, iv i1, iv i2, un, un, un, un, un, un, un, un, un, un, un, un, un, un, un, un] [(.int i0)])) rfl (hb hby at_1) _ ?_
    refine XS.iand X0.here hx rfl (hb hby at_3) rfl ?_
    refine XS.bipush X0.here hx rfl (hb hby at_4) ?_
    refine Jvm.RoadKit.iremM (g := (mkF m 6 #[iv i0, iv i1, iv i2, un, un, un, un, un, un, un, un, un, un, un, un, un, un, un, un] [(.int (10:Int32)), (.int (i0 &&& (2147483647:Int32)))])) X0 hx rfl (hb hby at_6) rfl (by decide : ¬ ((10:Int32) = (0:Int32))) ?_
    show St p e below s₁ m 7 #[iv i0, iv i1, iv i2, un, un, un, un, un, un, un, un, un, un, un, un, un, un, un, un] [(.int ((i0 &&& (2147483647:Int32)) % (10:Int32)))] _
    rw [pin0]
    refine XS.istoreN X0.here hx rfl (hb hby at_7) rfl (l' := #[iv i0, iv i1, iv i2, iv (3:Int32), un, un, un, un, un, un, un, un, un, un, un, un, un, un, un]) rfl ?_
    refine iN X0 hx hby at_8 rfl ?_
    refine st1 _ ?_
    refine XS.astore X1.here hx rfl (hb hby at_12) rfl rfl (l' := #[iv i0, iv i1, iv i2, iv (3:Int32), rv w6, un, un, un, un, un, un, un, un, un, un, un, un, un, un]) rfl ?_
    refine st2 _ ?_
    refine st3 _ ?_
    refine st4 _ ?_
    refine st5 _ ?_
    refine st6 _ ?_
    refine st7 _ ?_
    refine st11 _ ?_
    refine st12 _ ?_
    exact retN X12 hx (t := .boolean) Bd.returns (by simp) (hb hby at_310) hr
  · show lawQ n0 _ T12.heap _
    rw [e12]
    exact ⟨rfl, N12⟩
theorem d0_35 : dk method_2_code 35 (.iload_n 0) 1 := by decide +kernel
theorem d0_36 : dk method_2_code 36 (.iconst 4) 1 := by decide +kernel
theorem d0_37 : dk method_2_code 37 (.if_icmp .ne 7) 3 := by decide +kernel
theorem d0_40 : dk method_2_code 40 (.getstatic 22) 3 := by decide +kernel
theorem d0_43 : dk method_2_code 43 .areturn 1 := by decide +kernel
def r0_5Q (Z : State) (a1 : Addr) (h0 : Heap) (n0 : Nat) : QT := fun v h L => v = some (.ref a1) ∧ Fr n0 L ∧ h = h0
theorem r0_5 (hw : HW a0 Z) (a1 : Addr) (O0 : Old Z n0 h0) (H2 : Sta Z Z.heap "tabula/engine/Concept$Kind" "AND" "Ltabula/engine/Concept$Kind;" (.ref a1)) :
    MF l y0 method_2_code 1 (some (.object "tabula/engine/Concept$Kind")) [] (rM 0 0 0 0) Z #[(.int (4:Int32))] h0 (r0_5Q Z a1 h0 n0) := by
  refine own_in (pq pn4) #[iv (4:Int32)] (fun _ => by first | (simp [entryFrame, mkF, argsToLocals, Value.category]; done) | rfl) ?_
  intro p e s m below meth c s₁ Bd hx hby hml hown hnm hZ e0 X0
  have N0 := Fr.nil n0
  obtain ⟨_, X3, e3, st3⟩ := getS2 X0 hx hZ hown (host := "") (Or.inl (ow hw 160 rfl)) Via.refl e0 (H2.ext O0.2) (g := (mkF m 40 #[iv (4:Int32)] [])) rfl (hb hby d0_40)
  refine fin (Q := r0_5Q Z a1 h0 n0) (rm := (rM 0 0 0 0)) Bd X3 e3 (some (.ref a1)) nofun ⟨rfl, N0, rfl⟩ (by decide) (by decide) fun fs hr => ?_
  show St p e below s₁ m 0 #[iv (4:Int32)] [] _
  refine iN X0 hx hby d0_0 rfl ?_
  refine XS.ifYes X0.here hx rfl (pc0 := 1) (pc' := 8) rfl (hb hby d0_1) rfl ((if0 _ _).trans (feq (by decide : ¬ ((4:Int32) = (0:Int32)))).2) (by decide) (by decide) ?_
  refine iN X0 hx hby d0_8 rfl ?_
  refine iC X0 hx hby d0_9 ?_
  refine XS.icmpYes X0.here hx rfl (pc0 := 10) (pc' := 17) rfl (hb hby d0_10) rfl (feq (by decide : ¬ ((4:Int32) = (1:Int32)))).2 (by decide) (by decide) ?_
  refine iN X0 hx hby d0_17 rfl ?_
  refine iC X0 hx hby d0_18 ?_
  refine XS.icmpYes X0.here hx rfl (pc0 := 19) (pc' := 26) rfl (hb hby d0_19) rfl (feq (by decide : ¬ ((4:Int32) = (2:Int32)))).2 (by decide) (by decide) ?_
  refine iN X0 hx hby d0_26 rfl ?_
  refine iC X0 hx hby d0_27 ?_
  refine XS.icmpYes X0.here hx rfl (pc0 := 28) (pc' := 35) rfl (hb hby d0_28) rfl (feq (by decide : ¬ ((4:Int32) = (3:Int32)))).2 (by decide) (by decide) ?_
  refine iN X0 hx hby d0_35 rfl ?_
  refine iC X0 hx hby d0_36 ?_
  refine XS.icmpNo X0.here hx rfl (hb hby d0_37) rfl (teq (rfl : (4:Int32) = (4:Int32))).2 ?_
  refine st3 _ ?_
  exact retA X3 hx Bd.returns rfl rfl (hb hby d0_43) hr
theorem g1_14 (p1 p2 p3 p4:Int32) (a5 : Addr)
    (H0 : SG p l e R s m args below meth c T0 locs cells slots Z a0 h0 n0 0 0 0 0) (hc6 : p4 = (4:Int32)) (hc7 : p4 < (6:Int32)) :
    ∃ (T' : State) (L' : List Loc), Stand p l e R s m args below meth c T' L' (cells + 0) (slots + 0) ∧ T'.heap = h0 ∧ Fr n0 L' ∧
      ∀ target, St p e below T' m 44 #[iv p1, iv p2, iv p3, iv p4, rv a5, iv (1:Int32), iv (0:Int32), un, un, un, un, un, un, un, un, un, un, un, un] [] target → St p e below T0 m 14 #[iv p1, iv p2, iv p3, iv p4, rv a5, un, un, un, un, un, un, un, un, un, un, un, un, un, un] [] target := by
  obtain ⟨X0, hx, hZ, hw, hby, hml, hown, e0, O0, N0, rc, rs, rf, rl⟩ := H0
  refine ⟨T0, _, X0.more (by omega) (by omega), e0, N0, fun target kt => ?_⟩
  show St p e below T0 m 14 #[iv p1, iv p2, iv p3, iv p4, rv a5, un, un, un, un, un, un, un, un, un, un, un, un, un, un] [] _
  refine iN X0 hx hby at_14 rfl ?_
  refine iC X0 hx hby at_15 ?_
  refine XS.icmpYes X0.here hx rfl (pc0 := 16) (pc' := 24) rfl (hb hby at_16) rfl (teq hc6).1 (by decide) (by decide) ?_
  refine iC X0 hx hby at_24 ?_
  refine XS.goto X0.here hx rfl (pc0 := 25) (pc' := 29) rfl (hb hby at_25) (by decide) (by decide) ?_
  refine XS.istore X0.here hx rfl (hb hby at_29) rfl (l' := #[iv p1, iv p2, iv p3, iv p4, rv a5, iv (1:Int32), un, un, un, un, un, un, un, un, un, un, un, un, un]) rfl ?_
  refine iN X0 hx hby at_31 rfl ?_
  refine XS.bipush X0.here hx rfl (hb hby at_32) ?_
  refine XS.icmpYes X0.here hx rfl (pc0 := 34) (pc' := 41) rfl (hb hby at_34) rfl (tlt hc7).1 (by decide) (by decide) ?_
  refine iC X0 hx hby at_41 ?_
  refine XS.istore X0.here hx rfl (hb hby at_42) rfl (l' := #[iv p1, iv p2, iv p3, iv p4, rv a5, iv (1:Int32), iv (0:Int32), un, un, un, un, un, un, un, un, un, un, un, un]) rfl ?_
  exact kt
theorem d20_0 : dk cJ38_25 0 (.aload_n 0) 1 := by decide +kernel
theorem d20_1 : dk cJ38_25 1 .dup 1 := by decide +kernel
theorem d20_2 : dk cJ38_25 2 (.getfield 63) 3 := by decide +kernel
theorem d20_5 : dk cJ38_25 5 (.iconst 1) 1 := by decide +kernel
theorem d20_6 : dk cJ38_25 6 .iadd 1 := by decide +kernel
theorem d20_7 : dk cJ38_25 7 (.putfield 63) 3 := by decide +kernel
theorem d20_10 : dk cJ38_25 10 (.aload_n 0) 1 := by decide +kernel
theorem d20_11 : dk cJ38_25 11 (.aload_n 1) 1 := by decide +kernel
theorem d20_12 : dk cJ38_25 12 (.aload_n 0) 1 := by decide +kernel
theorem d20_13 : dk cJ38_25 13 (.getfield 9) 3 := by decide +kernel
theorem d20_16 : dk cJ38_25 16 (.aload_n 0) 1 := by decide +kernel
theorem d20_17 : dk cJ38_25 17 (.getfield 48) 3 := by decide +kernel
theorem d20_20 : dk cJ38_25 20 (.invokevirtual 131) 3 := by decide +kernel
theorem d21_0 : dk cJ38_24 0 (.iload_n 3) 1 := by decide +kernel
theorem d21_1 : dk cJ38_24 1 (.aload_n 2) 1 := by decide +kernel
theorem d21_2 : dk cJ38_24 2 .arraylength 1 := by decide +kernel
theorem d21_3 : dk cJ38_24 3 (.if_icmp .ne 8) 3 := by decide +kernel
theorem d21_6 : dk cJ38_24 6 (.aload_n 0) 1 := by decide +kernel
theorem d21_7 : dk cJ38_24 7 (.invokevirtual 129) 3 := by decide +kernel
theorem d22_0 : dk jdk_38_method_7_code 0 (.aload_n 0) 1 := by decide +kernel
theorem d22_1 : dk jdk_38_method_7_code 1 (.aload_n 0) 1 := by decide +kernel
theorem d22_2 : dk jdk_38_method_7_code 2 (.getfield 48) 3 := by decide +kernel
theorem d22_5 : dk jdk_38_method_7_code 5 (.iconst 1) 1 := by decide +kernel
theorem d22_6 : dk jdk_38_method_7_code 6 .iadd 1 := by decide +kernel
theorem d22_7 : dk jdk_38_method_7_code 7 (.invokevirtual 69) 3 := by decide +kernel
theorem d23_0 : dk cJ38_6 0 (.aload_n 0) 1 := by decide +kernel
theorem d23_1 : dk cJ38_6 1 (.getfield 9) 3 := by decide +kernel
theorem d23_4 : dk cJ38_6 4 .arraylength 1 := by decide +kernel
theorem d23_5 : dk cJ38_6 5 (.istore_n 2) 1 := by decide +kernel
theorem d23_6 : dk cJ38_6 6 (.iload_n 2) 1 := by decide +kernel
theorem d23_7 : dk cJ38_6 7 (.ifCond .gt 13) 3 := by decide +kernel
theorem d23_10 : dk cJ38_6 10 (.aload_n 0) 1 := by decide +kernel
theorem d23_11 : dk cJ38_6 11 (.getfield 9) 3 := by decide +kernel
theorem d23_14 : dk cJ38_6 14 (.getstatic 39) 3 := by decide +kernel
theorem d23_17 : dk cJ38_6 17 (.if_acmp .eq 28) 3 := by decide +kernel
theorem d23_45 : dk cJ38_6 45 (.aload_n 0) 1 := by decide +kernel
theorem d23_46 : dk cJ38_6 46 (.bipush 10) 2 := by decide +kernel
theorem d23_48 : dk cJ38_6 48 (.iload_n 1) 1 := by decide +kernel
theorem d23_49 : dk cJ38_6 49 (.invokestatic 79) 3 := by decide +kernel
theorem d24_0 : dk jdk_29_method_65_code 0 (.iload_n 0) 1 := by decide +kernel
theorem d24_1 : dk jdk_29_method_65_code 1 (.iload_n 1) 1 := by decide +kernel
theorem d24_2 : dk jdk_29_method_65_code 2 (.if_icmp .lt 7) 3 := by decide +kernel
theorem d24_5 : dk jdk_29_method_65_code 5 (.iload_n 0) 1 := by decide +kernel
theorem d24_6 : dk jdk_29_method_65_code 6 (.goto 4) 3 := by decide +kernel
theorem d24_10 : dk jdk_29_method_65_code 10 .ireturn 1 := by decide +kernel
abbrev y24 : MethodName := ⟨"java/lang/Math", "max", "(II)I"⟩
def r24_1Q (Z : State) (h0 : Heap) (n0 : Nat) : QT := fun v h L => v = some (.int (10:Int32)) ∧ Fr n0 L ∧ h = h0
theorem r24_1 (hw : HW a0 Z) (O0 : Old Z n0 h0) :
    MF l y24 jdk_29_method_65_code 2 (some .int) [] (rM 0 0 0 0) Z #[(.int (10:Int32)), (.int (1:Int32))] h0 (r24_1Q Z h0 n0) := by
  refine own_in (Jvm.Free.JP.mathPlain rfl (by decide +kernel)) #[iv (10:Int32), iv (1:Int32)] (fun _ => by first | (simp [entryFrame, mkF, argsToLocals, Value.category]; done) | rfl) ?_
  intro p e s m below meth c s₁ Bd hx hby hml hown hnm hZ e0 X0
  have N0 := Fr.nil n0
  refine fin (Q := r24_1Q Z h0 n0) (rm := (rM 0 0 0 0)) Bd X0 e0 (some (.int (10:Int32))) nofun ⟨rfl, N0, rfl⟩ (by decide) (by decide) fun fs hr => ?_
  show St p e below s₁ m 0 #[iv (10:Int32), iv (1:Int32)] [] _
  refine iN X0 hx hby d24_0 rfl ?_
  refine iN X0 hx hby d24_1 rfl ?_
  refine XS.icmpNo X0.here hx rfl (hb hby d24_2) rfl (flt (by decide : ¬ ((10:Int32) < (1:Int32)))).1 ?_
  refine iN X0 hx hby d24_5 rfl ?_
  refine XS.goto X0.here hx rfl (pc0 := 6) (pc' := 10) rfl (hb hby d24_6) (by decide) (by decide) ?_
  exact retI X0 hx Bd.returns (hb hby d24_10) hr
theorem d23_52 : dk cJ38_6 52 (.anewarray 7) 3 := by decide +kernel
theorem d23_55 : dk cJ38_6 55 .dup_x1 1 := by decide +kernel
theorem d23_56 : dk cJ38_6 56 (.putfield 9) 3 := by decide +kernel
theorem d23_59 : dk cJ38_6 59 .areturn 1 := by decide +kernel
abbrev xE19 (Z : State) (h : Heap) (a : Addr) : Prop := Exa Z h a "[Ljava/lang/Object;"
abbrev y23 : MethodName := ⟨"java/util/ArrayList", "grow", "(I)[Ljava/lang/Object;"⟩
def r23_1Q (Z : State) (a1 a2 : Addr) (k6 : ClassId) (h0 : Heap) (n0 : Nat) : QT := fun v h L => ∃ (b12 : Addr) (k12 : ClassId), v = some (.ref b12) ∧ Fr n0 L ∧ Keep h0 h [a1] ∧ h0.size ≤ b12 ∧ xF2 Z h a1 (.ref b12) ∧ xE1 Z h a1 ∧ xF3 Z h a1 (.int (0:Int32)) ∧ xF0 Z h a1 (.int (1:Int32)) ∧ Arv Z h b12 k12 (.object "java/lang/Object") (10:Int32) [.null, .null, .null, .null, .null, .null, .null, .null, .null, .null] .null ∧ xE19 Z h b12 ∧ Ovr Z k12 "java/lang/Object"
theorem r23_1 (hw : HW a0 Z) (a1 a2 : Addr) (k6 : ClassId) (O0 : Old Z n0 h0) (H3 : xF2 Z h0 a1 (.ref a2)) (H7 : Arv Z Z.heap a2 k6 (.object "java/lang/Object") (0:Int32) [] .null) (H9 : Sta Z Z.heap "java/util/ArrayList" "DEFAULTCAPACITY_EMPTY_ELEMENTDATA" "[Ljava/lang/Object;" (.ref a2)) (H14 : xE1 Z h0 a1) (H17 : n0 ≤ a1) (H20 : xF3 Z h0 a1 (.int (0:Int32))) (H23 : xF0 Z h0 a1 (.int (1:Int32))) :
    MF l y23 cJ38_6 4 (some (.array (.object "java/lang/Object"))) [] (rM 1 1 10 14) Z #[(.ref a1), (.int (1:Int32))] h0 (r23_1Q Z a1 a2 k6 h0 n0) := by
  refine own_in (pq pn10) #[rv a1, iv (1:Int32), un, un] (fun _ => by first | (simp [entryFrame, mkF, argsToLocals, Value.category]; done) | rfl) ?_
  intro p e s m below meth c s₁ Bd hx hby hml hown hnm hZ e0 X0
  have N0 := Fr.nil n0
  obtain ⟨_, X4, e4, st4⟩ := gF X0 hx hZ hown (ow hw 32 rfl) e0 H3 (g := (mkF m 1 #[rv a1, iv (1:Int32), un, un] [(.ref a1)])) rfl rfl (hb hby d23_1)
  obtain ⟨_, Ar5, _, S5, M5, _, _⟩ := id (H7.ext O0.2)
  obtain ⟨_, X8, e8, st8⟩ := gF X4 hx hZ hown (ow hw 32 rfl) e4 H3 (g := (mkF m 11 #[rv a1, iv (1:Int32), iv (0:Int32), un] [(.ref a1)])) rfl rfl (hb hby d23_11)
  obtain ⟨_, X10, e10, st10⟩ := getS2 X8 hx hZ hown (host := "") (Or.inl (ow hw 31 rfl)) Via.refl e8 (H9.ext O0.2) (g := (mkF m 14 #[rv a1, iv (1:Int32), iv (0:Int32), un] [(.ref a2)])) rfl (hb hby d23_14)
  obtain ⟨_, _, _, X11, hQ11, st11⟩ := cS X10 hx hZ hw hown (y := y24) 182 rfl 183 rfl 184 rfl 185 rfl (by decide) (W := 1) (r24_1 hw O0) (by decide) (by decide) e10 (g := (mkF m 49 #[rv a1, iv (1:Int32), iv (0:Int32), un] [(.int (1:Int32)), (.int (10:Int32)), (.ref a1)])) rfl (by rw [hml]; rfl) (argsL := [(.int (10:Int32)), (.int (1:Int32))]) (rest := [(.ref a1)]) (lenOf pd21 rfl) rfl wf (hb hby d23_49) rfl (by decide) (by decide)
  obtain ⟨rfl, N11q, e11⟩ := hQ11
  have N11 := Fr.app N0 N11q
  obtain ⟨_, h12, k12, X12, e12, E12, A12, C12, Ov12, st12⟩ := newRE X11 hx hZ hown (ow hw 186 rfl) (ow hw 187 rfl) e11 (g := (mkF m 52 #[rv a1, iv (1:Int32), iv (0:Int32), un] [(.int (10:Int32)), (.ref a1)])) rfl (hb hby d23_52) rfl (by decide) (cap := 10) (by decide) (by decide) (by decide) (by decide) (ad := "[Ljava/lang/Object;") (by decide)
  obtain ⟨b12, g12⟩ : ∃ z, z = h0.size := ⟨_, rfl⟩
  rw [← g12] at A12 C12 st12
  have Kp_E12 : Keep h0 h12 [a1] := (Keep.refl h0 [a1]).ext E12
  have V12 : Arv Z h12 b12 k12 (.object "java/lang/Object") (10:Int32) [.null, .null, .null, .null, .null, .null, .null, .null, .null, .null] .null := (Arv.new A12 (by decide)).pad (pad_rep [] .null 10)
  have f13 := (H3.ext E12)
  have f15 := (H14.ext E12)
  obtain ⟨_, h16, X16, e16, W16, st16⟩ := pF X12 hx hZ hown (ow hw 32 rfl) e12 f13 f15 (Or.inl (ow hw 33 rfl)) (ow hw 9 rfl) (ty := (.array (.object "java/lang/Object"))) (by decide) rfl rfl (g := (mkF m 56 #[rv a1, iv (1:Int32), iv (0:Int32), un] [(.ref b12), (.ref a1), (.ref b12)])) rfl rfl (hb hby d23_56)
  have Kp_W16 : Keep h0 h16 [a1] := Kp_E12.wr W16 (mI 0 rfl)
  have N18 := Fr.snoc X16 N11 H17
  have f19 := f13.same W16
  have f21 := (f15.wr W16)
  have f22 := ((H20.ext E12).other W16 (Or.inr (slot_ne (Or.inl (ow hw 85 rfl)) (Or.inl (ow hw 33 rfl)) (by decide) (t := .int) (t' := (.array (.object "java/lang/Object"))) (by decide) (by decide))))
  have f24 := ((H23.ext E12).other W16 (Or.inr (slot_ne (Or.inl (ow hw 30 rfl)) (Or.inl (ow hw 33 rfl)) (by decide) (t := .int) (t' := (.array (.object "java/lang/Object"))) (by decide) (by decide))))
  have z25 : h0.size ≤ b12 := Nat.le_trans (Keep.refl h0 [a1]).1 (Nat.le_of_eq g12.symm)
  have ne26 : a1 ≠ b12 := Nat.ne_of_lt (Nat.lt_of_lt_of_le H14.lt (Nat.le_of_eq g12.symm))
  have f27 := (V12.other W16 (Ne.symm ne26))
  have f28 := (C12.wr W16)
  have f29 := Ov12
  refine fin (Q := r23_1Q Z a1 a2 k6 h0 n0) (rm := (rM 1 1 10 14)) Bd X16 e16 (some (.ref b12)) nofun ⟨b12, k12, rfl, N18, Kp_W16, z25, f19, f21, f22, f24, f27, f28, f29⟩ (by decide) (by decide) fun fs hr => ?_
  show St p e below s₁ m 0 #[rv a1, iv (1:Int32), un, un] [] _
  refine aN X0 hx hby d23_0 rfl rfl ?_
  refine st4 _ ?_
  refine X4.arraylength hx (by rw [e4]; exact Ar5.1) (State.isArrayOf_alike hZ.alike Ar5.2.1) (g := (mkF m 4 #[rv a1, iv (1:Int32), un, un] [(.ref a2)])) rfl rfl (hb hby d23_4) _ ?_
  rw [len_of S5 M5]
  refine XS.istoreN X4.here hx rfl (hb hby d23_5) rfl (l' := #[rv a1, iv (1:Int32), iv (0:Int32), un]) rfl ?_
  refine iN X4 hx hby d23_6 rfl ?_
  refine XS.ifNo X4.here hx rfl (hb hby d23_7) rfl ((if0 _ _).trans (flt (by decide : ¬ ((0:Int32) < (0:Int32)))).2.2.1) ?_
  refine aN X4 hx hby d23_10 rfl rfl ?_
  refine st8 _ ?_
  refine st10 _ ?_
  refine Jvm.RoadKit.acmp (g := (mkF m 17 #[rv a1, iv (1:Int32), iv (0:Int32), un] [(.ref a2), (.ref a2)])) X10 hx rfl rfl rfl (pc0 := 17) (pc' := 45) (same := true) rfl (hb hby d23_17) rfl (decide_eq_true rfl) (by decide) (by decide) ?_
  refine aN X10 hx hby d23_45 rfl rfl ?_
  refine XS.bipush X10.here hx rfl (hb hby d23_46) ?_
  refine iN X10 hx hby d23_48 rfl ?_
  refine st11 _ ?_
  refine st12 _ ?_
  refine XS.dupX1 X12.here hx rfl (hb hby d23_55) rfl rfl rfl ?_
  refine st16 _ ?_
  exact retA X16 hx Bd.returns rfl rfl (hb hby d23_59) hr
theorem pd14 : parseMethodDescriptor "(I)[Ljava/lang/Object;" = some ⟨[.int], some (.array (.object "java/lang/Object"))⟩ := by decide +kernel
theorem d22_10 : dk jdk_38_method_7_code 10 .areturn 1 := by decide +kernel
abbrev y22 : MethodName := ⟨"java/util/ArrayList", "grow", "()[Ljava/lang/Object;"⟩
def r22_1Q (Z : State) (a1 a5 : Addr) (k7 : ClassId) (h0 : Heap) (n0 : Nat) : QT := fun v h L => ∃ (b12_0 : Addr) (k12_0 : ClassId), v = some (.ref b12_0) ∧ Fr n0 L ∧ Keep h0 h [a1] ∧ h0.size ≤ b12_0 ∧ xF3 Z h a1 (.int (0:Int32)) ∧ xE1 Z h a1 ∧ xF2 Z h a1 (.ref b12_0) ∧ xF0 Z h a1 (.int (1:Int32)) ∧ Arv Z h b12_0 k12_0 (.object "java/lang/Object") (10:Int32) [.null, .null, .null, .null, .null, .null, .null, .null, .null, .null] .null ∧ xE19 Z h b12_0 ∧ Ovr Z k12_0 "java/lang/Object"
theorem r22_1 (hw : HW a0 Z) (a1 a5 : Addr) (k7 : ClassId) (O0 : Old Z n0 h0) (H2 : xF3 Z h0 a1 (.int (0:Int32))) (H4 : xE1 Z h0 a1) (H6 : xF2 Z h0 a1 (.ref a5)) (H8 : Arv Z Z.heap a5 k7 (.object "java/lang/Object") (0:Int32) [] .null) (H9 : Sta Z Z.heap "java/util/ArrayList" "DEFAULTCAPACITY_EMPTY_ELEMENTDATA" "[Ljava/lang/Object;" (.ref a5)) (H10 : n0 ≤ a1) (H11 : xF0 Z h0 a1 (.int (1:Int32))) :
    MF l y22 jdk_38_method_7_code 1 (some (.array (.object "java/lang/Object"))) [] (rM 2 1 10 29) Z #[(.ref a1)] h0 (r22_1Q Z a1 a5 k7 h0 n0) := by
  refine own_in (pq pn10) #[rv a1] (fun _ => by first | (simp [entryFrame, mkF, argsToLocals, Value.category]; done) | rfl) ?_
  intro p e s m below meth c s₁ Bd hx hby hml hown hnm hZ e0 X0
  have N0 := Fr.nil n0
  obtain ⟨_, X3, e3, st3⟩ := gF X0 hx hZ hown (ow hw 84 rfl) e0 H2 (g := (mkF m 2 #[rv a1] [(.ref a1), (.ref a1)])) rfl rfl (hb hby d22_2)
  obtain ⟨_, q12, q12'⟩ := H4.cell
  obtain ⟨T12, _, _, X12, hQ12, st12⟩ := fl X3 (X3.privateBack hx (y := y23) hown (mo hZ hw 177 rfl) (mo hZ hw 178 rfl) (mo hZ hw 180 rfl) (Cond.privateMethod_at (mvP hZ (ow hw 179 rfl) (args := #[]))) (mo hZ hw 181 rfl) (by decide) (backOf (W := 0) (r23_1 hw a1 a5 k7 O0 H6 H8 H9 H4 H10 H2 H11) hZ (ow hw 181 rfl) (ow hw 10 rfl) (by decide) (by decide)) (g := (mkF m 7 #[rv a1] [(.int (1:Int32)), (.ref a1)])) rfl (by rw [hml]; rfl) (Steps.refl _) (a := a1) (by rw [e3]; exact q12) q12' (argsL := [(.int (1:Int32))]) (rest := []) (lenOf pd14 rfl) rfl wf (hb hby d22_7) (fun _ _ => ⟨rfl, e3, (by decide : 0 + 1 ≤ _), (by decide : 0 + 10 ≤ _)⟩))
  obtain ⟨b12_0, k12_0, rfl, N12q, K12, lo12_1, f12_2, f12_3, f12_4, f12_5, f12_6, f12_7, f12_8⟩ := hQ12
  have N12 := Fr.app N0 N12q
  have Kp_K12 : Keep h0 T12.heap [a1] := (Keep.refl h0 [a1]).trans K12 (allS (mI 0 rfl) all0)
  have z13 : h0.size ≤ b12_0 := Nat.le_trans (Keep.refl h0 [a1]).1 lo12_1
  refine fin (Q := r22_1Q Z a1 a5 k7 h0 n0) (rm := (rM 2 1 10 29)) Bd X12 rfl (some (.ref b12_0)) nofun ⟨b12_0, k12_0, rfl, N12, Kp_K12, z13, f12_4, f12_3, f12_2, f12_5, f12_6, f12_7, f12_8⟩ (by decide) (by decide) fun fs hr => ?_
  show St p e below s₁ m 0 #[rv a1] [] _
  refine aN X0 hx hby d22_0 rfl rfl ?_
  refine aN X0 hx hby d22_1 rfl rfl ?_
  refine st3 _ ?_
  refine iC X3 hx hby d22_5 ?_
  refine XS.iadd X3.here hx rfl (hb hby d22_6) rfl ?_
  refine st12.trans ?_
  exact retA X12 hx Bd.returns rfl rfl (hb hby d22_10) hr
theorem pd15 : parseMethodDescriptor "()[Ljava/lang/Object;" = some ⟨[], some (.array (.object "java/lang/Object"))⟩ := by decide +kernel
theorem d21_10 : dk cJ38_24 10 (.astore_n 2) 1 := by decide +kernel
theorem d21_11 : dk cJ38_24 11 (.aload_n 2) 1 := by decide +kernel
theorem d21_12 : dk cJ38_24 12 (.iload_n 3) 1 := by decide +kernel
theorem d21_13 : dk cJ38_24 13 (.aload_n 1) 1 := by decide +kernel
theorem d21_14 : dk cJ38_24 14 .aastore 1 := by decide +kernel
theorem d21_15 : dk cJ38_24 15 (.aload_n 0) 1 := by decide +kernel
theorem d21_16 : dk cJ38_24 16 (.iload_n 3) 1 := by decide +kernel
theorem d21_17 : dk cJ38_24 17 (.iconst 1) 1 := by decide +kernel
theorem d21_18 : dk cJ38_24 18 .iadd 1 := by decide +kernel
theorem d21_19 : dk cJ38_24 19 (.putfield 48) 3 := by decide +kernel
theorem d21_22 : dk cJ38_24 22 .return_ 1 := by decide +kernel
abbrev y21 : MethodName := ⟨"java/util/ArrayList", "add", "(Ljava/lang/Object;[Ljava/lang/Object;I)V"⟩
def r21_1Q (Z : State) (a1 a2 a3 : Addr) (k5 : ClassId) (h0 : Heap) (n0 : Nat) : QT := fun v h L => ∃ (b13_0 : Addr) (k13_0 : ClassId), v = none ∧ Fr n0 L ∧ Keep h0 h [a1] ∧ h0.size ≤ b13_0 ∧ xE1 Z h a1 ∧ xF3 Z h a1 (.int (1:Int32)) ∧ xF2 Z h a1 (.ref b13_0) ∧ xF0 Z h a1 (.int (1:Int32)) ∧ Arv Z h b13_0 k13_0 (.object "java/lang/Object") (10:Int32) [(.ref a2), .null, .null, .null, .null, .null, .null, .null, .null, .null] .null ∧ xE19 Z h b13_0 ∧ Ovr Z k13_0 "java/lang/Object"
theorem r21_1 (hw : HW a0 Z) (a1 a2 a3 : Addr) (k5 : ClassId) (O0 : Old Z n0 h0) (H6 : Arv Z Z.heap a3 k5 (.object "java/lang/Object") (0:Int32) [] .null) (H7 : xE1 Z h0 a1) (H8 : xF3 Z h0 a1 (.int (0:Int32))) (H9 : xF2 Z h0 a1 (.ref a3)) (H10 : Sta Z Z.heap "java/util/ArrayList" "DEFAULTCAPACITY_EMPTY_ELEMENTDATA" "[Ljava/lang/Object;" (.ref a3)) (H11 : n0 ≤ a1) (H12 : xF0 Z h0 a1 (.int (1:Int32))) (H15 : xE5 Z h0 a2) :
    MF l y21 cJ38_24 4 none [] (rM 3 1 10 41) Z #[(.ref a1), (.ref a2), (.ref a3), (.int (0:Int32))] h0 (r21_1Q Z a1 a2 a3 k5 h0 n0) := by
  refine own_in (pq pn10) #[rv a1, rv a2, rv a3, iv (0:Int32)] (fun _ => by first | (simp [entryFrame, mkF, argsToLocals, Value.category]; done) | rfl) ?_
  intro p e s m below meth c s₁ Bd hx hby hml hown hnm hZ e0 X0
  have N0 := Fr.nil n0
  obtain ⟨_, Ar4, _, S4, M4, _, _⟩ := id (H6.ext O0.2)
  obtain ⟨_, q13, q13'⟩ := H7.cell
  obtain ⟨T13, _, _, X13, hQ13, st13⟩ := fl X0 (X0.privateBack hx (y := y22) hown (mo hZ hw 172 rfl) (mo hZ hw 173 rfl) (mo hZ hw 175 rfl) (Cond.privateMethod_at (mvP hZ (ow hw 174 rfl) (args := #[]))) (mo hZ hw 176 rfl) (by decide) (backOf (W := 0) (r22_1 hw a1 a3 k5 O0 H8 H7 H9 H6 H10 H11 H12) hZ (ow hw 176 rfl) (ow hw 10 rfl) (by decide) (by decide)) (g := (mkF m 7 #[rv a1, rv a2, rv a3, iv (0:Int32)] [(.ref a1)])) rfl (by rw [hml]; rfl) (Steps.refl _) (a := a1) (by rw [e0]; exact q13) q13' (argsL := []) (rest := []) (lenOf pd15 rfl) rfl wf (hb hby d21_7) (fun _ _ => ⟨rfl, e0, (by decide : 0 + 1 ≤ _), (by decide : 0 + 10 ≤ _)⟩))
  obtain ⟨b13_0, k13_0, rfl, N13q, K13, lo13_1, f13_2, f13_3, f13_4, f13_5, f13_6, f13_7, f13_8⟩ := hQ13
  have N13 := Fr.app N0 N13q
  have Kp_K13 : Keep h0 T13.heap [a1] := (Keep.refl h0 [a1]).trans K13 (allS (mI 0 rfl) all0)
  obtain ⟨cl14, Ar14, q14, S14, M14, H14, G14⟩ := id f13_6
  have hin14 : ¬ ((0:Int32) < 0 ∨ cl14.slots.size ≤ ((0:Int32)).toNatClampNeg) := inb_of S14 ⟨by decide, by decide⟩
  have f16 := (H15.keep K13)
  obtain ⟨_, h14, X14, e14, W14, st14⟩ := stR X13 hx hZ rfl Ar14 (j := (0:Int32)) hin14 rfl (Sto.ofV Ar14 q14 f13_8 (Ins.of_exa f16 (ow hw 188 rfl))) (g := (mkF m 14 #[rv a1, rv a2, rv b13_0, iv (0:Int32)] [(.ref a2), (.int (0:Int32)), (.ref b13_0)])) rfl rfl (hb hby d21_14)
  have g18 : n0 ≤ b13_0 := Nat.le_trans (Nat.le_trans (Nat.le_of_eq O0.1.symm) O0.2.1) lo13_1
  have z19 : h0.size ≤ b13_0 := Nat.le_trans (Keep.refl h0 [a1]).1 lo13_1
  have Kp_W14 : Keep h0 h14 [a1] := Kp_K13.wr W14 (Or.inr z19)
  have N20 := Fr.snoc X14 N13 g18
  have f17 : Arv Z h14 b13_0 k13_0 (.object "java/lang/Object") (10:Int32) [(.ref a2), .null, .null, .null, .null, .null, .null, .null, .null, .null] .null := Arv.set Ar14 q14 S14 M14 H14 G14 rfl W14 0 rfl (Nat.le_of_ble_eq_true rfl)
  have ne21 : a1 ≠ b13_0 := Nat.ne_of_lt (Nat.lt_of_lt_of_le H7.lt lo13_1)
  have f22 := (f13_2.other W14 (Or.inl ne21))
  have f23 := (f13_3.wr W14)
  obtain ⟨_, h24, X24, e24, W24, st24⟩ := pF X14 hx hZ hown (ow hw 84 rfl) e14 f22 f23 (Or.inl (ow hw 85 rfl)) (ow hw 9 rfl) (ty := .int) (by decide) rfl rfl (g := (mkF m 19 #[rv a1, rv a2, rv b13_0, iv (0:Int32)] [(.int (1:Int32)), (.ref a1)])) rfl rfl (hb hby d21_19)
  have Kp_W24 : Keep h0 h24 [a1] := Kp_W14.wr W24 (mI 0 rfl)
  have N25 := Fr.snoc X24 N20 H11
  have f26 := f22.same W24
  have f27 := (f23.wr W24)
  have f28 := ((f13_4.other W14 (Or.inl ne21)).other W24 (Or.inr (slot_ne (Or.inl (ow hw 33 rfl)) (Or.inl (ow hw 85 rfl)) (by decide) (t := (.array (.object "java/lang/Object"))) (t' := .int) (by decide) (by decide))))
  have f29 := ((f13_5.other W14 (Or.inl ne21)).other W24 (Or.inr (sn38 hw)))
  have f30 := (f17.other W24 (Ne.symm ne21))
  have f31 := ((f13_7.wr W14).wr W24)
  have f32 := f13_8
  refine fin (Q := r21_1Q Z a1 a2 a3 k5 h0 n0) (rm := (rM 3 1 10 41)) Bd X24 e24 (none) (fun _ => rfl) ⟨b13_0, k13_0, rfl, N25, Kp_W24, z19, f27, f26, f28, f29, f30, f31, f32⟩ (by decide) (by decide) fun fs hr => ?_
  show St p e below s₁ m 0 #[rv a1, rv a2, rv a3, iv (0:Int32)] [] _
  refine iN X0 hx hby d21_0 rfl ?_
  refine aN X0 hx hby d21_1 rfl rfl ?_
  refine X0.arraylength hx (by rw [e0]; exact Ar4.1) (State.isArrayOf_alike hZ.alike Ar4.2.1) (g := (mkF m 2 #[rv a1, rv a2, rv a3, iv (0:Int32)] [(.ref a3), (.int (0:Int32))])) rfl rfl (hb hby d21_2) _ ?_
  rw [len_of S4 M4]
  refine XS.icmpNo X0.here hx rfl (hb hby d21_3) rfl (teq (rfl : (0:Int32) = (0:Int32))).2 ?_
  refine aN X0 hx hby d21_6 rfl rfl ?_
  refine st13.trans ?_
  refine XS.astoreN X13.here hx rfl (hb hby d21_10) rfl rfl (l' := #[rv a1, rv a2, rv b13_0, iv (0:Int32)]) rfl ?_
  refine aN X13 hx hby d21_11 rfl rfl ?_
  refine iN X13 hx hby d21_12 rfl ?_
  refine aN X13 hx hby d21_13 rfl rfl ?_
  refine st14 _ ?_
  refine aN X14 hx hby d21_15 rfl rfl ?_
  refine iN X14 hx hby d21_16 rfl ?_
  refine iC X14 hx hby d21_17 ?_
  refine XS.iadd X14.here hx rfl (hb hby d21_18) rfl ?_
  refine st24 _ ?_
  exact X24.returnOut hx Bd.returns (hb hby d21_22) hr
theorem pd3 : parseMethodDescriptor "(Ljava/lang/Object;[Ljava/lang/Object;I)V" = some ⟨[(.object "java/lang/Object"), (.array (.object "java/lang/Object")), .int], none⟩ := by decide +kernel
theorem d20_23 : dk cJ38_25 23 (.iconst 1) 1 := by decide +kernel
theorem d20_24 : dk cJ38_25 24 .ireturn 1 := by decide +kernel
abbrev y20 : MethodName := ⟨"java/util/ArrayList", "add", "(Ljava/lang/Object;)Z"⟩
def r20_1Q (Z : State) (a1 a2 a10 : Addr) (k18 : ClassId) (h0 : Heap) (n0 : Nat) : QT := fun v h L => ∃ (b23_0 : Addr) (k23_0 : ClassId), v = some (.int (1:Int32)) ∧ Fr n0 L ∧ Keep h0 h [a1] ∧ h0.size ≤ b23_0 ∧ xF0 Z h a1 (.int (1:Int32)) ∧ xE1 Z h a1 ∧ xF2 Z h a1 (.ref b23_0) ∧ xF3 Z h a1 (.int (1:Int32)) ∧ Arv Z h b23_0 k23_0 (.object "java/lang/Object") (10:Int32) [(.ref a2), .null, .null, .null, .null, .null, .null, .null, .null, .null] .null ∧ xE19 Z h b23_0 ∧ Ovr Z k23_0 "java/lang/Object"
theorem r20_1 (hw : HW a0 Z) (a1 a2 a10 : Addr) (k18 : ClassId) (O0 : Old Z n0 h0) (H3 : xF0 Z h0 a1 (.int (0:Int32))) (H5 : xE1 Z h0 a1) (H7 : n0 ≤ a1) (H11 : xF2 Z h0 a1 (.ref a10)) (H15 : xF3 Z h0 a1 (.int (0:Int32))) (H19 : Arv Z Z.heap a10 k18 (.object "java/lang/Object") (0:Int32) [] .null) (H20 : Sta Z Z.heap "java/util/ArrayList" "DEFAULTCAPACITY_EMPTY_ELEMENTDATA" "[Ljava/lang/Object;" (.ref a10)) (H21 : xE5 Z h0 a2) :
    MF l y20 cJ38_25 2 (some .boolean) [] (rM 4 1 10 56) Z #[(.ref a1), (.ref a2)] h0 (r20_1Q Z a1 a2 a10 k18 h0 n0) := by
  refine own_in (pq pn10) #[rv a1, rv a2] (fun _ => by first | (simp [entryFrame, mkF, argsToLocals, Value.category]; done) | rfl) ?_
  intro p e s m below meth c s₁ Bd hx hby hml hown hnm hZ e0 X0
  have N0 := Fr.nil n0
  obtain ⟨_, X4, e4, st4⟩ := getF X0 hx hZ hown (host := "") (Or.inl (ow hw 166 rfl)) (Via.of (ow hw 114 rfl)) e0 H3 (g := (mkF m 2 #[rv a1, rv a2] [(.ref a1), (.ref a1)])) rfl rfl (hb hby d20_2)
  obtain ⟨_, h6, X6, e6, W6, st6⟩ := putF X4 hx hZ hown (host := "") (Or.inl (ow hw 166 rfl)) (Via.of (ow hw 114 rfl)) e4 H3 H5 (Or.inl (ow hw 30 rfl)) (ow hw 9 rfl) (ty := .int) (by decide) rfl rfl (g := (mkF m 7 #[rv a1, rv a2] [(.int (1:Int32)), (.ref a1)])) rfl rfl (hb hby d20_7)
  have O_W6 : Old Z n0 h6 := O0.wr W6 H7
  have Kp_W6 : Keep h0 h6 [a1] := (Keep.refl h0 [a1]).wr W6 (mI 0 rfl)
  have N8 := Fr.snoc X6 N0 H7
  have f9 := H3.same W6
  have f12 := (H5.wr W6)
  have f13 := (H11.other W6 (Or.inr (slot_ne (Or.inl (ow hw 33 rfl)) (Or.inl (ow hw 30 rfl)) (by decide) (t := (.array (.object "java/lang/Object"))) (t' := .int) (by decide) (by decide))))
  obtain ⟨_, X14, e14, st14⟩ := gF X6 hx hZ hown (ow hw 32 rfl) e6 f13 (g := (mkF m 13 #[rv a1, rv a2] [(.ref a1), (.ref a2), (.ref a1)])) rfl rfl (hb hby d20_13)
  have f16 := (H15.other W6 (Or.inr (sn1 hw)))
  obtain ⟨_, X17, e17, st17⟩ := gF X14 hx hZ hown (ow hw 84 rfl) e14 f16 (g := (mkF m 17 #[rv a1, rv a2] [(.ref a1), (.ref a10), (.ref a2), (.ref a1)])) rfl rfl (hb hby d20_17)
  have f22 := (H21.wr W6)
  obtain ⟨_, q23, q23'⟩ := f12.cell
  obtain ⟨T23, _, _, X23, hQ23, st23⟩ := fl X17 (X17.privateBack hx (y := y21) hown (mo hZ hw 167 rfl) (mo hZ hw 168 rfl) (mo hZ hw 170 rfl) (Cond.privateMethod_at (mvP hZ (ow hw 169 rfl) (args := #[]))) (mo hZ hw 171 rfl) (by decide) (backOf (W := 0) (r21_1 hw a1 a2 a10 k18 O_W6 H19 f12 f16 f13 H20 H7 f9 f22) hZ (ow hw 171 rfl) (ow hw 10 rfl) (by decide) (by decide)) (g := (mkF m 20 #[rv a1, rv a2] [(.int (0:Int32)), (.ref a10), (.ref a2), (.ref a1)])) rfl (by rw [hml]; rfl) (Steps.refl _) (a := a1) (by rw [e17]; exact q23) q23' (argsL := [(.ref a2), (.ref a10), (.int (0:Int32))]) (rest := []) (lenOf pd3 rfl) rfl wf (hb hby d20_20) (fun _ _ => ⟨rfl, e17, (by decide : 0 + 1 ≤ _), (by decide : 0 + 10 ≤ _)⟩))
  obtain ⟨b23_0, k23_0, rfl, N23q, K23, lo23_1, f23_2, f23_3, f23_4, f23_5, f23_6, f23_7, f23_8⟩ := hQ23
  have N23 := Fr.app N8 N23q
  have Kp_K23 : Keep h0 T23.heap [a1] := Kp_W6.trans K23 (allS (mI 0 rfl) all0)
  have z24 : h0.size ≤ b23_0 := Nat.le_trans Kp_W6.1 lo23_1
  refine fin (Q := r20_1Q Z a1 a2 a10 k18 h0 n0) (rm := (rM 4 1 10 56)) Bd X23 rfl (some (.int (1:Int32))) nofun ⟨b23_0, k23_0, rfl, N23, Kp_K23, z24, f23_5, f23_2, f23_4, f23_3, f23_6, f23_7, f23_8⟩ (by decide) (by decide) fun fs hr => ?_
  show St p e below s₁ m 0 #[rv a1, rv a2] [] _
  refine aN X0 hx hby d20_0 rfl rfl ?_
  refine XS.dup X0.here hx rfl (hb hby d20_1) rfl rfl ?_
  refine st4 _ ?_
  refine iC X4 hx hby d20_5 ?_
  refine XS.iadd X4.here hx rfl (hb hby d20_6) rfl ?_
  refine st6 _ ?_
  refine aN X6 hx hby d20_10 rfl rfl ?_
  refine aN X6 hx hby d20_11 rfl rfl ?_
  refine aN X6 hx hby d20_12 rfl rfl ?_
  refine st14 _ ?_
  refine aN X14 hx hby d20_16 rfl rfl ?_
  refine st17 _ ?_
  refine st23.trans ?_
  refine iC X23 hx hby d20_23 ?_
  exact retN X23 hx (t := .boolean) Bd.returns (by simp) (hb hby d20_24) hr
theorem pd16 : parseMethodDescriptor "(Ljava/lang/Object;)Z" = some ⟨[(.object "java/lang/Object")], some .boolean⟩ := by decide +kernel
def r21_2Q (Z : State) (a1 a2 a3 : Addr) (k5 : ClassId) (a6 : Addr) (h0 : Heap) (n0 : Nat) : QT := fun v h L => v = none ∧ Fr n0 L ∧ Keep h0 h [a3, a1] ∧ Arv Z h a3 k5 (.object "java/lang/Object") (10:Int32) [(.ref a6), (.ref a2), .null, .null, .null, .null, .null, .null, .null, .null] .null ∧ Ovr Z k5 "java/lang/Object" ∧ xE19 Z h a3 ∧ xF3 Z h a1 (.int (2:Int32)) ∧ xE1 Z h a1 ∧ xF0 Z h a1 (.int (2:Int32)) ∧ xF2 Z h a1 (.ref a3)
theorem r21_2 (hw : HW a0 Z) (a1 a2 a3 : Addr) (k5 : ClassId) (a6 : Addr) (O0 : Old Z n0 h0) (H7 : Arv Z h0 a3 k5 (.object "java/lang/Object") (10:Int32) [(.ref a6), .null, .null, .null, .null, .null, .null, .null, .null, .null] .null) (H9 : Ovr Z k5 "java/lang/Object") (H10 : xE5 Z h0 a2) (H12 : n0 ≤ a3) (H14 : xF3 Z h0 a1 (.int (1:Int32))) (H15 : a1 ≠ a3) (H17 : xE1 Z h0 a1) (H20 : n0 ≤ a1) (H23 : xE19 Z h0 a3) (H25 : xF0 Z h0 a1 (.int (2:Int32))) (H28 : xF2 Z h0 a1 (.ref a3)) :
    MF l y21 cJ38_24 4 none [] (rM 0 0 0 0) Z #[(.ref a1), (.ref a2), (.ref a3), (.int (1:Int32))] h0 (r21_2Q Z a1 a2 a3 k5 a6 h0 n0) := by
  refine own_in (pq pn10) #[rv a1, rv a2, rv a3, iv (1:Int32)] (fun _ => by first | (simp [entryFrame, mkF, argsToLocals, Value.category]; done) | rfl) ?_
  intro p e s m below meth c s₁ Bd hx hby hml hown hnm hZ e0 X0
  have N0 := Fr.nil n0
  obtain ⟨_, Ar4, _, S4, M4, _, _⟩ := id H7
  obtain ⟨cl8, Ar8, q8, S8, M8, H8, G8⟩ := id H7
  have hin8 : ¬ ((1:Int32) < 0 ∨ cl8.slots.size ≤ ((1:Int32)).toNatClampNeg) := inb_of S8 ⟨by decide, by decide⟩
  obtain ⟨_, h8, X8, e8, W8, st8⟩ := stR X0 hx hZ e0 Ar8 (j := (1:Int32)) hin8 rfl (Sto.ofV Ar8 q8 H9 (Ins.of_exa H10 (ow hw 188 rfl))) (g := (mkF m 14 #[rv a1, rv a2, rv a3, iv (1:Int32)] [(.ref a2), (.int (1:Int32)), (.ref a3)])) rfl rfl (hb hby d21_14)
  have Kp_W8 : Keep h0 h8 [a3, a1] := (Keep.refl h0 [a3, a1]).wr W8 (mI 0 rfl)
  have N13 := Fr.snoc X8 N0 H12
  have f11 : Arv Z h8 a3 k5 (.object "java/lang/Object") (10:Int32) [(.ref a6), (.ref a2), .null, .null, .null, .null, .null, .null, .null, .null] .null := Arv.set Ar8 q8 S8 M8 H8 G8 rfl W8 1 rfl (Nat.le_of_ble_eq_true rfl)
  have f16 := (H14.other W8 (Or.inl H15))
  have f18 := (H17.wr W8)
  obtain ⟨_, h19, X19, e19, W19, st19⟩ := pF X8 hx hZ hown (ow hw 84 rfl) e8 f16 f18 (Or.inl (ow hw 85 rfl)) (ow hw 9 rfl) (ty := .int) (by decide) rfl rfl (g := (mkF m 19 #[rv a1, rv a2, rv a3, iv (1:Int32)] [(.int (2:Int32)), (.ref a1)])) rfl rfl (hb hby d21_19)
  have Kp_W19 : Keep h0 h19 [a3, a1] := Kp_W8.wr W19 (mI 1 rfl)
  have N21 := Fr.snoc X19 N13 H20
  have f22 := f16.same W19
  have f24 := ((H23.wr W8).wr W19)
  have f26 := (f18.wr W19)
  have f27 := ((H25.other W8 (Or.inl H15)).other W19 (Or.inr (sn38 hw)))
  have f29 := ((H28.other W8 (Or.inl H15)).other W19 (Or.inr (slot_ne (Or.inl (ow hw 33 rfl)) (Or.inl (ow hw 85 rfl)) (by decide) (t := (.array (.object "java/lang/Object"))) (t' := .int) (by decide) (by decide))))
  have f30 := (f11.other W19 (Ne.symm H15))
  have f31 := H9
  refine fin (Q := r21_2Q Z a1 a2 a3 k5 a6 h0 n0) (rm := (rM 0 0 0 0)) Bd X19 e19 (none) (fun _ => rfl) ⟨rfl, N21, Kp_W19, f30, f31, f24, f22, f26, f27, f29⟩ (by decide) (by decide) fun fs hr => ?_
  show St p e below s₁ m 0 #[rv a1, rv a2, rv a3, iv (1:Int32)] [] _
  refine iN X0 hx hby d21_0 rfl ?_
  refine aN X0 hx hby d21_1 rfl rfl ?_
  refine X0.arraylength hx (by rw [e0]; exact Ar4.1) (State.isArrayOf_alike hZ.alike Ar4.2.1) (g := (mkF m 2 #[rv a1, rv a2, rv a3, iv (1:Int32)] [(.ref a3), (.int (1:Int32))])) rfl rfl (hb hby d21_2) _ ?_
  rw [len_of S4 M4]
  refine XS.icmpYes X0.here hx rfl (pc0 := 3) (pc' := 11) rfl (hb hby d21_3) rfl (feq (by decide : ¬ ((1:Int32) = (10:Int32)))).2 (by decide) (by decide) ?_
  refine aN X0 hx hby d21_11 rfl rfl ?_
  refine iN X0 hx hby d21_12 rfl ?_
  refine aN X0 hx hby d21_13 rfl rfl ?_
  refine st8 _ ?_
  refine aN X8 hx hby d21_15 rfl rfl ?_
  refine iN X8 hx hby d21_16 rfl ?_
  refine iC X8 hx hby d21_17 ?_
  refine XS.iadd X8.here hx rfl (hb hby d21_18) rfl ?_
  refine st19 _ ?_
  exact X19.returnOut hx Bd.returns (hb hby d21_22) hr
def r20_2Q (Z : State) (a1 a2 a10 : Addr) (k18 : ClassId) (a19 : Addr) (h0 : Heap) (n0 : Nat) : QT := fun v h L => v = some (.int (1:Int32)) ∧ Fr n0 L ∧ Keep h0 h [a1, a10] ∧ xF0 Z h a1 (.int (2:Int32)) ∧ xE1 Z h a1 ∧ xF2 Z h a1 (.ref a10) ∧ xF3 Z h a1 (.int (2:Int32)) ∧ Arv Z h a10 k18 (.object "java/lang/Object") (10:Int32) [(.ref a19), (.ref a2), .null, .null, .null, .null, .null, .null, .null, .null] .null ∧ Ovr Z k18 "java/lang/Object" ∧ xE19 Z h a10
theorem r20_2 (hw : HW a0 Z) (a1 a2 a10 : Addr) (k18 : ClassId) (a19 : Addr) (O0 : Old Z n0 h0) (H3 : xF0 Z h0 a1 (.int (1:Int32))) (H5 : xE1 Z h0 a1) (H7 : n0 ≤ a1) (H11 : xF2 Z h0 a1 (.ref a10)) (H15 : xF3 Z h0 a1 (.int (1:Int32))) (H20 : Arv Z h0 a10 k18 (.object "java/lang/Object") (10:Int32) [(.ref a19), .null, .null, .null, .null, .null, .null, .null, .null, .null] .null) (H21 : a10 ≠ a1) (H23 : Ovr Z k18 "java/lang/Object") (H25 : xE5 Z h0 a2) (H27 : n0 ≤ a10) (H28 : xE19 Z h0 a10) :
    MF l y20 cJ38_25 2 (some .boolean) [] (rM 1 0 0 15) Z #[(.ref a1), (.ref a2)] h0 (r20_2Q Z a1 a2 a10 k18 a19 h0 n0) := by
  refine own_in (pq pn10) #[rv a1, rv a2] (fun _ => by first | (simp [entryFrame, mkF, argsToLocals, Value.category]; done) | rfl) ?_
  intro p e s m below meth c s₁ Bd hx hby hml hown hnm hZ e0 X0
  have N0 := Fr.nil n0
  obtain ⟨_, X4, e4, st4⟩ := getF X0 hx hZ hown (host := "") (Or.inl (ow hw 166 rfl)) (Via.of (ow hw 114 rfl)) e0 H3 (g := (mkF m 2 #[rv a1, rv a2] [(.ref a1), (.ref a1)])) rfl rfl (hb hby d20_2)
  obtain ⟨_, h6, X6, e6, W6, st6⟩ := putF X4 hx hZ hown (host := "") (Or.inl (ow hw 166 rfl)) (Via.of (ow hw 114 rfl)) e4 H3 H5 (Or.inl (ow hw 30 rfl)) (ow hw 9 rfl) (ty := .int) (by decide) rfl rfl (g := (mkF m 7 #[rv a1, rv a2] [(.int (2:Int32)), (.ref a1)])) rfl rfl (hb hby d20_7)
  have O_W6 : Old Z n0 h6 := O0.wr W6 H7
  have Kp_W6 : Keep h0 h6 [a1, a10] := (Keep.refl h0 [a1, a10]).wr W6 (mI 0 rfl)
  have N8 := Fr.snoc X6 N0 H7
  have f9 := H3.same W6
  have f12 := (H5.wr W6)
  have f13 := (H11.other W6 (Or.inr (slot_ne (Or.inl (ow hw 33 rfl)) (Or.inl (ow hw 30 rfl)) (by decide) (t := (.array (.object "java/lang/Object"))) (t' := .int) (by decide) (by decide))))
  obtain ⟨_, X14, e14, st14⟩ := gF X6 hx hZ hown (ow hw 32 rfl) e6 f13 (g := (mkF m 13 #[rv a1, rv a2] [(.ref a1), (.ref a2), (.ref a1)])) rfl rfl (hb hby d20_13)
  have f16 := (H15.other W6 (Or.inr (sn1 hw)))
  obtain ⟨_, X17, e17, st17⟩ := gF X14 hx hZ hown (ow hw 84 rfl) e14 f16 (g := (mkF m 17 #[rv a1, rv a2] [(.ref a1), (.ref a10), (.ref a2), (.ref a1)])) rfl rfl (hb hby d20_17)
  have f22 := (H20.other W6 H21)
  have f24 := H23
  have f26 := (H25.wr W6)
  have f29 := (H28.wr W6)
  obtain ⟨_, q30, q30'⟩ := f12.cell
  obtain ⟨T30, _, _, X30, hQ30, st30⟩ := fl X17 (X17.privateBack hx (y := y21) hown (mo hZ hw 167 rfl) (mo hZ hw 168 rfl) (mo hZ hw 170 rfl) (Cond.privateMethod_at (mvP hZ (ow hw 169 rfl) (args := #[]))) (mo hZ hw 171 rfl) (by decide) (backOf (W := 0) (r21_2 hw a1 a2 a10 k18 a19 O_W6 f22 f24 f26 H27 f16 (Ne.symm H21) f12 H7 f29 f9 f13) hZ (ow hw 171 rfl) (ow hw 10 rfl) (by decide) (by decide)) (g := (mkF m 20 #[rv a1, rv a2] [(.int (1:Int32)), (.ref a10), (.ref a2), (.ref a1)])) rfl (by rw [hml]; rfl) (Steps.refl _) (a := a1) (by rw [e17]; exact q30) q30' (argsL := [(.ref a2), (.ref a10), (.int (1:Int32))]) (rest := []) (lenOf pd3 rfl) rfl wf (hb hby d20_20) (fun _ _ => ⟨rfl, e17, (by decide : 0 + 0 ≤ _), (by decide : 0 + 0 ≤ _)⟩))
  obtain ⟨rfl, N30q, K30, f30_1, f30_2, f30_3, f30_4, f30_5, f30_6, f30_7⟩ := hQ30
  have N30 := Fr.app N8 N30q
  have Kp_K30 : Keep h0 T30.heap [a1, a10] := Kp_W6.trans K30 (allS (mI 1 rfl) (allS (mI 0 rfl) all0))
  refine fin (Q := r20_2Q Z a1 a2 a10 k18 a19 h0 n0) (rm := (rM 1 0 0 15)) Bd X30 rfl (some (.int (1:Int32))) nofun ⟨rfl, N30, Kp_K30, f30_6, f30_5, f30_7, f30_4, f30_1, f30_2, f30_3⟩ (by decide) (by decide) fun fs hr => ?_
  show St p e below s₁ m 0 #[rv a1, rv a2] [] _
  refine aN X0 hx hby d20_0 rfl rfl ?_
  refine XS.dup X0.here hx rfl (hb hby d20_1) rfl rfl ?_
  refine st4 _ ?_
  refine iC X4 hx hby d20_5 ?_
  refine XS.iadd X4.here hx rfl (hb hby d20_6) rfl ?_
  refine st6 _ ?_
  refine aN X6 hx hby d20_10 rfl rfl ?_
  refine aN X6 hx hby d20_11 rfl rfl ?_
  refine aN X6 hx hby d20_12 rfl rfl ?_
  refine st14 _ ?_
  refine aN X14 hx hby d20_16 rfl rfl ?_
  refine st17 _ ?_
  refine st30.trans ?_
  refine iC X30 hx hby d20_23 ?_
  exact retN X30 hx (t := .boolean) Bd.returns (by simp) (hb hby d20_24) hr
theorem g1_15 (p1 p2 p3 p4:Int32) (a5 : Addr) (p6 p7:Int32) (a8 a9 a10 a11 a12 : Addr) (p13:Int32) (a19 : Addr) (k22 : ClassId)
    (H0 : SG p l e R s m args below meth c T0 locs cells slots Z a0 h0 n0 1 10 5 69) (hc14 : ¬ (p6 = (0:Int32))) (pin15 : (p2 &&& (1:Int32)) = (0:Int32)) (H16 : xE1 Z h0 a12) (H17 : xF0 Z h0 a12 (.int (0:Int32))) (H18 : n0 ≤ a12) (H20 : xF2 Z h0 a12 (.ref a19)) (H21 : xF3 Z h0 a12 (.int (0:Int32))) (H23 : Arv Z Z.heap a19 k22 (.object "java/lang/Object") (0:Int32) [] .null) (H24 : Sta Z Z.heap "java/util/ArrayList" "DEFAULTCAPACITY_EMPTY_ELEMENTDATA" "[Ljava/lang/Object;" (.ref a19)) (H25 : xE5 Z h0 a9) (H28 : xE5 Z h0 a10) :
    ∃ (T' : State) (h' : Heap) (L' : List Loc) (b26_0 : Addr) (k26_0 : ClassId), Stand p l e R s m args below meth c T' L' (cells + 1) (slots + 10) ∧ T'.heap = h' ∧ Fr n0 L' ∧ Keep h0 h' [a12] ∧ h0.size ≤ b26_0 ∧ xE1 Z h' a12 ∧ xF0 Z h' a12 (.int (2:Int32)) ∧ xF2 Z h' a12 (.ref b26_0) ∧ xF3 Z h' a12 (.int (2:Int32)) ∧ Arv Z h' b26_0 k26_0 (.object "java/lang/Object") (10:Int32) [(.ref a9), (.ref a10), .null, .null, .null, .null, .null, .null, .null, .null] .null ∧ xE19 Z h' b26_0 ∧ Ovr Z k26_0 "java/lang/Object" ∧
      ∀ target, St p e below T' m 180 #[iv p1, iv p2, iv p3, iv p4, rv a5, iv p6, iv p7, rv a8, rv a9, rv a10, rv a11, rv a12, iv (2:Int32), un, un, un, un, un, un] [] target → St p e below T0 m 122 #[iv p1, iv p2, iv p3, iv p4, rv a5, iv p6, iv p7, rv a8, rv a9, rv a10, rv a11, rv a12, iv p13, un, un, un, un, un, un] [] target := by
  obtain ⟨X0, hx, hZ, hw, hby, hml, hown, e0, O0, N0, rc, rs, rf, rl⟩ := H0
  obtain ⟨T26, _, _, X26, hQ26, st26⟩ := cV X0 hx hZ hw hown (y := y20) 161 rfl 162 rfl 164 rfl 163 rfl 165 rfl 10 rfl (by decide) (W := 0) (r20_1 hw a12 a9 a19 k22 O0 H17 H16 H18 H20 H21 H23 H24 H25) (by show 4 + 1 ≤ R.frames; omega) (by show 0 + (2 + 11) + 56 ≤ R.locals; omega) H16 e0 (g := (mkF m 138 #[iv p1, iv p2, iv p3, iv p4, rv a5, iv p6, iv p7, rv a8, rv a9, rv a10, rv a11, rv a12, iv (2:Int32), un, un, un, un, un, un] [(.ref a9), (.ref a12)])) rfl (by rw [hml]; rfl) (argsL := [(.ref a9)]) (rest := []) (lenOf pd16 rfl) rfl wf (hb hby at_138) rfl (by show cells + 0 + 1 ≤ R.cells; omega) (by show slots + 0 + 10 ≤ R.slots; omega)
  obtain ⟨b26_0, k26_0, rfl, N26q, K26, lo26_1, f26_2, f26_3, f26_4, f26_5, f26_6, f26_7, f26_8⟩ := hQ26
  have N26 := Fr.app N0 N26q
  have O_K26 : Old Z n0 T26.heap := O0.keep K26 (allS H18 all0)
  have Kp_K26 : Keep h0 T26.heap [a12] := (Keep.refl h0 [a12]).trans K26 (allS (mI 0 rfl) all0)
  replace X26 : Stand p l e R _ m args below meth c T26 _ (cells + 1) (slots + 10) := X26
  have ne27 : a12 ≠ b26_0 := Nat.ne_of_lt (Nat.lt_of_lt_of_le H16.lt lo26_1)
  have f29 := (H28.keep K26)
  have g30 : n0 ≤ b26_0 := Nat.le_trans (Nat.le_trans (Nat.le_of_eq O0.1.symm) O0.2.1) lo26_1
  obtain ⟨T31, _, _, X31, hQ31, st31⟩ := cV X26 hx hZ hw hown (y := y20) 161 rfl 162 rfl 164 rfl 163 rfl 165 rfl 10 rfl (by decide) (W := 0) (r20_2 hw a12 a10 b26_0 k26_0 a9 O_K26 f26_2 f26_3 H18 f26_4 f26_5 f26_6 (Ne.symm ne27) f26_8 f29 g30 f26_7) (by show 1 + 1 ≤ R.frames; omega) (by show 0 + (2 + 11) + 15 ≤ R.locals; omega) f26_3 rfl (g := (mkF m 146 #[iv p1, iv p2, iv p3, iv p4, rv a5, iv p6, iv p7, rv a8, rv a9, rv a10, rv a11, rv a12, iv (2:Int32), un, un, un, un, un, un] [(.ref a10), (.ref a12)])) rfl (by rw [hml]; rfl) (argsL := [(.ref a10)]) (rest := []) (lenOf pd16 rfl) rfl wf (hb hby at_146) rfl (by show cells + 1 + 0 ≤ R.cells; omega) (by show slots + 10 + 0 ≤ R.slots; omega)
  obtain ⟨rfl, N31q, K31, f31_1, f31_2, f31_3, f31_4, f31_5, f31_6, f31_7⟩ := hQ31
  have N31 := Fr.app N26 N31q
  have z32 : h0.size ≤ b26_0 := Nat.le_trans (Keep.refl h0 [a12]).1 lo26_1
  have Kp_K31 : Keep h0 T31.heap [a12] := Kp_K26.trans K31 (allS (mI 0 rfl) (allS (Or.inr z32) all0))
  replace X31 : Stand p l e R _ m args below meth c T31 _ (cells + 1) (slots + 10) := X31
  refine ⟨T31, _, _, b26_0, k26_0, X31.more (by omega) (by omega), rfl, N31, Kp_K31, z32, f31_2, f31_1, f31_3, f31_4, f31_5, f31_7, f31_6, fun target kt => ?_⟩
  show St p e below T0 m 122 #[iv p1, iv p2, iv p3, iv p4, rv a5, iv p6, iv p7, rv a8, rv a9, rv a10, rv a11, rv a12, iv p13, un, un, un, un, un, un] [] _
  refine iL X0 hx hby at_122 rfl ?_
  refine XS.ifNo X0.here hx rfl (hb hby at_124) rfl ((if0 _ _).trans (feq hc14).1) ?_
  refine iC X0 hx hby at_127 ?_
  refine iN X0 hx hby at_128 rfl ?_
  refine iC X0 hx hby at_129 ?_
  refine XS.iand X0.here hx rfl (hb hby at_130) rfl ?_
  show St p e below T0 m 131 #[iv p1, iv p2, iv p3, iv p4, rv a5, iv p6, iv p7, rv a8, rv a9, rv a10, rv a11, rv a12, iv p13, un, un, un, un, un, un] [(.int (p2 &&& (1:Int32))), (.int (2:Int32))] _
  rw [pin15]
  refine XS.iadd X0.here hx rfl (hb hby at_131) rfl ?_
  refine XS.istore X0.here hx rfl (hb hby at_132) rfl (l' := #[iv p1, iv p2, iv p3, iv p4, rv a5, iv p6, iv p7, rv a8, rv a9, rv a10, rv a11, rv a12, iv (2:Int32), un, un, un, un, un, un]) rfl ?_
  refine aL X0 hx hby at_134 rfl rfl ?_
  refine aL X0 hx hby at_136 rfl rfl ?_
  refine st26.trans ?_
  refine XS.pop X26.here hx rfl (hb hby at_141) rfl rfl ?_
  refine aL X26 hx hby at_142 rfl rfl ?_
  refine aL X26 hx hby at_144 rfl rfl ?_
  refine st31.trans ?_
  refine XS.pop X31.here hx rfl (hb hby at_149) rfl rfl ?_
  refine iL X31 hx hby at_150 rfl ?_
  refine iC X31 hx hby at_152 ?_
  refine XS.icmpYes X31.here hx rfl (pc0 := 153) (pc' := 180) rfl (hb hby at_153) rfl (feq (by decide : ¬ ((2:Int32) = (3:Int32)))).2 (by decide) (by decide) ?_
  exact kt
theorem d8_11 : dk cJ38_9 11 (.iconst 0) 1 := by decide +kernel
def r8_2Q (Z : State) (a1 : Addr) (h0 : Heap) (n0 : Nat) : QT := fun v h L => v = some (.int (0:Int32)) ∧ Fr n0 L ∧ h = h0
theorem r8_2 (hw : HW a0 Z) (a1 : Addr) (O0 : Old Z n0 h0) (H2 : xF3 Z h0 a1 (.int (2:Int32))) :
    MF l y8 cJ38_9 1 (some .boolean) [] (rM 0 0 0 0) Z #[(.ref a1)] h0 (r8_2Q Z a1 h0 n0) := by
  refine own_in (pq pn10) #[rv a1] (fun _ => by first | (simp [entryFrame, mkF, argsToLocals, Value.category]; done) | rfl) ?_
  intro p e s m below meth c s₁ Bd hx hby hml hown hnm hZ e0 X0
  have N0 := Fr.nil n0
  obtain ⟨_, X3, e3, st3⟩ := gF X0 hx hZ hown (ow hw 84 rfl) e0 H2 (g := (mkF m 1 #[rv a1] [(.ref a1)])) rfl rfl (hb hby d8_1)
  refine fin (Q := r8_2Q Z a1 h0 n0) (rm := (rM 0 0 0 0)) Bd X3 e3 (some (.int (0:Int32))) nofun ⟨rfl, N0, rfl⟩ (by decide) (by decide) fun fs hr => ?_
  show St p e below s₁ m 0 #[rv a1] [] _
  refine aN X0 hx hby d8_0 rfl rfl ?_
  refine st3 _ ?_
  refine XS.ifYes X3.here hx rfl (pc0 := 4) (pc' := 11) rfl (hb hby d8_4) rfl ((if0 _ _).trans (feq (by decide : ¬ ((2:Int32) = (0:Int32)))).2) (by decide) (by decide) ?_
  refine iC X3 hx hby d8_11 ?_
  exact retN X3 hx (t := .boolean) Bd.returns (by simp) (hb hby d8_12) hr
theorem d7_44 : dk cJ56_3 44 (.aload_n 0) 1 := by decide +kernel
theorem d7_45 : dk cJ56_3 45 (.invokeinterface 30 1) 5 := by decide +kernel
theorem d25_0 : dk cJ38_16 0 (.aload_n 0) 1 := by decide +kernel
theorem d25_1 : dk cJ38_16 1 (.getfield 9) 3 := by decide +kernel
theorem d25_4 : dk cJ38_16 4 (.aload_n 0) 1 := by decide +kernel
theorem d25_5 : dk cJ38_16 5 (.getfield 48) 3 := by decide +kernel
theorem d25_8 : dk cJ38_16 8 (.invokestatic 66) 3 := by decide +kernel
theorem d26_0 : dk cJ65_119 0 (.aload_n 0) 1 := by decide +kernel
theorem d26_1 : dk cJ65_119 1 (.iload_n 1) 1 := by decide +kernel
theorem d26_2 : dk cJ65_119 2 (.aload_n 0) 1 := by decide +kernel
theorem d26_3 : dk cJ65_119 3 (.invokevirtual 86) 3 := by decide +kernel
theorem d26_6 : dk cJ65_119 6 (.invokestatic 300) 3 := by decide +kernel
theorem d27_0 : dk cJ65_120 0 (.aload_n 2) 1 := by decide +kernel
theorem d27_1 : dk cJ65_120 1 (.ldc 110) 2 := by decide +kernel
theorem d27_3 : dk cJ65_120 3 (.if_acmp .ne 10) 3 := by decide +kernel
theorem d27_6 : dk cJ65_120 6 (.iload_n 1) 1 := by decide +kernel
theorem d27_7 : dk cJ65_120 7 (.anewarray 2) 3 := by decide +kernel
theorem d27_10 : dk cJ65_120 10 (.goto 14) 3 := by decide +kernel
theorem d27_24 : dk cJ65_120 24 (.astore_n 3) 1 := by decide +kernel
theorem d27_25 : dk cJ65_120 25 (.aload_n 0) 1 := by decide +kernel
theorem d27_26 : dk cJ65_120 26 (.iconst 0) 1 := by decide +kernel
theorem d27_27 : dk cJ65_120 27 (.aload_n 3) 1 := by decide +kernel
theorem d27_28 : dk cJ65_120 28 (.iconst 0) 1 := by decide +kernel
theorem d27_29 : dk cJ65_120 29 (.aload_n 0) 1 := by decide +kernel
theorem d27_30 : dk cJ65_120 30 .arraylength 1 := by decide +kernel
theorem d27_31 : dk cJ65_120 31 (.iload_n 1) 1 := by decide +kernel
theorem d27_32 : dk cJ65_120 32 (.invokestatic 304) 3 := by decide +kernel
theorem d28_0 : dk jdk_29_method_69_code 0 (.iload_n 0) 1 := by decide +kernel
theorem d28_1 : dk jdk_29_method_69_code 1 (.iload_n 1) 1 := by decide +kernel
theorem d28_2 : dk jdk_29_method_69_code 2 (.if_icmp .gt 7) 3 := by decide +kernel
theorem d28_9 : dk jdk_29_method_69_code 9 (.iload_n 1) 1 := by decide +kernel
theorem d28_10 : dk jdk_29_method_69_code 10 .ireturn 1 := by decide +kernel
abbrev y28 : MethodName := ⟨"java/lang/Math", "min", "(II)I"⟩
def r28_1Q (Z : State) (h0 : Heap) (n0 : Nat) : QT := fun v h L => v = some (.int (2:Int32)) ∧ Fr n0 L ∧ h = h0
theorem r28_1 (hw : HW a0 Z) (O0 : Old Z n0 h0) :
    MF l y28 jdk_29_method_69_code 2 (some .int) [] (rM 0 0 0 0) Z #[(.int (10:Int32)), (.int (2:Int32))] h0 (r28_1Q Z h0 n0) := by
  refine own_in (Jvm.Free.JP.mathPlain rfl (by decide +kernel)) #[iv (10:Int32), iv (2:Int32)] (fun _ => by first | (simp [entryFrame, mkF, argsToLocals, Value.category]; done) | rfl) ?_
  intro p e s m below meth c s₁ Bd hx hby hml hown hnm hZ e0 X0
  have N0 := Fr.nil n0
  refine fin (Q := r28_1Q Z h0 n0) (rm := (rM 0 0 0 0)) Bd X0 e0 (some (.int (2:Int32))) nofun ⟨rfl, N0, rfl⟩ (by decide) (by decide) fun fs hr => ?_
  show St p e below s₁ m 0 #[iv (10:Int32), iv (2:Int32)] [] _
  refine iN X0 hx hby d28_0 rfl ?_
  refine iN X0 hx hby d28_1 rfl ?_
  refine XS.icmpYes X0.here hx rfl (pc0 := 2) (pc' := 9) rfl (hb hby d28_2) rfl (tlt (by decide : (2:Int32) < (10:Int32))).2.2.1 (by decide) (by decide) ?_
  refine iN X0 hx hby d28_9 rfl ?_
  exact retI X0 hx Bd.returns (hb hby d28_10) hr
theorem d27_35 : dk cJ65_120 35 (.invokestatic 150) 3 := by decide +kernel
theorem d27_38 : dk cJ65_120 38 (.aload_n 3) 1 := by decide +kernel
theorem d27_39 : dk cJ65_120 39 .areturn 1 := by decide +kernel
abbrev y27 : MethodName := ⟨"java/util/Arrays", "copyOf", "([Ljava/lang/Object;ILjava/lang/Class;)[Ljava/lang/Object;"⟩
theorem pn14 : plainName "java/util/Arrays" = true := by first | (simp [plainName, overriddenIn]; done) | decide +kernel
def r27_1Q (Z : State) (a1 a2 : Addr) (k7 : ClassId) (a8 a9 : Addr) (h0 : Heap) (n0 : Nat) : QT := fun v h L => ∃ (b5 : Addr) (k5 : ClassId), v = some (.ref b5) ∧ Fr n0 L ∧ Keep h0 h [] ∧ h0.size ≤ b5 ∧ Arv Z h b5 k5 (.object "java/lang/Object") (2:Int32) [(.ref a8), (.ref a9)] .null ∧ xE19 Z h b5 ∧ Ovr Z k5 "java/lang/Object"
theorem r27_1 (hw : HW a0 Z) (a1 a2 : Addr) (k7 : ClassId) (a8 a9 : Addr) (O0 : Old Z n0 h0) (H3 : Mi Z "[Ljava/lang/Object;" a2) (H10 : Arv Z h0 a1 k7 (.object "java/lang/Object") (10:Int32) [(.ref a8), (.ref a9), .null, .null, .null, .null, .null, .null, .null, .null] .null) (H14 : xE5 Z h0 a8) (H16 : xE5 Z h0 a9) :
    MF l y27 cJ65_120 4 (some (.array (.object "java/lang/Object"))) [] (rM 1 1 2 18) Z #[(.ref a1), (.int (2:Int32)), (.ref a2)] h0 (r27_1Q Z a1 a2 k7 a8 a9 h0 n0) := by
  refine own_in (pq pn14) #[rv a1, iv (2:Int32), rv a2, un] (fun _ => by first | (simp [entryFrame, mkF, argsToLocals, Value.category]; done) | rfl) ?_
  intro p e s m below meth c s₁ Bd hx hby hml hown hnm hZ e0 X0
  have N0 := Fr.nil n0
  obtain ⟨_, X4, e4, st4⟩ := own_ldcM X0 hx hZ hown (ow hw 210 rfl) e0 H3 (g := (mkF m 1 #[rv a1, iv (2:Int32), rv a2, un] [(.ref a2)])) rfl (hb hby d27_1)
  obtain ⟨_, h5, k5, X5, e5, E5, A5, C5, Ov5, st5⟩ := newRE X4 hx hZ hown (ow hw 211 rfl) (ow hw 187 rfl) e4 (g := (mkF m 7 #[rv a1, iv (2:Int32), rv a2, un] [(.int (2:Int32))])) rfl (hb hby d27_7) rfl (by decide) (cap := 2) (by decide) (by decide) (by decide) (by decide) (ad := "[Ljava/lang/Object;") (by decide)
  obtain ⟨b5, g5⟩ : ∃ z, z = h0.size := ⟨_, rfl⟩
  rw [← g5] at A5 C5 st5
  have O_E5 : Old Z n0 h5 := O0.ext E5
  have Kp_E5 : Keep h0 h5 [] := (Keep.refl h0 []).ext E5
  have V5 : Arv Z h5 b5 k5 (.object "java/lang/Object") (2:Int32) [.null, .null] .null := (Arv.new A5 (by decide)).pad (pad_rep [] .null 2)
  have f11 := (H10.ext E5)
  obtain ⟨_, Ar6, _, S6, M6, _, _⟩ := id f11
  obtain ⟨_, _, _, X12, hQ12, st12⟩ := cS X5 hx hZ hw hown (y := y28) 212 rfl 213 rfl 184 rfl 214 rfl (by decide) (W := 4) (r28_1 hw O_E5) (by decide) (by decide) e5 (g := (mkF m 32 #[rv a1, iv (2:Int32), rv a2, rv b5] [(.int (2:Int32)), (.int (10:Int32)), (.int (0:Int32)), (.ref b5), (.int (0:Int32)), (.ref a1)])) rfl (by rw [hml]; rfl) (argsL := [(.int (10:Int32)), (.int (2:Int32))]) (rest := [(.int (0:Int32)), (.ref b5), (.int (0:Int32)), (.ref a1)]) (lenOf pd21 rfl) rfl wf (hb hby d27_32) rfl (by decide) (by decide)
  obtain ⟨rfl, N12q, e12⟩ := hQ12
  have N12 := Fr.app N0 N12q
  obtain ⟨_, Ar13, q13, -⟩ := id V5
  have f15 := (H14.ext E5)
  have f17 := (H16.ext E5)
  have g18 : n0 ≤ b5 := Nat.le_trans (Nat.le_trans (Nat.le_of_eq O0.1.symm) O0.2.1) (Nat.le_of_eq g5.symm)
  obtain ⟨_, h13, _, X13, e13, N13, K13, V13, st13⟩ := cpA X12 hx hZ hown (ow hw 215 rfl) (ow hw 218 rfl) (ow hw 216 rfl) (ow hw 217 rfl) e12 f11 V5 (us := [(.ref a8), (.ref a9)]) (Or.inr ⟨rfl, rfl, ⟨Sto.ofV Ar13 q13 Ov5 (Ins.of_exa f15 (ow hw 188 rfl)), Sto.ofV Ar13 q13 Ov5 (Ins.of_exa f17 (ow hw 188 rfl)), trivial⟩⟩) (by decide) (by decide) (by decide) (by decide) (by decide) rfl (by decide) N12 g18 (g := (mkF m 35 #[rv a1, iv (2:Int32), rv a2, rv b5] [(.int (2:Int32)), (.int (0:Int32)), (.ref b5), (.int (0:Int32)), (.ref a1)])) rfl (by rw [hml]; rfl) rfl (hb hby d27_35) (by decide) (W := 0) wf (by decide)
  have z19 : h0.size ≤ b5 := Nat.le_trans (Keep.refl h0 []).1 (Nat.le_of_eq g5.symm)
  have Kp_K13 : Keep h0 h13 [] := Kp_E5.trans K13 (allS (Or.inr z19) all0)
  have f20 : Arv Z h13 b5 k5 (.object "java/lang/Object") (2:Int32) [(.ref a8), (.ref a9)] .null := V13
  have f21 := (C5.keep K13)
  have f22 := Ov5
  refine fin (Q := r27_1Q Z a1 a2 k7 a8 a9 h0 n0) (rm := (rM 1 1 2 18)) Bd X13 e13 (some (.ref b5)) nofun ⟨b5, k5, rfl, N13, Kp_K13, z19, f20, f21, f22⟩ (by decide) (by decide) fun fs hr => ?_
  show St p e below s₁ m 0 #[rv a1, iv (2:Int32), rv a2, un] [] _
  refine aN X0 hx hby d27_0 rfl rfl ?_
  refine st4 _ ?_
  refine Jvm.RoadKit.acmp (g := (mkF m 3 #[rv a1, iv (2:Int32), rv a2, un] [(.ref a2), (.ref a2)])) X4 hx rfl rfl rfl (pc0 := 3) (pc' := 6) (same := true) rfl (hb hby d27_3) rfl (decide_eq_true rfl) (by decide) (by decide) ?_
  refine iN X4 hx hby d27_6 rfl ?_
  refine st5 _ ?_
  refine XS.goto X5.here hx rfl (pc0 := 10) (pc' := 24) rfl (hb hby d27_10) (by decide) (by decide) ?_
  refine XS.astoreN X5.here hx rfl (hb hby d27_24) rfl rfl (l' := #[rv a1, iv (2:Int32), rv a2, rv b5]) rfl ?_
  refine aN X5 hx hby d27_25 rfl rfl ?_
  refine iC X5 hx hby d27_26 ?_
  refine aN X5 hx hby d27_27 rfl rfl ?_
  refine iC X5 hx hby d27_28 ?_
  refine aN X5 hx hby d27_29 rfl rfl ?_
  refine X5.arraylength hx (by rw [e5]; exact Ar6.1) (State.isArrayOf_alike hZ.alike Ar6.2.1) (g := (mkF m 30 #[rv a1, iv (2:Int32), rv a2, rv b5] [(.ref a1), (.int (0:Int32)), (.ref b5), (.int (0:Int32)), (.ref a1)])) rfl rfl (hb hby d27_30) _ ?_
  rw [len_of S6 M6]
  refine iN X5 hx hby d27_31 rfl ?_
  refine st12 _ ?_
  refine st13 _ ?_
  refine aN X13 hx hby d27_38 rfl rfl ?_
  exact retA X13 hx Bd.returns rfl rfl (hb hby d27_39) hr
theorem pd1 : parseMethodDescriptor "([Ljava/lang/Object;ILjava/lang/Class;)[Ljava/lang/Object;" = some ⟨[(.array (.object "java/lang/Object")), .int, (.object "java/lang/Class")], some (.array (.object "java/lang/Object"))⟩ := by decide +kernel
theorem d26_9 : dk cJ65_119 9 .areturn 1 := by decide +kernel
abbrev y26 : MethodName := ⟨"java/util/Arrays", "copyOf", "([Ljava/lang/Object;I)[Ljava/lang/Object;"⟩
def r26_1Q (Z : State) (a1 a3 : Addr) (k6 : ClassId) (a7 a8 : Addr) (h0 : Heap) (n0 : Nat) : QT := fun v h L => ∃ (b12_0 : Addr) (k12_0 : ClassId), v = some (.ref b12_0) ∧ Fr n0 L ∧ Keep h0 h [] ∧ h0.size ≤ b12_0 ∧ Arv Z h b12_0 k12_0 (.object "java/lang/Object") (2:Int32) [(.ref a7), (.ref a8)] .null ∧ xE19 Z h b12_0 ∧ Ovr Z k12_0 "java/lang/Object"
theorem r26_1 (hw : HW a0 Z) (a1 a3 : Addr) (k6 : ClassId) (a7 a8 : Addr) (O0 : Old Z n0 h0) (H2 : xE19 Z h0 a1) (H4 : Mi Z "[Ljava/lang/Object;" a3) (H9 : Arv Z h0 a1 k6 (.object "java/lang/Object") (10:Int32) [(.ref a7), (.ref a8), .null, .null, .null, .null, .null, .null, .null, .null] .null) (H10 : xE5 Z h0 a7) (H11 : xE5 Z h0 a8) :
    MF l y26 cJ65_119 2 (some (.array (.object "java/lang/Object"))) [] (rM 2 1 2 33) Z #[(.ref a1), (.int (2:Int32))] h0 (r26_1Q Z a1 a3 k6 a7 a8 h0 n0) := by
  refine own_in (pq pn14) #[rv a1, iv (2:Int32)] (fun _ => by first | (simp [entryFrame, mkF, argsToLocals, Value.category]; done) | rfl) ?_
  intro p e s m below meth c s₁ Bd hx hby hml hown hnm hZ e0 X0
  have N0 := Fr.nil n0
  obtain ⟨_, X5, e5, st5⟩ := own_gcls X0 hx hZ hown (ow hw 201 rfl) (ow hw 202 rfl) (ow hw 73 rfl) (ow hw 204 rfl) (ow hw 203 rfl) (ow hw 205 rfl) e0 H2 H4 (g := (mkF m 3 #[rv a1, iv (2:Int32)] [(.ref a1), (.int (2:Int32)), (.ref a1)])) rfl (by rw [hml]; rfl) rfl (hb hby d26_3) (by decide) (W := 2) wf (by decide)
  obtain ⟨T12, _, _, X12, hQ12, st12⟩ := cS X5 hx hZ hw hown (y := y27) 207 rfl 208 rfl 199 rfl 209 rfl (by decide) (W := 0) (r27_1 hw a1 a3 k6 a7 a8 O0 H4 H9 H10 H11) (by decide) (by decide) e5 (g := (mkF m 6 #[rv a1, iv (2:Int32)] [(.ref a3), (.int (2:Int32)), (.ref a1)])) rfl (by rw [hml]; rfl) (argsL := [(.ref a1), (.int (2:Int32)), (.ref a3)]) (rest := []) (lenOf pd1 rfl) rfl wf (hb hby d26_6) rfl (by decide) (by decide)
  obtain ⟨b12_0, k12_0, rfl, N12q, K12, lo12_1, f12_2, f12_3, f12_4⟩ := hQ12
  have N12 := Fr.app N0 N12q
  have Kp_K12 : Keep h0 T12.heap [] := (Keep.refl h0 []).trans K12 all0
  have z13 : h0.size ≤ b12_0 := Nat.le_trans (Keep.refl h0 []).1 lo12_1
  refine fin (Q := r26_1Q Z a1 a3 k6 a7 a8 h0 n0) (rm := (rM 2 1 2 33)) Bd X12 rfl (some (.ref b12_0)) nofun ⟨b12_0, k12_0, rfl, N12, Kp_K12, z13, f12_2, f12_3, f12_4⟩ (by decide) (by decide) fun fs hr => ?_
  show St p e below s₁ m 0 #[rv a1, iv (2:Int32)] [] _
  refine aN X0 hx hby d26_0 rfl rfl ?_
  refine iN X0 hx hby d26_1 rfl ?_
  refine aN X0 hx hby d26_2 rfl rfl ?_
  refine st5 _ ?_
  refine st12 _ ?_
  exact retA X12 hx Bd.returns rfl rfl (hb hby d26_9) hr
theorem pd4 : parseMethodDescriptor "([Ljava/lang/Object;I)[Ljava/lang/Object;" = some ⟨[(.array (.object "java/lang/Object")), .int], some (.array (.object "java/lang/Object"))⟩ := by decide +kernel
theorem d25_11 : dk cJ38_16 11 .areturn 1 := by decide +kernel
abbrev y25 : MethodName := ⟨"java/util/ArrayList", "toArray", "()[Ljava/lang/Object;"⟩
def r25_1Q (Z : State) (a1 a2 a8 : Addr) (k10 : ClassId) (a11 a12 : Addr) (h0 : Heap) (n0 : Nat) : QT := fun v h L => ∃ (b16_0 : Addr) (k16_0 : ClassId), v = some (.ref b16_0) ∧ Fr n0 L ∧ Keep h0 h [] ∧ h0.size ≤ b16_0 ∧ Arv Z h b16_0 k16_0 (.object "java/lang/Object") (2:Int32) [(.ref a11), (.ref a12)] .null ∧ xE19 Z h b16_0 ∧ Ovr Z k16_0 "java/lang/Object"
theorem r25_1 (hw : HW a0 Z) (a1 a2 a8 : Addr) (k10 : ClassId) (a11 a12 : Addr) (O0 : Old Z n0 h0) (H3 : xF2 Z h0 a1 (.ref a2)) (H5 : xF3 Z h0 a1 (.int (2:Int32))) (H7 : xE19 Z h0 a2) (H9 : Mi Z "[Ljava/lang/Object;" a8) (H13 : Arv Z h0 a2 k10 (.object "java/lang/Object") (10:Int32) [(.ref a11), (.ref a12), .null, .null, .null, .null, .null, .null, .null, .null] .null) (H14 : xE5 Z h0 a11) (H15 : xE5 Z h0 a12) :
    MF l y25 cJ38_16 1 (some (.array (.object "java/lang/Object"))) [] (rM 3 1 2 46) Z #[(.ref a1)] h0 (r25_1Q Z a1 a2 a8 k10 a11 a12 h0 n0) := by
  refine own_in (pq pn10) #[rv a1] (fun _ => by first | (simp [entryFrame, mkF, argsToLocals, Value.category]; done) | rfl) ?_
  intro p e s m below meth c s₁ Bd hx hby hml hown hnm hZ e0 X0
  have N0 := Fr.nil n0
  obtain ⟨_, X4, e4, st4⟩ := gF X0 hx hZ hown (ow hw 32 rfl) e0 H3 (g := (mkF m 1 #[rv a1] [(.ref a1)])) rfl rfl (hb hby d25_1)
  obtain ⟨_, X6, e6, st6⟩ := gF X4 hx hZ hown (ow hw 84 rfl) e4 H5 (g := (mkF m 5 #[rv a1] [(.ref a1), (.ref a2)])) rfl rfl (hb hby d25_5)
  obtain ⟨T16, _, _, X16, hQ16, st16⟩ := cS X6 hx hZ hw hown (y := y26) 197 rfl 198 rfl 199 rfl 200 rfl (by decide) (W := 0) (r26_1 hw a2 a8 k10 a11 a12 O0 H7 H9 H13 H14 H15) (by decide) (by decide) e6 (g := (mkF m 8 #[rv a1] [(.int (2:Int32)), (.ref a2)])) rfl (by rw [hml]; rfl) (argsL := [(.ref a2), (.int (2:Int32))]) (rest := []) (lenOf pd4 rfl) rfl wf (hb hby d25_8) rfl (by decide) (by decide)
  obtain ⟨b16_0, k16_0, rfl, N16q, K16, lo16_1, f16_2, f16_3, f16_4⟩ := hQ16
  have N16 := Fr.app N0 N16q
  have Kp_K16 : Keep h0 T16.heap [] := (Keep.refl h0 []).trans K16 all0
  have z17 : h0.size ≤ b16_0 := Nat.le_trans (Keep.refl h0 []).1 lo16_1
  refine fin (Q := r25_1Q Z a1 a2 a8 k10 a11 a12 h0 n0) (rm := (rM 3 1 2 46)) Bd X16 rfl (some (.ref b16_0)) nofun ⟨b16_0, k16_0, rfl, N16, Kp_K16, z17, f16_2, f16_3, f16_4⟩ (by decide) (by decide) fun fs hr => ?_
  show St p e below s₁ m 0 #[rv a1] [] _
  refine aN X0 hx hby d25_0 rfl rfl ?_
  refine st4 _ ?_
  refine aN X4 hx hby d25_4 rfl rfl ?_
  refine st6 _ ?_
  refine st16 _ ?_
  exact retA X16 hx Bd.returns rfl rfl (hb hby d25_11) hr
abbrev y29 : MethodName := ⟨"java/util/Collection", "toArray", "()[Ljava/lang/Object;"⟩
theorem d7_50 : dk cJ56_3 50 (.invokestatic 34) 3 := by decide +kernel
theorem d30_0 : dk cJ40_47 0 (.aload_n 0) 1 := by decide +kernel
theorem d30_1 : dk cJ40_47 1 .arraylength 1 := by decide +kernel
theorem d30_2 : dk cJ40_47 2 (.tableswitch 57 0 2 #[26, 32, 43]) 26 := by decide +kernel
theorem d30_45 : dk cJ40_47 45 (.new 96) 3 := by decide +kernel
theorem d30_48 : dk cJ40_47 48 .dup 1 := by decide +kernel
theorem d30_49 : dk cJ40_47 49 (.aload_n 0) 1 := by decide +kernel
theorem d30_50 : dk cJ40_47 50 (.iconst 0) 1 := by decide +kernel
theorem d30_51 : dk cJ40_47 51 .aaload 1 := by decide +kernel
theorem d30_52 : dk cJ40_47 52 (.aload_n 0) 1 := by decide +kernel
theorem d30_53 : dk cJ40_47 53 (.iconst 1) 1 := by decide +kernel
theorem d30_54 : dk cJ40_47 54 .aaload 1 := by decide +kernel
theorem d30_55 : dk cJ40_47 55 (.invokespecial 100) 3 := by decide +kernel
theorem d31_0 : dk cJ44_2 0 (.aload_n 0) 1 := by decide +kernel
theorem d31_1 : dk cJ44_2 1 (.invokespecial 1) 3 := by decide +kernel
theorem d32_0 : dk jdk_46_method_1_code 0 (.aload_n 0) 1 := by decide +kernel
theorem d32_1 : dk jdk_46_method_1_code 1 (.invokespecial 1) 3 := by decide +kernel
theorem d33_0 : dk jdk_47_method_1_code 0 (.aload_n 0) 1 := by decide +kernel
theorem d33_1 : dk jdk_47_method_1_code 1 (.invokespecial 1) 3 := by decide +kernel
theorem d33_4 : dk jdk_47_method_1_code 4 .return_ 1 := by decide +kernel
abbrev y33 : MethodName := ⟨"java/util/ImmutableCollections$AbstractImmutableCollection", "<init>", "()V"⟩
theorem pn0 : plainName "java/util/ImmutableCollections$AbstractImmutableCollection" = true := by first | (simp [plainName, overriddenIn]; done) | decide +kernel
def r33_1Q (Z : State) (a1 : Addr) (h0 : Heap) (n0 : Nat) : QT := fun v h L => v = none ∧ Fr n0 L ∧ h = h0
theorem r33_1 (hw : HW a0 Z) (a1 : Addr) (O0 : Old Z n0 h0) :
    MF l y33 jdk_47_method_1_code 1 none [] (rM 2 0 0 24) Z #[(.ref a1)] h0 (r33_1Q Z a1 h0 n0) := by
  refine own_in (pq pn0) #[rv a1] (fun _ => by first | (simp [entryFrame, mkF, argsToLocals, Value.category]; done) | rfl) ?_
  intro p e s m below meth c s₁ Bd hx hby hml hown hnm hZ e0 X0
  have N0 := Fr.nil n0
  obtain ⟨_, _, _, X2, hQ2, st2⟩ := cP X0 hx hZ hw hown (y := y4) rfl 241 rfl 21 rfl 25 rfl 24 rfl (by decide) (W := 0) (r4_1 hw a1 O0) (by decide) (by decide) e0 (g := (mkF m 1 #[rv a1] [(.ref a1)])) rfl (by rw [hml]; rfl) (argsL := []) (rest := []) (lenOf pd22 rfl) rfl wf (hb hby d33_1) rfl (by decide) (by decide)
  obtain ⟨rfl, N2q, e2⟩ := hQ2
  have N2 := Fr.app N0 N2q
  refine fin (Q := r33_1Q Z a1 h0 n0) (rm := (rM 2 0 0 24)) Bd X2 e2 (none) (fun _ => rfl) ⟨rfl, N2, rfl⟩ (by decide) (by decide) fun fs hr => ?_
  show St p e below s₁ m 0 #[rv a1] [] _
  refine aN X0 hx hby d33_0 rfl rfl ?_
  refine st2.trans ?_
  exact X2.returnOut hx Bd.returns (hb hby d33_4) hr
theorem d32_4 : dk jdk_46_method_1_code 4 .return_ 1 := by decide +kernel
abbrev y32 : MethodName := ⟨"java/util/ImmutableCollections$AbstractImmutableList", "<init>", "()V"⟩
theorem pn1 : plainName "java/util/ImmutableCollections$AbstractImmutableList" = true := by first | (simp [plainName, overriddenIn]; done) | decide +kernel
def r32_1Q (Z : State) (a1 : Addr) (h0 : Heap) (n0 : Nat) : QT := fun v h L => v = none ∧ Fr n0 L ∧ h = h0
theorem r32_1 (hw : HW a0 Z) (a1 : Addr) (O0 : Old Z n0 h0) :
    MF l y32 jdk_46_method_1_code 1 none [] (rM 3 0 0 36) Z #[(.ref a1)] h0 (r32_1Q Z a1 h0 n0) := by
  refine own_in (pq pn1) #[rv a1] (fun _ => by first | (simp [entryFrame, mkF, argsToLocals, Value.category]; done) | rfl) ?_
  intro p e s m below meth c s₁ Bd hx hby hml hown hnm hZ e0 X0
  have N0 := Fr.nil n0
  obtain ⟨_, _, _, X2, hQ2, st2⟩ := cP X0 hx hZ hw hown (y := y33) rfl 235 rfl 236 rfl 240 rfl 239 rfl (by decide) (W := 0) (r33_1 hw a1 O0) (by decide) (by decide) e0 (g := (mkF m 1 #[rv a1] [(.ref a1)])) rfl (by rw [hml]; rfl) (argsL := []) (rest := []) (lenOf pd22 rfl) rfl wf (hb hby d32_1) rfl (by decide) (by decide)
  obtain ⟨rfl, N2q, e2⟩ := hQ2
  have N2 := Fr.app N0 N2q
  refine fin (Q := r32_1Q Z a1 h0 n0) (rm := (rM 3 0 0 36)) Bd X2 e2 (none) (fun _ => rfl) ⟨rfl, N2, rfl⟩ (by decide) (by decide) fun fs hr => ?_
  show St p e below s₁ m 0 #[rv a1] [] _
  refine aN X0 hx hby d32_0 rfl rfl ?_
  refine st2.trans ?_
  exact X2.returnOut hx Bd.returns (hb hby d32_4) hr
theorem d31_4 : dk cJ44_2 4 (.aload_n 0) 1 := by decide +kernel
theorem d31_5 : dk cJ44_2 5 (.aload_n 1) 1 := by decide +kernel
theorem d31_6 : dk cJ44_2 6 (.invokestatic 7) 3 := by decide +kernel
theorem d34_0 : dk jdk_31_method_10_code 0 (.aload_n 0) 1 := by decide +kernel
theorem d34_1 : dk jdk_31_method_10_code 1 (.ifnonnull 11) 3 := by decide +kernel
theorem d34_12 : dk jdk_31_method_10_code 12 (.aload_n 0) 1 := by decide +kernel
theorem d34_13 : dk jdk_31_method_10_code 13 .areturn 1 := by decide +kernel
abbrev y34 : MethodName := ⟨"java/util/Objects", "requireNonNull", "(Ljava/lang/Object;)Ljava/lang/Object;"⟩
theorem pn12 : plainName "java/util/Objects" = true := by first | (simp [plainName, overriddenIn]; done) | decide +kernel
def r34_1Q (Z : State) (a1 : Addr) (h0 : Heap) (n0 : Nat) : QT := fun v h L => v = some (.ref a1) ∧ Fr n0 L ∧ h = h0
theorem r34_1 (hw : HW a0 Z) (a1 : Addr) (O0 : Old Z n0 h0) :
    MF l y34 jdk_31_method_10_code 1 (some (.object "java/lang/Object")) [] (rM 0 0 0 0) Z #[(.ref a1)] h0 (r34_1Q Z a1 h0 n0) := by
  refine own_in (pq pn12) #[rv a1] (fun _ => by first | (simp [entryFrame, mkF, argsToLocals, Value.category]; done) | rfl) ?_
  intro p e s m below meth c s₁ Bd hx hby hml hown hnm hZ e0 X0
  have N0 := Fr.nil n0
  refine fin (Q := r34_1Q Z a1 h0 n0) (rm := (rM 0 0 0 0)) Bd X0 e0 (some (.ref a1)) nofun ⟨rfl, N0, rfl⟩ (by decide) (by decide) fun fs hr => ?_
  show St p e below s₁ m 0 #[rv a1] [] _
  refine aN X0 hx hby d34_0 rfl rfl ?_
  refine XS.ifnonnullYes X0.here hx rfl (pc0 := 1) (pc' := 12) rfl (hb hby d34_1) rfl (by decide) (by decide) ?_
  refine aN X0 hx hby d34_12 rfl rfl ?_
  exact retA X0 hx Bd.returns rfl rfl (hb hby d34_13) hr
theorem pd7 : parseMethodDescriptor "(Ljava/lang/Object;)Ljava/lang/Object;" = some ⟨[(.object "java/lang/Object")], some (.object "java/lang/Object")⟩ := by decide +kernel
theorem d31_9 : dk cJ44_2 9 (.putfield 13) 3 := by decide +kernel
abbrev xF20 (Z : State) (h : Heap) (a : Addr) (v : Value) : Prop := Fld Z h a "java/util/ImmutableCollections$List12" "e0" "Ljava/lang/Object;" v
abbrev xE21 (Z : State) (h : Heap) (a : Addr) : Prop := Exa Z h a "java/util/ImmutableCollections$List12"
theorem d31_12 : dk cJ44_2 12 (.aload_n 0) 1 := by decide +kernel
theorem d31_13 : dk cJ44_2 13 (.aload_n 2) 1 := by decide +kernel
theorem d31_14 : dk cJ44_2 14 (.invokestatic 7) 3 := by decide +kernel
theorem d31_17 : dk cJ44_2 17 (.putfield 24) 3 := by decide +kernel
abbrev xF22 (Z : State) (h : Heap) (a : Addr) (v : Value) : Prop := Fld Z h a "java/util/ImmutableCollections$List12" "e1" "Ljava/lang/Object;" v
theorem d31_20 : dk cJ44_2 20 .return_ 1 := by decide +kernel
abbrev y31 : MethodName := ⟨"java/util/ImmutableCollections$List12", "<init>", "(Ljava/lang/Object;Ljava/lang/Object;)V"⟩
theorem pn2 : plainName "java/util/ImmutableCollections$List12" = true := by first | (simp [plainName, overriddenIn]; done) | decide +kernel
def r31_1Q (Z : State) (a1 a2 a3 : Addr) (h0 : Heap) (n0 : Nat) : QT := fun v h L => v = none ∧ Fr n0 L ∧ Keep h0 h [a1] ∧ xF20 Z h a1 (.ref a2) ∧ xE21 Z h a1 ∧ xF22 Z h a1 (.ref a3)
theorem r31_1 (hw : HW a0 Z) (a1 a2 a3 : Addr) (O0 : Old Z n0 h0) (H6 : xF20 Z h0 a1 .null) (H7 : xE21 Z h0 a1) (H9 : n0 ≤ a1) (H13 : xF22 Z h0 a1 .null) :
    MF l y31 cJ44_2 3 none [] (rM 4 0 0 48) Z #[(.ref a1), (.ref a2), (.ref a3)] h0 (r31_1Q Z a1 a2 a3 h0 n0) := by
  refine own_in (pq pn2) #[rv a1, rv a2, rv a3] (fun _ => by first | (simp [entryFrame, mkF, argsToLocals, Value.category]; done) | rfl) ?_
  intro p e s m below meth c s₁ Bd hx hby hml hown hnm hZ e0 X0
  have N0 := Fr.nil n0
  obtain ⟨_, _, _, X4, hQ4, st4⟩ := cP X0 hx hZ hw hown (y := y32) rfl 229 rfl 230 rfl 234 rfl 233 rfl (by decide) (W := 0) (r32_1 hw a1 O0) (by decide) (by decide) e0 (g := (mkF m 1 #[rv a1, rv a2, rv a3] [(.ref a1)])) rfl (by rw [hml]; rfl) (argsL := []) (rest := []) (lenOf pd22 rfl) rfl wf (hb hby d31_1) rfl (by decide) (by decide)
  obtain ⟨rfl, N4q, e4⟩ := hQ4
  have N4 := Fr.app N0 N4q
  obtain ⟨_, _, _, X5, hQ5, st5⟩ := cS X4 hx hZ hw hown (y := y34) 243 rfl 244 rfl 245 rfl 246 rfl (by decide) (W := 1) (r34_1 hw a2 O0) (by decide) (by decide) e4 (g := (mkF m 6 #[rv a1, rv a2, rv a3] [(.ref a2), (.ref a1)])) rfl (by rw [hml]; rfl) (argsL := [(.ref a2)]) (rest := [(.ref a1)]) (lenOf pd7 rfl) rfl wf (hb hby d31_6) rfl (by decide) (by decide)
  obtain ⟨rfl, N5q, e5⟩ := hQ5
  have N5 := Fr.app N4 N5q
  obtain ⟨_, h8, X8, e8, W8, st8⟩ := pF X5 hx hZ hown (ow hw 247 rfl) e5 H6 H7 (Or.inr ⟨(ow hw 248 rfl), rfl, hnm⟩) (ow hw 223 rfl) (ty := (.object "java/lang/Object")) (by decide) rfl rfl (g := (mkF m 9 #[rv a1, rv a2, rv a3] [(.ref a2), (.ref a1)])) rfl rfl (hb hby d31_9)
  have O_W8 : Old Z n0 h8 := O0.wr W8 H9
  have Kp_W8 : Keep h0 h8 [a1] := (Keep.refl h0 [a1]).wr W8 (mI 0 rfl)
  have N10 := Fr.snoc X8 N5 H9
  have f11 := H6.same W8
  obtain ⟨_, _, _, X12, hQ12, st12⟩ := cS X8 hx hZ hw hown (y := y34) 243 rfl 244 rfl 245 rfl 246 rfl (by decide) (W := 1) (r34_1 hw a3 O_W8) (by decide) (by decide) e8 (g := (mkF m 14 #[rv a1, rv a2, rv a3] [(.ref a3), (.ref a1)])) rfl (by rw [hml]; rfl) (argsL := [(.ref a3)]) (rest := [(.ref a1)]) (lenOf pd7 rfl) rfl wf (hb hby d31_14) rfl (by decide) (by decide)
  obtain ⟨rfl, N12q, e12⟩ := hQ12
  have N12 := Fr.app N10 N12q
  have f14 := (H7.wr W8)
  have f15 := (H13.other W8 (Or.inr (sn39 hw)))
  obtain ⟨_, h16, X16, e16, W16, st16⟩ := pF X12 hx hZ hown (ow hw 249 rfl) e12 f15 f14 (Or.inr ⟨(ow hw 250 rfl), rfl, hnm⟩) (ow hw 223 rfl) (ty := (.object "java/lang/Object")) (by decide) rfl rfl (g := (mkF m 17 #[rv a1, rv a2, rv a3] [(.ref a3), (.ref a1)])) rfl rfl (hb hby d31_17)
  have Kp_W16 : Keep h0 h16 [a1] := Kp_W8.wr W16 (mI 0 rfl)
  have N17 := Fr.snoc X16 N12 H9
  have f18 := f15.same W16
  have f19 := (f14.wr W16)
  have f20 := (f11.other W16 (Or.inr (sn40 hw)))
  refine fin (Q := r31_1Q Z a1 a2 a3 h0 n0) (rm := (rM 4 0 0 48)) Bd X16 e16 (none) (fun _ => rfl) ⟨rfl, N17, Kp_W16, f20, f19, f18⟩ (by decide) (by decide) fun fs hr => ?_
  show St p e below s₁ m 0 #[rv a1, rv a2, rv a3] [] _
  refine aN X0 hx hby d31_0 rfl rfl ?_
  refine st4.trans ?_
  refine aN X4 hx hby d31_4 rfl rfl ?_
  refine aN X4 hx hby d31_5 rfl rfl ?_
  refine st5 _ ?_
  refine st8 _ ?_
  refine aN X8 hx hby d31_12 rfl rfl ?_
  refine aN X8 hx hby d31_13 rfl rfl ?_
  refine st12 _ ?_
  refine st16 _ ?_
  exact X16.returnOut hx Bd.returns (hb hby d31_20) hr
theorem pd6 : parseMethodDescriptor "(Ljava/lang/Object;Ljava/lang/Object;)V" = some ⟨[(.object "java/lang/Object"), (.object "java/lang/Object")], none⟩ := by decide +kernel
theorem d30_58 : dk cJ40_47 58 .areturn 1 := by decide +kernel
abbrev y30 : MethodName := ⟨"java/util/List", "of", "([Ljava/lang/Object;)Ljava/util/List;"⟩
def r30_1Q (Z : State) (a1 : Addr) (k3 : ClassId) (a4 a5 : Addr) (h0 : Heap) (n0 : Nat) : QT := fun v h L => ∃ (b7 : Addr), v = some (.ref b7) ∧ Fr n0 L ∧ Keep h0 h [] ∧ h0.size ≤ b7 ∧ xE21 Z h b7 ∧ xF20 Z h b7 (.ref a4) ∧ xF22 Z h b7 (.ref a5)
theorem r30_1 (hw : HW a0 Z) (a1 : Addr) (k3 : ClassId) (a4 a5 : Addr) (O0 : Old Z n0 h0) (H6 : Arv Z h0 a1 k3 (.object "java/lang/Object") (2:Int32) [(.ref a4), (.ref a5)] .null) :
    MF l y30 cJ40_47 2 (some (.object "java/util/List")) [] (rM 5 1 2 63) Z #[(.ref a1)] h0 (r30_1Q Z a1 k3 a4 a5 h0 n0) := by
  refine own_in (pq pn15) #[rv a1, un] (fun _ => by first | (simp [entryFrame, mkF, argsToLocals, Value.category]; done) | rfl) ?_
  intro p e s m below meth c s₁ Bd hx hby hml hown hnm hZ e0 X0
  have N0 := Fr.nil n0
  obtain ⟨_, Ar2, _, S2, M2, _, _⟩ := id H6
  obtain ⟨_, h7, X7, e7, E7, A7, D7, -, st7⟩ := newO X0 hx hZ hown (ow hw 222 rfl) (ow hw 223 rfl) (ow hw 224 rfl) e0 (g := (mkF m 45 #[rv a1, un] [])) rfl (hb hby d30_45) (by decide) (by decide)
  obtain ⟨b7, g7⟩ : ∃ z, z = h0.size := ⟨_, rfl⟩
  rw [← g7] at A7 D7 st7
  have O_E7 : Old Z n0 h7 := O0.ext E7
  have Kp_E7 : Keep h0 h7 [] := (Keep.refl h0 []).ext E7
  have f9 := (H6.ext E7)
  obtain ⟨cl8, Ar8, _, S8, _, H8, _⟩ := id f9
  have hin8 : ¬ ((0:Int32) < 0 ∨ cl8.slots.size ≤ ((0:Int32)).toNatClampNeg) := inb_of S8 ⟨by decide, by decide⟩
  obtain ⟨cl10, Ar10, _, S10, _, H10, _⟩ := id f9
  have hin10 : ¬ ((1:Int32) < 0 ∨ cl10.slots.size ≤ ((1:Int32)).toNatClampNeg) := inb_of S10 ⟨by decide, by decide⟩
  have f11 : xF20 Z h7 b7 .null := D7 (Or.inr (ow hw 248 rfl)) (ty := (.object "java/lang/Object")) (by decide)
  have g12 : n0 ≤ b7 := Nat.le_trans (Nat.le_trans (Nat.le_of_eq O0.1.symm) O0.2.1) (Nat.le_of_eq g7.symm)
  have f13 : xF22 Z h7 b7 .null := D7 (Or.inr (ow hw 250 rfl)) (ty := (.object "java/lang/Object")) (by decide)
  obtain ⟨T14, _, _, X14, hQ14, st14⟩ := cP X7 hx hZ hw hown (y := y31) rfl 225 rfl 226 rfl 228 rfl 224 rfl (by decide) (W := 1) (r31_1 hw b7 a4 a5 O_E7 f11 A7 g12 f13) (by decide) (by decide) e7 (g := (mkF m 55 #[rv a1, un] [(.ref a5), (.ref a4), (.ref b7), (.ref b7)])) rfl (by rw [hml]; rfl) (argsL := [(.ref a4), (.ref a5)]) (rest := [(.ref b7)]) (lenOf pd6 rfl) rfl wf (hb hby d30_55) rfl (by decide) (by decide)
  obtain ⟨rfl, N14q, K14, f14_1, f14_2, f14_3⟩ := hQ14
  have N14 := Fr.app N0 N14q
  have z15 : h0.size ≤ b7 := Nat.le_trans (Keep.refl h0 []).1 (Nat.le_of_eq g7.symm)
  have Kp_K14 : Keep h0 T14.heap [] := Kp_E7.trans K14 (allS (Or.inr z15) all0)
  refine fin (Q := r30_1Q Z a1 k3 a4 a5 h0 n0) (rm := (rM 5 1 2 63)) Bd X14 rfl (some (.ref b7)) nofun ⟨b7, rfl, N14, Kp_K14, z15, f14_2, f14_1, f14_3⟩ (by decide) (by decide) fun fs hr => ?_
  show St p e below s₁ m 0 #[rv a1, un] [] _
  refine aN X0 hx hby d30_0 rfl rfl ?_
  refine X0.arraylength hx (by rw [e0]; exact Ar2.1) (State.isArrayOf_alike hZ.alike Ar2.2.1) (g := (mkF m 1 #[rv a1, un] [(.ref a1)])) rfl rfl (hb hby d30_1) _ ?_
  rw [len_of S2 M2]
  refine XS.tswIn X0.here hx rfl (pc0 := 2) (pc' := 45) (o := 43) rfl (hb hby d30_2) rfl (by decide) rfl (by decide) (by decide) ?_
  refine st7 _ ?_
  refine XS.dup X7.here hx rfl (hb hby d30_48) rfl rfl ?_
  refine aN X7 hx hby d30_49 rfl rfl ?_
  refine iC X7 hx hby d30_50 ?_
  refine X7.aaload hx (j := (0:Int32)) (v := (.ref a4)) (by rw [e7]; exact Ar8.1) (State.isArrayOf_alike hZ.alike Ar8.2.1) rfl Ar8.2.2 hin8 (Has.at H8 hin8 rfl) (g := (mkF m 51 #[rv a1, un] [(.int (0:Int32)), (.ref a1), (.ref b7), (.ref b7)])) rfl rfl (hb hby d30_51) _ ?_
  refine aN X7 hx hby d30_52 rfl rfl ?_
  refine iC X7 hx hby d30_53 ?_
  refine X7.aaload hx (j := (1:Int32)) (v := (.ref a5)) (by rw [e7]; exact Ar10.1) (State.isArrayOf_alike hZ.alike Ar10.2.1) rfl Ar10.2.2 hin10 (Has.at H10 hin10 rfl) (g := (mkF m 54 #[rv a1, un] [(.int (1:Int32)), (.ref a1), (.ref a4), (.ref b7), (.ref b7)])) rfl rfl (hb hby d30_54) _ ?_
  refine st14.trans ?_
  exact retA X14 hx Bd.returns rfl rfl (hb hby d30_58) hr
theorem pd8 : parseMethodDescriptor "([Ljava/lang/Object;)Ljava/util/List;" = some ⟨[(.array (.object "java/lang/Object"))], some (.object "java/util/List")⟩ := by decide +kernel
theorem d7_53 : dk cJ56_3 53 .areturn 1 := by decide +kernel
def r7_2Q (Z : State) (a1 a7 a10 : Addr) (k12 : ClassId) (a13 a14 : Addr) (h0 : Heap) (n0 : Nat) : QT := fun v h L => ∃ (b19_0 : Addr), v = some (.ref b19_0) ∧ Fr n0 L ∧ Keep h0 h [] ∧ h0.size ≤ b19_0 ∧ xE21 Z h b19_0 ∧ xF20 Z h b19_0 (.ref a13) ∧ xF22 Z h b19_0 (.ref a14)
theorem r7_2 (hw : HW a0 Z) (a1 a7 a10 : Addr) (k12 : ClassId) (a13 a14 : Addr) (O0 : Old Z n0 h0) (H3 : xE1 Z h0 a1) (H5 : xF3 Z h0 a1 (.int (2:Int32))) (H8 : xF2 Z h0 a1 (.ref a7)) (H9 : xE19 Z h0 a7) (H11 : Mi Z "[Ljava/lang/Object;" a10) (H15 : Arv Z h0 a7 k12 (.object "java/lang/Object") (10:Int32) [(.ref a13), (.ref a14), .null, .null, .null, .null, .null, .null, .null, .null] .null) (H16 : xE5 Z h0 a13) (H17 : xE5 Z h0 a14) :
    MF l y7 cJ56_3 2 (some (.object "java/util/List")) [] (rM 6 2 4 76) Z #[(.ref a1)] h0 (r7_2Q Z a1 a7 a10 k12 a13 a14 h0 n0) := by
  refine own_in (pq pn5) #[rv a1, un] (fun _ => by first | (simp [entryFrame, mkF, argsToLocals, Value.category]; done) | rfl) ?_
  intro p e s m below meth c s₁ Bd hx hby hml hown hnm hZ e0 X0
  have N0 := Fr.nil n0
  obtain ⟨_, X2, e2, st2⟩ := instNo X0 hx hZ hown (ow hw 69 rfl) e0 H3 (own_nsn (ow hw 70 rfl) (ow hw 223 rfl) (NS.step (ow hw 70 rfl) (NS.step (ow hw 71 rfl) (NS.step (ow hw 72 rfl) (own_nsr (ow hw 73 rfl) (ow hw 223 rfl) (by decide)) (by decide)) (by decide)) (by decide)) (by decide)) (g := (mkF m 1 #[rv a1, un] [(.ref a1)])) rfl rfl (hb hby d7_1)
  obtain ⟨_, X4, e4, st4⟩ := instNo X2 hx hZ hown (ow hw 74 rfl) e2 H3 (own_nsn (ow hw 70 rfl) (ow hw 324 rfl) (NS.step (ow hw 70 rfl) (NS.step (ow hw 71 rfl) (NS.step (ow hw 72 rfl) (own_nsr (ow hw 73 rfl) (ow hw 324 rfl) (by decide)) (by decide)) (by decide)) (by decide)) (by decide)) (g := (mkF m 8 #[rv a1, un] [(.ref a1)])) rfl rfl (hb hby d7_8)
  obtain ⟨_, _, _, X6, hQ6, st6⟩ := cI X4 hx hZ hw hown (x := y9) (y := y8) 75 rfl 76 rfl 77 rfl 78 rfl 79 rfl 80 rfl 81 rfl 82 rfl 83 rfl 10 rfl (by decide) (W := 0) (r8_2 hw a1 O0 H5) (by decide) (by decide) H3 e4 (g := (mkF m 32 #[rv a1, un] [(.ref a1)])) rfl (by rw [hml]; rfl) (argsL := []) (rest := []) (lenOf pd23 rfl) rfl wf (hb hby d7_32) rfl (by decide) (by decide)
  obtain ⟨rfl, N6q, e6⟩ := hQ6
  have N6 := Fr.app N0 N6q
  obtain ⟨T18, _, _, X18, hQ18, st18⟩ := cI X6 hx hZ hw hown (x := y29) (y := y25) 189 rfl 190 rfl 191 rfl 192 rfl 193 rfl 194 rfl 195 rfl 82 rfl 196 rfl 10 rfl (by decide) (W := 0) (r25_1 hw a1 a7 a10 k12 a13 a14 O0 H8 H5 H9 H11 H15 H16 H17) (by decide) (by decide) H3 e6 (g := (mkF m 45 #[rv a1, un] [(.ref a1)])) rfl (by rw [hml]; rfl) (argsL := []) (rest := []) (lenOf pd15 rfl) rfl wf (hb hby d7_45) rfl (by decide) (by decide)
  obtain ⟨b18_0, k18_0, rfl, N18q, K18, _, f18_2, _, _⟩ := hQ18
  have N18 := Fr.app N6 N18q
  have O_K18 : Old Z n0 T18.heap := O0.keep K18 all0
  have Kp_K18 : Keep h0 T18.heap [] := (Keep.refl h0 []).trans K18 all0
  obtain ⟨T19, _, _, X19, hQ19, st19⟩ := cS X18 hx hZ hw hown (y := y30) 219 rfl 220 rfl 63 rfl 221 rfl (by decide) (W := 0) (r30_1 hw b18_0 k18_0 a13 a14 O_K18 f18_2) (by decide) (by decide) rfl (g := (mkF m 50 #[rv a1, un] [(.ref b18_0)])) rfl (by rw [hml]; rfl) (argsL := [(.ref b18_0)]) (rest := []) (lenOf pd8 rfl) rfl wf (hb hby d7_50) rfl (by decide) (by decide)
  obtain ⟨b19_0, rfl, N19q, K19, lo19_1, f19_2, f19_3, f19_4⟩ := hQ19
  have N19 := Fr.app N18 N19q
  have Kp_K19 : Keep h0 T19.heap [] := Kp_K18.trans K19 all0
  have z20 : h0.size ≤ b19_0 := Nat.le_trans Kp_K18.1 lo19_1
  refine fin (Q := r7_2Q Z a1 a7 a10 k12 a13 a14 h0 n0) (rm := (rM 6 2 4 76)) Bd X19 rfl (some (.ref b19_0)) nofun ⟨b19_0, rfl, N19, Kp_K19, z20, f19_2, f19_3, f19_4⟩ (by decide) (by decide) fun fs hr => ?_
  show St p e below s₁ m 0 #[rv a1, un] [] _
  refine aN X0 hx hby d7_0 rfl rfl ?_
  refine st2 _ ?_
  refine XS.ifNo X2.here hx rfl (hb hby d7_4) rfl ((if0 _ _).trans (teq (rfl : (0:Int32) = (0:Int32))).2) ?_
  refine aN X2 hx hby d7_7 rfl rfl ?_
  refine st4 _ ?_
  refine XS.ifYes X4.here hx rfl (pc0 := 11) (pc' := 31) rfl (hb hby d7_11) rfl ((if0 _ _).trans (teq (rfl : (0:Int32) = (0:Int32))).1) (by decide) (by decide) ?_
  refine aN X4 hx hby d7_31 rfl rfl ?_
  refine st6.trans ?_
  refine XS.ifYes X6.here hx rfl (pc0 := 37) (pc' := 44) rfl (hb hby d7_37) rfl ((if0 _ _).trans (teq (rfl : (0:Int32) = (0:Int32))).1) (by decide) (by decide) ?_
  refine aN X6 hx hby d7_44 rfl rfl ?_
  refine st18.trans ?_
  refine st19 _ ?_
  exact retA X19 hx Bd.returns rfl rfl (hb hby d7_53) hr
def r6_2Q (Z : State) (a1 a4 a7 : Addr) (k9 : ClassId) (a10 a11 : Addr) (h0 : Heap) (n0 : Nat) : QT := fun v h L => ∃ (b15_0 : Addr), v = some (.ref b15_0) ∧ Fr n0 L ∧ Keep h0 h [] ∧ h0.size ≤ b15_0 ∧ xE21 Z h b15_0 ∧ xF20 Z h b15_0 (.ref a10) ∧ xF22 Z h b15_0 (.ref a11)
theorem r6_2 (hw : HW a0 Z) (a1 a4 a7 : Addr) (k9 : ClassId) (a10 a11 : Addr) (O0 : Old Z n0 h0) (H2 : xE1 Z h0 a1) (H3 : xF3 Z h0 a1 (.int (2:Int32))) (H5 : xF2 Z h0 a1 (.ref a4)) (H6 : xE19 Z h0 a4) (H8 : Mi Z "[Ljava/lang/Object;" a7) (H12 : Arv Z h0 a4 k9 (.object "java/lang/Object") (10:Int32) [(.ref a10), (.ref a11), .null, .null, .null, .null, .null, .null, .null, .null] .null) (H13 : xE5 Z h0 a10) (H14 : xE5 Z h0 a11) :
    MF l y6 jdk_40_method_48_code 1 (some (.object "java/util/List")) [] (rM 7 2 4 89) Z #[(.ref a1)] h0 (r6_2Q Z a1 a4 a7 k9 a10 a11 h0 n0) := by
  refine own_in (pq pn15) #[rv a1] (fun _ => by first | (simp [entryFrame, mkF, argsToLocals, Value.category]; done) | rfl) ?_
  intro p e s m below meth c s₁ Bd hx hby hml hown hnm hZ e0 X0
  have N0 := Fr.nil n0
  obtain ⟨T15, _, _, X15, hQ15, st15⟩ := cS X0 hx hZ hw hown (y := y7) 65 rfl 66 rfl 67 rfl 68 rfl (by decide) (W := 0) (r7_2 hw a1 a4 a7 k9 a10 a11 O0 H2 H3 H5 H6 H8 H12 H13 H14) (by decide) (by decide) e0 (g := (mkF m 1 #[rv a1] [(.ref a1)])) rfl (by rw [hml]; rfl) (argsL := [(.ref a1)]) (rest := []) (lenOf pd5 rfl) rfl wf (hb hby d6_1) rfl (by decide) (by decide)
  obtain ⟨b15_0, rfl, N15q, K15, lo15_1, f15_2, f15_3, f15_4⟩ := hQ15
  have N15 := Fr.app N0 N15q
  have Kp_K15 : Keep h0 T15.heap [] := (Keep.refl h0 []).trans K15 all0
  have z16 : h0.size ≤ b15_0 := Nat.le_trans (Keep.refl h0 []).1 lo15_1
  refine fin (Q := r6_2Q Z a1 a4 a7 k9 a10 a11 h0 n0) (rm := (rM 7 2 4 89)) Bd X15 rfl (some (.ref b15_0)) nofun ⟨b15_0, rfl, N15, Kp_K15, z16, f15_2, f15_3, f15_4⟩ (by decide) (by decide) fun fs hr => ?_
  show St p e below s₁ m 0 #[rv a1] [] _
  refine aN X0 hx hby d6_0 rfl rfl ?_
  refine st15 _ ?_
  exact retA X15 hx Bd.returns rfl rfl (hb hby d6_4) hr
def r12_2Q (Z : State) (a1 a2 : Addr) (h0 : Heap) (n0 : Nat) : QT := fun v h L => v = none ∧ Fr n0 L ∧ Keep h0 h [a1] ∧ xF11 Z h a1 (.ref a2) ∧ xE12 Z h a1 ∧ xF13 Z h a1 (.int (-1:Int32)) ∧ xF14 Z h a1 (.int (2:Int32)) ∧ xF15 Z h a1 (.int (0:Int32))
theorem r12_2 (hw : HW a0 Z) (a1 a2 : Addr) (O0 : Old Z n0 h0) (H3 : xF11 Z h0 a1 .null) (H4 : xE12 Z h0 a1) (H6 : n0 ≤ a1) (H10 : xF13 Z h0 a1 (.int (0:Int32))) (H19 : xF0 Z h0 a2 (.int (2:Int32))) (H20 : a2 ≠ a1) (H23 : xF14 Z h0 a1 (.int (0:Int32))) (H28 : xF15 Z h0 a1 (.int (0:Int32))) :
    MF l y12 cJ49_1 2 none [] (rM 1 0 0 12) Z #[(.ref a1), (.ref a2)] h0 (r12_2Q Z a1 a2 h0 n0) := by
  refine own_in (pq pn7) #[rv a1, rv a2] (fun _ => by first | (simp [entryFrame, mkF, argsToLocals, Value.category]; done) | rfl) ?_
  intro p e s m below meth c s₁ Bd hx hby hml hown hnm hZ e0 X0
  have N0 := Fr.nil n0
  obtain ⟨_, h5, X5, e5, W5, st5⟩ := pF X0 hx hZ hown (ow hw 108 rfl) e0 H3 H4 (Or.inr ⟨(ow hw 109 rfl), rfl, hnm⟩) (ow hw 102 rfl) (ty := (.object "java/util/ArrayList")) (by decide) rfl rfl (g := (mkF m 2 #[rv a1, rv a2] [(.ref a2), (.ref a1)])) rfl rfl (hb hby d12_2)
  have Kp_W5 : Keep h0 h5 [a1] := (Keep.refl h0 [a1]).wr W5 (mI 0 rfl)
  have N7 := Fr.snoc X5 N0 H6
  have f8 := H3.same W5
  obtain ⟨_, X9, e9, st9⟩ := initO X5 hx hZ hown (ow hw 110 rfl) (ow hw 27 rfl) (ow hw 28 rfl) e5 (g := (mkF m 6 #[rv a1, rv a2] [(.ref a1)])) rfl (by rw [hml]; rfl) rfl (hb hby d12_6) (by decide) (W := 0) wf (by decide)
  have f11 := (H4.wr W5)
  have f12 := (H10.other W5 (Or.inr (sn2 hw)))
  obtain ⟨_, h13, X13, e13, W13, st13⟩ := pF X9 hx hZ hown (ow hw 111 rfl) e9 f12 f11 (Or.inl (ow hw 112 rfl)) (ow hw 102 rfl) (ty := .int) (by decide) rfl rfl (g := (mkF m 11 #[rv a1, rv a2] [(.int (-1:Int32)), (.ref a1)])) rfl rfl (hb hby d12_11)
  have Kp_W13 : Keep h0 h13 [a1] := Kp_W5.wr W13 (mI 0 rfl)
  have N14 := Fr.snoc X13 N7 H6
  have f15 := f12.same W13
  have f16 := (f11.wr W13)
  have f17 := (f8.other W13 (Or.inr (sn3 hw)))
  obtain ⟨_, X18, e18, st18⟩ := gF X13 hx hZ hown (ow hw 108 rfl) e13 f17 (g := (mkF m 16 #[rv a1, rv a2] [(.ref a1), (.ref a1)])) rfl rfl (hb hby d12_16)
  have f21 := ((H19.other W5 (Or.inl H20)).other W13 (Or.inl H20))
  obtain ⟨_, X22, e22, st22⟩ := getF X18 hx hZ hown (host := "") (Or.inl (ow hw 113 rfl)) (Via.of (ow hw 114 rfl)) e18 f21 (g := (mkF m 19 #[rv a1, rv a2] [(.ref a2), (.ref a1)])) rfl rfl (hb hby d12_19)
  have f24 := ((H23.other W5 (Or.inr (sn4 hw))).other W13 (Or.inr (sn5 hw)))
  obtain ⟨_, h25, X25, e25, W25, st25⟩ := pF X22 hx hZ hown (ow hw 115 rfl) e22 f24 f16 (Or.inl (ow hw 116 rfl)) (ow hw 102 rfl) (ty := .int) (by decide) rfl rfl (g := (mkF m 22 #[rv a1, rv a2] [(.int (2:Int32)), (.ref a1)])) rfl rfl (hb hby d12_22)
  have Kp_W25 : Keep h0 h25 [a1] := Kp_W13.wr W25 (mI 0 rfl)
  have N26 := Fr.snoc X25 N14 H6
  have f27 := f24.same W25
  have f29 := (f16.wr W25)
  have f30 := (((H28.other W5 (Or.inr (sn6 hw))).other W13 (Or.inr (sn7 hw))).other W25 (Or.inr (sn8 hw)))
  have f31 := (f17.other W25 (Or.inr (sn9 hw)))
  have f32 := (f15.other W25 (Or.inr (sn10 hw)))
  refine fin (Q := r12_2Q Z a1 a2 h0 n0) (rm := (rM 1 0 0 12)) Bd X25 e25 (none) (fun _ => rfl) ⟨rfl, N26, Kp_W25, f31, f29, f32, f27, f30⟩ (by decide) (by decide) fun fs hr => ?_
  show St p e below s₁ m 0 #[rv a1, rv a2] [] _
  refine aN X0 hx hby d12_0 rfl rfl ?_
  refine aN X0 hx hby d12_1 rfl rfl ?_
  refine st5 _ ?_
  refine aN X5 hx hby d12_5 rfl rfl ?_
  refine st9 _ ?_
  refine aN X9 hx hby d12_9 rfl rfl ?_
  refine iC X9 hx hby d12_10 ?_
  refine st13 _ ?_
  refine aN X13 hx hby d12_14 rfl rfl ?_
  refine aN X13 hx hby d12_15 rfl rfl ?_
  refine st18 _ ?_
  refine st22 _ ?_
  refine st25 _ ?_
  exact X25.returnOut hx Bd.returns (hb hby d12_25) hr
def r11_2Q (Z : State) (a1 : Addr) (h0 : Heap) (n0 : Nat) : QT := fun v h L => ∃ (b2 : Addr), v = some (.ref b2) ∧ Fr n0 L ∧ Keep h0 h [] ∧ h0.size ≤ b2 ∧ xE12 Z h b2 ∧ xF11 Z h b2 (.ref a1) ∧ xF13 Z h b2 (.int (-1:Int32)) ∧ xF14 Z h b2 (.int (2:Int32)) ∧ xF15 Z h b2 (.int (0:Int32))
theorem r11_2 (hw : HW a0 Z) (a1 : Addr) (O0 : Old Z n0 h0) (H6 : xF0 Z h0 a1 (.int (2:Int32))) (H8 : xE1 Z h0 a1) :
    MF l y11 cJ38_55 1 (some (.object "java/util/Iterator")) [] (rM 2 1 4 26) Z #[(.ref a1)] h0 (r11_2Q Z a1 h0 n0) := by
  refine own_in (pq pn10) #[rv a1] (fun _ => by first | (simp [entryFrame, mkF, argsToLocals, Value.category]; done) | rfl) ?_
  intro p e s m below meth c s₁ Bd hx hby hml hown hnm hZ e0 X0
  have N0 := Fr.nil n0
  obtain ⟨_, h2, X2, e2, E2, A2, D2, -, st2⟩ := newO X0 hx hZ hown (ow hw 101 rfl) (ow hw 102 rfl) (ow hw 103 rfl) e0 (g := (mkF m 0 #[rv a1] [])) rfl (hb hby d11_0) (by decide) (by decide)
  obtain ⟨b2, g2⟩ : ∃ z, z = h0.size := ⟨_, rfl⟩
  rw [← g2] at A2 D2 st2
  have O_E2 : Old Z n0 h2 := O0.ext E2
  have Kp_E2 : Keep h0 h2 [] := (Keep.refl h0 []).ext E2
  have f3 : xF11 Z h2 b2 .null := D2 (Or.inr (ow hw 109 rfl)) (ty := (.object "java/util/ArrayList")) (by decide)
  have g4 : n0 ≤ b2 := Nat.le_trans (Nat.le_trans (Nat.le_of_eq O0.1.symm) O0.2.1) (Nat.le_of_eq g2.symm)
  have f5 : xF13 Z h2 b2 (.int (0:Int32)) := D2 (Or.inl (ow hw 112 rfl)) (ty := .int) (by decide)
  have f7 := (H6.ext E2)
  have ne10 : a1 ≠ b2 := Nat.ne_of_lt (Nat.lt_of_lt_of_le H8.lt (Nat.le_of_eq g2.symm))
  have f11 : xF14 Z h2 b2 (.int (0:Int32)) := D2 (Or.inl (ow hw 116 rfl)) (ty := .int) (by decide)
  have f12 : xF15 Z h2 b2 (.int (0:Int32)) := D2 (Or.inl (ow hw 127 rfl)) (ty := .int) (by decide)
  obtain ⟨T13, _, _, X13, hQ13, st13⟩ := cP X2 hx hZ hw hown (y := y12) rfl 104 rfl 105 rfl 107 rfl 103 rfl (by decide) (W := 1) (r12_2 hw b2 a1 O_E2 f3 A2 g4 f5 f7 ne10 f11 f12) (by decide) (by decide) e2 (g := (mkF m 5 #[rv a1] [(.ref a1), (.ref b2), (.ref b2)])) rfl (by rw [hml]; rfl) (argsL := [(.ref a1)]) (rest := [(.ref b2)]) (lenOf pd10 rfl) rfl wf (hb hby d11_5) rfl (by decide) (by decide)
  obtain ⟨rfl, N13q, K13, f13_1, f13_2, f13_3, f13_4, f13_5⟩ := hQ13
  have N13 := Fr.app N0 N13q
  have z14 : h0.size ≤ b2 := Nat.le_trans (Keep.refl h0 []).1 (Nat.le_of_eq g2.symm)
  have Kp_K13 : Keep h0 T13.heap [] := Kp_E2.trans K13 (allS (Or.inr z14) all0)
  refine fin (Q := r11_2Q Z a1 h0 n0) (rm := (rM 2 1 4 26)) Bd X13 rfl (some (.ref b2)) nofun ⟨b2, rfl, N13, Kp_K13, z14, f13_2, f13_1, f13_3, f13_4, f13_5⟩ (by decide) (by decide) fun fs hr => ?_
  show St p e below s₁ m 0 #[rv a1] [] _
  refine st2 _ ?_
  refine XS.dup X2.here hx rfl (hb hby d11_3) rfl rfl ?_
  refine aN X2 hx hby d11_4 rfl rfl ?_
  refine st13.trans ?_
  exact retA X13 hx Bd.returns rfl rfl (hb hby d11_8) hr
theorem d14_14 : dk cJ49_2 14 (.iconst 1) 1 := by decide +kernel
theorem d14_15 : dk cJ49_2 15 (.goto 4) 3 := by decide +kernel
def r14_2Q (Z : State) (a1 a4 : Addr) (h0 : Heap) (n0 : Nat) : QT := fun v h L => v = some (.int (1:Int32)) ∧ Fr n0 L ∧ h = h0
theorem r14_2 (hw : HW a0 Z) (a1 a4 : Addr) (O0 : Old Z n0 h0) (H2 : xF15 Z h0 a1 (.int (0:Int32))) (H5 : xF11 Z h0 a1 (.ref a4)) (H7 : xF3 Z h0 a4 (.int (2:Int32))) :
    MF l y14 cJ49_2 1 (some .boolean) [] (rM 0 0 0 0) Z #[(.ref a1)] h0 (r14_2Q Z a1 a4 h0 n0) := by
  refine own_in (pq pn7) #[rv a1] (fun _ => by first | (simp [entryFrame, mkF, argsToLocals, Value.category]; done) | rfl) ?_
  intro p e s m below meth c s₁ Bd hx hby hml hown hnm hZ e0 X0
  have N0 := Fr.nil n0
  obtain ⟨_, X3, e3, st3⟩ := gF X0 hx hZ hown (ow hw 126 rfl) e0 H2 (g := (mkF m 1 #[rv a1] [(.ref a1)])) rfl rfl (hb hby d14_1)
  obtain ⟨_, X6, e6, st6⟩ := gF X3 hx hZ hown (ow hw 108 rfl) e3 H5 (g := (mkF m 5 #[rv a1] [(.ref a1), (.int (0:Int32))])) rfl rfl (hb hby d14_5)
  obtain ⟨_, X8, e8, st8⟩ := getF X6 hx hZ hown (Or.inr (ow hw 128 rfl)) Via.refl e6 H7 (g := (mkF m 8 #[rv a1] [(.ref a4), (.int (0:Int32))])) rfl rfl (hb hby d14_8)
  refine fin (Q := r14_2Q Z a1 a4 h0 n0) (rm := (rM 0 0 0 0)) Bd X8 e8 (some (.int (1:Int32))) nofun ⟨rfl, N0, rfl⟩ (by decide) (by decide) fun fs hr => ?_
  show St p e below s₁ m 0 #[rv a1] [] _
  refine aN X0 hx hby d14_0 rfl rfl ?_
  refine st3 _ ?_
  refine aN X3 hx hby d14_4 rfl rfl ?_
  refine st6 _ ?_
  refine st8 _ ?_
  refine XS.icmpNo X8.here hx rfl (hb hby d14_11) rfl (feq (by decide : ¬ ((0:Int32) = (2:Int32)))).1 ?_
  refine iC X8 hx hby d14_14 ?_
  refine XS.goto X8.here hx rfl (pc0 := 15) (pc' := 19) rfl (hb hby d14_15) (by decide) (by decide) ?_
  exact retN X8 hx (t := .boolean) Bd.returns (by simp) (hb hby d14_19) hr
theorem d5_79 : dk cP16_1 79 (.aload 8) 2 := by decide +kernel
theorem d5_81 : dk cP16_1 81 (.invokeinterface 53 1) 5 := by decide +kernel
theorem d35_0 : dk cJ49_3 0 (.aload_n 0) 1 := by decide +kernel
theorem d35_1 : dk cJ49_3 1 (.invokevirtual 31) 3 := by decide +kernel
theorem d36_0 : dk cJ49_6 0 (.aload_n 0) 1 := by decide +kernel
theorem d36_1 : dk cJ49_6 1 (.getfield 1) 3 := by decide +kernel
theorem d36_4 : dk cJ49_6 4 (.getfield 17) 3 := by decide +kernel
theorem d36_7 : dk cJ49_6 7 (.aload_n 0) 1 := by decide +kernel
theorem d36_8 : dk cJ49_6 8 (.getfield 22) 3 := by decide +kernel
theorem d36_11 : dk cJ49_6 11 (.if_icmp .eq 11) 3 := by decide +kernel
theorem d36_22 : dk cJ49_6 22 .return_ 1 := by decide +kernel
abbrev y36 : MethodName := ⟨"java/util/ArrayList$Itr", "checkForComodification", "()V"⟩
def r36_1Q (Z : State) (a1 a2 : Addr) (h0 : Heap) (n0 : Nat) : QT := fun v h L => v = none ∧ Fr n0 L ∧ h = h0
theorem r36_1 (hw : HW a0 Z) (a1 a2 : Addr) (O0 : Old Z n0 h0) (H3 : xF11 Z h0 a1 (.ref a2)) (H5 : xF0 Z h0 a2 (.int (2:Int32))) (H7 : xF14 Z h0 a1 (.int (2:Int32))) :
    MF l y36 cJ49_6 1 none [] (rM 0 0 0 0) Z #[(.ref a1)] h0 (r36_1Q Z a1 a2 h0 n0) := by
  refine own_in (pq pn7) #[rv a1] (fun _ => by first | (simp [entryFrame, mkF, argsToLocals, Value.category]; done) | rfl) ?_
  intro p e s m below meth c s₁ Bd hx hby hml hown hnm hZ e0 X0
  have N0 := Fr.nil n0
  obtain ⟨_, X4, e4, st4⟩ := gF X0 hx hZ hown (ow hw 108 rfl) e0 H3 (g := (mkF m 1 #[rv a1] [(.ref a1)])) rfl rfl (hb hby d36_1)
  obtain ⟨_, X6, e6, st6⟩ := getF X4 hx hZ hown (host := "") (Or.inl (ow hw 113 rfl)) (Via.of (ow hw 114 rfl)) e4 H5 (g := (mkF m 4 #[rv a1] [(.ref a2)])) rfl rfl (hb hby d36_4)
  obtain ⟨_, X8, e8, st8⟩ := gF X6 hx hZ hown (ow hw 115 rfl) e6 H7 (g := (mkF m 8 #[rv a1] [(.ref a1), (.int (2:Int32))])) rfl rfl (hb hby d36_8)
  refine fin (Q := r36_1Q Z a1 a2 h0 n0) (rm := (rM 0 0 0 0)) Bd X8 e8 (none) (fun _ => rfl) ⟨rfl, N0, rfl⟩ (by decide) (by decide) fun fs hr => ?_
  show St p e below s₁ m 0 #[rv a1] [] _
  refine aN X0 hx hby d36_0 rfl rfl ?_
  refine st4 _ ?_
  refine st6 _ ?_
  refine aN X6 hx hby d36_7 rfl rfl ?_
  refine st8 _ ?_
  refine XS.icmpYes X8.here hx rfl (pc0 := 11) (pc' := 22) rfl (hb hby d36_11) rfl (teq (rfl : (2:Int32) = (2:Int32))).1 (by decide) (by decide) ?_
  exact X8.returnOut hx Bd.returns (hb hby d36_22) hr
theorem d35_4 : dk cJ49_3 4 (.aload_n 0) 1 := by decide +kernel
theorem d35_5 : dk cJ49_3 5 (.getfield 25) 3 := by decide +kernel
theorem d35_8 : dk cJ49_3 8 (.istore_n 1) 1 := by decide +kernel
theorem d35_9 : dk cJ49_3 9 (.iload_n 1) 1 := by decide +kernel
theorem d35_10 : dk cJ49_3 10 (.aload_n 0) 1 := by decide +kernel
theorem d35_11 : dk cJ49_3 11 (.getfield 1) 3 := by decide +kernel
theorem d35_14 : dk cJ49_3 14 (.getfield 28) 3 := by decide +kernel
theorem d35_17 : dk cJ49_3 17 (.if_icmp .lt 11) 3 := by decide +kernel
theorem d35_28 : dk cJ49_3 28 (.aload_n 0) 1 := by decide +kernel
theorem d35_29 : dk cJ49_3 29 (.getfield 1) 3 := by decide +kernel
theorem d35_32 : dk cJ49_3 32 (.getfield 37) 3 := by decide +kernel
theorem d35_35 : dk cJ49_3 35 (.astore_n 2) 1 := by decide +kernel
theorem d35_36 : dk cJ49_3 36 (.iload_n 1) 1 := by decide +kernel
theorem d35_37 : dk cJ49_3 37 (.aload_n 2) 1 := by decide +kernel
theorem d35_38 : dk cJ49_3 38 .arraylength 1 := by decide +kernel
theorem d35_39 : dk cJ49_3 39 (.if_icmp .lt 11) 3 := by decide +kernel
theorem d35_50 : dk cJ49_3 50 (.aload_n 0) 1 := by decide +kernel
theorem d35_51 : dk cJ49_3 51 (.iload_n 1) 1 := by decide +kernel
theorem d35_52 : dk cJ49_3 52 (.iconst 1) 1 := by decide +kernel
theorem d35_53 : dk cJ49_3 53 .iadd 1 := by decide +kernel
theorem d35_54 : dk cJ49_3 54 (.putfield 25) 3 := by decide +kernel
theorem d35_57 : dk cJ49_3 57 (.aload_n 2) 1 := by decide +kernel
theorem d35_58 : dk cJ49_3 58 (.aload_n 0) 1 := by decide +kernel
theorem d35_59 : dk cJ49_3 59 (.iload_n 1) 1 := by decide +kernel
theorem d35_60 : dk cJ49_3 60 .dup_x1 1 := by decide +kernel
theorem d35_61 : dk cJ49_3 61 (.putfield 13) 3 := by decide +kernel
theorem d35_64 : dk cJ49_3 64 .aaload 1 := by decide +kernel
theorem d35_65 : dk cJ49_3 65 .areturn 1 := by decide +kernel
abbrev y35 : MethodName := ⟨"java/util/ArrayList$Itr", "next", "()Ljava/lang/Object;"⟩
def r35_1Q (Z : State) (a1 a3 a14 : Addr) (k18 : ClassId) (a19 a20 : Addr) (h0 : Heap) (n0 : Nat) : QT := fun v h L => v = some (.ref a19) ∧ Fr n0 L ∧ Keep h0 h [a1] ∧ xE12 Z h a1 ∧ xF11 Z h a1 (.ref a3) ∧ xF14 Z h a1 (.int (2:Int32)) ∧ xF15 Z h a1 (.int (1:Int32)) ∧ xF13 Z h a1 (.int (0:Int32))
theorem r35_1 (hw : HW a0 Z) (a1 a3 a14 : Addr) (k18 : ClassId) (a19 a20 : Addr) (O0 : Old Z n0 h0) (H2 : xE12 Z h0 a1) (H4 : xF11 Z h0 a1 (.ref a3)) (H5 : xF0 Z h0 a3 (.int (2:Int32))) (H6 : xF14 Z h0 a1 (.int (2:Int32))) (H8 : xF15 Z h0 a1 (.int (0:Int32))) (H11 : xF3 Z h0 a3 (.int (2:Int32))) (H15 : xF2 Z h0 a3 (.ref a14)) (H21 : Arv Z h0 a14 k18 (.object "java/lang/Object") (10:Int32) [(.ref a19), (.ref a20), .null, .null, .null, .null, .null, .null, .null, .null] .null) (H23 : n0 ≤ a1) (H26 : xF13 Z h0 a1 (.int (-1:Int32))) (H33 : a14 ≠ a1) :
    MF l y35 cJ49_3 3 (some (.object "java/lang/Object")) [] (rM 1 0 0 12) Z #[(.ref a1)] h0 (r35_1Q Z a1 a3 a14 k18 a19 a20 h0 n0) := by
  refine own_in (pq pn7) #[rv a1, un, un] (fun _ => by first | (simp [entryFrame, mkF, argsToLocals, Value.category]; done) | rfl) ?_
  intro p e s m below meth c s₁ Bd hx hby hml hown hnm hZ e0 X0
  have N0 := Fr.nil n0
  obtain ⟨_, _, _, X7, hQ7, st7⟩ := cV X0 hx hZ hw hown (y := y36) 259 rfl 260 rfl 262 rfl 261 rfl 263 rfl 103 rfl (by decide) (W := 0) (r36_1 hw a1 a3 O0 H4 H5 H6) (by decide) (by decide) H2 e0 (g := (mkF m 1 #[rv a1, un, un] [(.ref a1)])) rfl (by rw [hml]; rfl) (argsL := []) (rest := []) (lenOf pd22 rfl) rfl wf (hb hby d35_1) rfl (by decide) (by decide)
  obtain ⟨rfl, N7q, e7⟩ := hQ7
  have N7 := Fr.app N0 N7q
  obtain ⟨_, X9, e9, st9⟩ := gF X7 hx hZ hown (ow hw 126 rfl) e7 H8 (g := (mkF m 5 #[rv a1, un, un] [(.ref a1)])) rfl rfl (hb hby d35_5)
  obtain ⟨_, X10, e10, st10⟩ := gF X9 hx hZ hown (ow hw 108 rfl) e9 H4 (g := (mkF m 11 #[rv a1, iv (0:Int32), un] [(.ref a1), (.int (0:Int32))])) rfl rfl (hb hby d35_11)
  obtain ⟨_, X12, e12, st12⟩ := getF X10 hx hZ hown (Or.inr (ow hw 128 rfl)) Via.refl e10 H11 (g := (mkF m 14 #[rv a1, iv (0:Int32), un] [(.ref a3), (.int (0:Int32))])) rfl rfl (hb hby d35_14)
  obtain ⟨_, X13, e13, st13⟩ := gF X12 hx hZ hown (ow hw 108 rfl) e12 H4 (g := (mkF m 29 #[rv a1, iv (0:Int32), un] [(.ref a1)])) rfl rfl (hb hby d35_29)
  obtain ⟨_, X16, e16, st16⟩ := gF X13 hx hZ hown (ow hw 264 rfl) e13 H15 (g := (mkF m 32 #[rv a1, iv (0:Int32), un] [(.ref a3)])) rfl rfl (hb hby d35_32)
  obtain ⟨_, Ar17, _, S17, M17, _, _⟩ := id H21
  obtain ⟨T22, h22, X22, e22, W22, st22⟩ := pF X16 hx hZ hown (ow hw 126 rfl) e16 H8 H2 (Or.inl (ow hw 127 rfl)) (ow hw 102 rfl) (ty := .int) (by decide) rfl rfl (g := (mkF m 54 #[rv a1, iv (0:Int32), rv a14] [(.int (1:Int32)), (.ref a1)])) rfl rfl (hb hby d35_54)
  have Kp_W22 : Keep h0 h22 [a1] := (Keep.refl h0 [a1]).wr W22 (mI 0 rfl)
  have N24 := Fr.snoc X22 N7 H23
  have f25 := H8.same W22
  have f27 := (H2.wr W22)
  have f28 := (H26.other W22 (Or.inr (sn41 hw)))
  obtain ⟨_, h29, X29, e29, W29, st29⟩ := pF X22 hx hZ hown (ow hw 111 rfl) e22 f28 f27 (Or.inl (ow hw 112 rfl)) (ow hw 102 rfl) (ty := .int) (by decide) rfl rfl (g := (mkF m 61 #[rv a1, iv (0:Int32), rv a14] [(.int (0:Int32)), (.ref a1), (.int (0:Int32)), (.ref a14)])) rfl rfl (hb hby d35_61)
  have Kp_W29 : Keep h0 h29 [a1] := Kp_W22.wr W29 (mI 0 rfl)
  have N30 := Fr.snoc X29 N24 H23
  have f31 := f28.same W29
  have f34 := ((H21.other W22 H33).other W29 H33)
  obtain ⟨cl32, Ar32, _, S32, _, H32, _⟩ := id f34
  have hin32 : ¬ ((0:Int32) < 0 ∨ cl32.slots.size ≤ ((0:Int32)).toNatClampNeg) := inb_of S32 ⟨by decide, by decide⟩
  have f35 := (f27.wr W29)
  have f36 := ((H4.other W22 (Or.inr (sn42 hw))).other W29 (Or.inr (sn3 hw)))
  have f37 := ((H6.other W22 (Or.inr (sn43 hw))).other W29 (Or.inr (sn5 hw)))
  have f38 := (f25.other W29 (Or.inr (sn7 hw)))
  refine fin (Q := r35_1Q Z a1 a3 a14 k18 a19 a20 h0 n0) (rm := (rM 1 0 0 12)) Bd X29 e29 (some (.ref a19)) nofun ⟨rfl, N30, Kp_W29, f35, f36, f37, f38, f31⟩ (by decide) (by decide) fun fs hr => ?_
  show St p e below s₁ m 0 #[rv a1, un, un] [] _
  refine aN X0 hx hby d35_0 rfl rfl ?_
  refine st7.trans ?_
  refine aN X7 hx hby d35_4 rfl rfl ?_
  refine st9 _ ?_
  refine XS.istoreN X9.here hx rfl (hb hby d35_8) rfl (l' := #[rv a1, iv (0:Int32), un]) rfl ?_
  refine iN X9 hx hby d35_9 rfl ?_
  refine aN X9 hx hby d35_10 rfl rfl ?_
  refine st10 _ ?_
  refine st12 _ ?_
  refine XS.icmpYes X12.here hx rfl (pc0 := 17) (pc' := 28) rfl (hb hby d35_17) rfl (tlt (by decide : (0:Int32) < (2:Int32))).1 (by decide) (by decide) ?_
  refine aN X12 hx hby d35_28 rfl rfl ?_
  refine st13 _ ?_
  refine st16 _ ?_
  refine XS.astoreN X16.here hx rfl (hb hby d35_35) rfl rfl (l' := #[rv a1, iv (0:Int32), rv a14]) rfl ?_
  refine iN X16 hx hby d35_36 rfl ?_
  refine aN X16 hx hby d35_37 rfl rfl ?_
  refine X16.arraylength hx (by rw [e16]; exact Ar17.1) (State.isArrayOf_alike hZ.alike Ar17.2.1) (g := (mkF m 38 #[rv a1, iv (0:Int32), rv a14] [(.ref a14), (.int (0:Int32))])) rfl rfl (hb hby d35_38) _ ?_
  rw [len_of S17 M17]
  refine XS.icmpYes X16.here hx rfl (pc0 := 39) (pc' := 50) rfl (hb hby d35_39) rfl (tlt (by decide : (0:Int32) < (10:Int32))).1 (by decide) (by decide) ?_
  refine aN X16 hx hby d35_50 rfl rfl ?_
  refine iN X16 hx hby d35_51 rfl ?_
  refine iC X16 hx hby d35_52 ?_
  refine XS.iadd X16.here hx rfl (hb hby d35_53) rfl ?_
  refine st22 _ ?_
  refine aN X22 hx hby d35_57 rfl rfl ?_
  refine aN X22 hx hby d35_58 rfl rfl ?_
  show St p e below T22 m 59 #[rv a1, iv (0:Int32), rv a14] [(.ref a1), (.ref a14)] _
  refine iN X22 hx hby d35_59 rfl ?_
  refine XS.dupX1 X22.here hx rfl (hb hby d35_60) rfl rfl rfl ?_
  refine st29 _ ?_
  refine X29.aaload hx (j := (0:Int32)) (v := (.ref a19)) (by rw [e29]; exact Ar32.1) (State.isArrayOf_alike hZ.alike Ar32.2.1) rfl Ar32.2.2 hin32 (Has.at H32 hin32 rfl) (g := (mkF m 64 #[rv a1, iv (0:Int32), rv a14] [(.int (0:Int32)), (.ref a14)])) rfl rfl (hb hby d35_64) _ ?_
  exact retA X29 hx Bd.returns rfl rfl (hb hby d35_65) hr
theorem pd19 : parseMethodDescriptor "()Ljava/lang/Object;" = some ⟨[], some (.object "java/lang/Object")⟩ := by decide +kernel
abbrev y37 : MethodName := ⟨"java/util/Iterator", "next", "()Ljava/lang/Object;"⟩
theorem d5_86 : dk cP16_1 86 (.checkcast 8) 3 := by decide +kernel
theorem d5_89 : dk cP16_1 89 (.astore 9) 2 := by decide +kernel
theorem d5_91 : dk cP16_1 91 (.iload 7) 2 := by decide +kernel
theorem d5_93 : dk cP16_1 93 (.aload 9) 2 := by decide +kernel
theorem d5_95 : dk cP16_1 95 (.getfield 57) 3 := by decide +kernel
theorem d5_98 : dk cP16_1 98 .ior 1 := by decide +kernel
theorem d5_99 : dk cP16_1 99 (.istore 7) 2 := by decide +kernel
theorem d5_101 : dk cP16_1 101 (.goto (-32)) 3 := by decide +kernel
def r14_3Q (Z : State) (a1 a4 : Addr) (h0 : Heap) (n0 : Nat) : QT := fun v h L => v = some (.int (1:Int32)) ∧ Fr n0 L ∧ h = h0
theorem r14_3 (hw : HW a0 Z) (a1 a4 : Addr) (O0 : Old Z n0 h0) (H2 : xF15 Z h0 a1 (.int (1:Int32))) (H5 : xF11 Z h0 a1 (.ref a4)) (H7 : xF3 Z h0 a4 (.int (2:Int32))) :
    MF l y14 cJ49_2 1 (some .boolean) [] (rM 0 0 0 0) Z #[(.ref a1)] h0 (r14_3Q Z a1 a4 h0 n0) := by
  refine own_in (pq pn7) #[rv a1] (fun _ => by first | (simp [entryFrame, mkF, argsToLocals, Value.category]; done) | rfl) ?_
  intro p e s m below meth c s₁ Bd hx hby hml hown hnm hZ e0 X0
  have N0 := Fr.nil n0
  obtain ⟨_, X3, e3, st3⟩ := gF X0 hx hZ hown (ow hw 126 rfl) e0 H2 (g := (mkF m 1 #[rv a1] [(.ref a1)])) rfl rfl (hb hby d14_1)
  obtain ⟨_, X6, e6, st6⟩ := gF X3 hx hZ hown (ow hw 108 rfl) e3 H5 (g := (mkF m 5 #[rv a1] [(.ref a1), (.int (1:Int32))])) rfl rfl (hb hby d14_5)
  obtain ⟨_, X8, e8, st8⟩ := getF X6 hx hZ hown (Or.inr (ow hw 128 rfl)) Via.refl e6 H7 (g := (mkF m 8 #[rv a1] [(.ref a4), (.int (1:Int32))])) rfl rfl (hb hby d14_8)
  refine fin (Q := r14_3Q Z a1 a4 h0 n0) (rm := (rM 0 0 0 0)) Bd X8 e8 (some (.int (1:Int32))) nofun ⟨rfl, N0, rfl⟩ (by decide) (by decide) fun fs hr => ?_
  show St p e below s₁ m 0 #[rv a1] [] _
  refine aN X0 hx hby d14_0 rfl rfl ?_
  refine st3 _ ?_
  refine aN X3 hx hby d14_4 rfl rfl ?_
  refine st6 _ ?_
  refine st8 _ ?_
  refine XS.icmpNo X8.here hx rfl (hb hby d14_11) rfl (feq (by decide : ¬ ((1:Int32) = (2:Int32)))).1 ?_
  refine iC X8 hx hby d14_14 ?_
  refine XS.goto X8.here hx rfl (pc0 := 15) (pc' := 19) rfl (hb hby d14_15) (by decide) (by decide) ?_
  exact retN X8 hx (t := .boolean) Bd.returns (by simp) (hb hby d14_19) hr
def r35_2Q (Z : State) (a1 a3 a14 : Addr) (k18 : ClassId) (a19 a20 : Addr) (h0 : Heap) (n0 : Nat) : QT := fun v h L => v = some (.ref a20) ∧ Fr n0 L ∧ Keep h0 h [a1] ∧ xE12 Z h a1 ∧ xF11 Z h a1 (.ref a3) ∧ xF14 Z h a1 (.int (2:Int32)) ∧ xF15 Z h a1 (.int (2:Int32)) ∧ xF13 Z h a1 (.int (1:Int32))
theorem r35_2 (hw : HW a0 Z) (a1 a3 a14 : Addr) (k18 : ClassId) (a19 a20 : Addr) (O0 : Old Z n0 h0) (H2 : xE12 Z h0 a1) (H4 : xF11 Z h0 a1 (.ref a3)) (H5 : xF0 Z h0 a3 (.int (2:Int32))) (H6 : xF14 Z h0 a1 (.int (2:Int32))) (H8 : xF15 Z h0 a1 (.int (1:Int32))) (H11 : xF3 Z h0 a3 (.int (2:Int32))) (H15 : xF2 Z h0 a3 (.ref a14)) (H21 : Arv Z h0 a14 k18 (.object "java/lang/Object") (10:Int32) [(.ref a19), (.ref a20), .null, .null, .null, .null, .null, .null, .null, .null] .null) (H23 : n0 ≤ a1) (H26 : xF13 Z h0 a1 (.int (0:Int32))) (H33 : a14 ≠ a1) :
    MF l y35 cJ49_3 3 (some (.object "java/lang/Object")) [] (rM 1 0 0 12) Z #[(.ref a1)] h0 (r35_2Q Z a1 a3 a14 k18 a19 a20 h0 n0) := by
  refine own_in (pq pn7) #[rv a1, un, un] (fun _ => by first | (simp [entryFrame, mkF, argsToLocals, Value.category]; done) | rfl) ?_
  intro p e s m below meth c s₁ Bd hx hby hml hown hnm hZ e0 X0
  have N0 := Fr.nil n0
  obtain ⟨_, _, _, X7, hQ7, st7⟩ := cV X0 hx hZ hw hown (y := y36) 259 rfl 260 rfl 262 rfl 261 rfl 263 rfl 103 rfl (by decide) (W := 0) (r36_1 hw a1 a3 O0 H4 H5 H6) (by decide) (by decide) H2 e0 (g := (mkF m 1 #[rv a1, un, un] [(.ref a1)])) rfl (by rw [hml]; rfl) (argsL := []) (rest := []) (lenOf pd22 rfl) rfl wf (hb hby d35_1) rfl (by decide) (by decide)
  obtain ⟨rfl, N7q, e7⟩ := hQ7
  have N7 := Fr.app N0 N7q
  obtain ⟨_, X9, e9, st9⟩ := gF X7 hx hZ hown (ow hw 126 rfl) e7 H8 (g := (mkF m 5 #[rv a1, un, un] [(.ref a1)])) rfl rfl (hb hby d35_5)
  obtain ⟨_, X10, e10, st10⟩ := gF X9 hx hZ hown (ow hw 108 rfl) e9 H4 (g := (mkF m 11 #[rv a1, iv (1:Int32), un] [(.ref a1), (.int (1:Int32))])) rfl rfl (hb hby d35_11)
  obtain ⟨_, X12, e12, st12⟩ := getF X10 hx hZ hown (Or.inr (ow hw 128 rfl)) Via.refl e10 H11 (g := (mkF m 14 #[rv a1, iv (1:Int32), un] [(.ref a3), (.int (1:Int32))])) rfl rfl (hb hby d35_14)
  obtain ⟨_, X13, e13, st13⟩ := gF X12 hx hZ hown (ow hw 108 rfl) e12 H4 (g := (mkF m 29 #[rv a1, iv (1:Int32), un] [(.ref a1)])) rfl rfl (hb hby d35_29)
  obtain ⟨_, X16, e16, st16⟩ := gF X13 hx hZ hown (ow hw 264 rfl) e13 H15 (g := (mkF m 32 #[rv a1, iv (1:Int32), un] [(.ref a3)])) rfl rfl (hb hby d35_32)
  obtain ⟨_, Ar17, _, S17, M17, _, _⟩ := id H21
  obtain ⟨T22, h22, X22, e22, W22, st22⟩ := pF X16 hx hZ hown (ow hw 126 rfl) e16 H8 H2 (Or.inl (ow hw 127 rfl)) (ow hw 102 rfl) (ty := .int) (by decide) rfl rfl (g := (mkF m 54 #[rv a1, iv (1:Int32), rv a14] [(.int (2:Int32)), (.ref a1)])) rfl rfl (hb hby d35_54)
  have Kp_W22 : Keep h0 h22 [a1] := (Keep.refl h0 [a1]).wr W22 (mI 0 rfl)
  have N24 := Fr.snoc X22 N7 H23
  have f25 := H8.same W22
  have f27 := (H2.wr W22)
  have f28 := (H26.other W22 (Or.inr (sn41 hw)))
  obtain ⟨_, h29, X29, e29, W29, st29⟩ := pF X22 hx hZ hown (ow hw 111 rfl) e22 f28 f27 (Or.inl (ow hw 112 rfl)) (ow hw 102 rfl) (ty := .int) (by decide) rfl rfl (g := (mkF m 61 #[rv a1, iv (1:Int32), rv a14] [(.int (1:Int32)), (.ref a1), (.int (1:Int32)), (.ref a14)])) rfl rfl (hb hby d35_61)
  have Kp_W29 : Keep h0 h29 [a1] := Kp_W22.wr W29 (mI 0 rfl)
  have N30 := Fr.snoc X29 N24 H23
  have f31 := f28.same W29
  have f34 := ((H21.other W22 H33).other W29 H33)
  obtain ⟨cl32, Ar32, _, S32, _, H32, _⟩ := id f34
  have hin32 : ¬ ((1:Int32) < 0 ∨ cl32.slots.size ≤ ((1:Int32)).toNatClampNeg) := inb_of S32 ⟨by decide, by decide⟩
  have f35 := (f27.wr W29)
  have f36 := ((H4.other W22 (Or.inr (sn42 hw))).other W29 (Or.inr (sn3 hw)))
  have f37 := ((H6.other W22 (Or.inr (sn43 hw))).other W29 (Or.inr (sn5 hw)))
  have f38 := (f25.other W29 (Or.inr (sn7 hw)))
  refine fin (Q := r35_2Q Z a1 a3 a14 k18 a19 a20 h0 n0) (rm := (rM 1 0 0 12)) Bd X29 e29 (some (.ref a20)) nofun ⟨rfl, N30, Kp_W29, f35, f36, f37, f38, f31⟩ (by decide) (by decide) fun fs hr => ?_
  show St p e below s₁ m 0 #[rv a1, un, un] [] _
  refine aN X0 hx hby d35_0 rfl rfl ?_
  refine st7.trans ?_
  refine aN X7 hx hby d35_4 rfl rfl ?_
  refine st9 _ ?_
  refine XS.istoreN X9.here hx rfl (hb hby d35_8) rfl (l' := #[rv a1, iv (1:Int32), un]) rfl ?_
  refine iN X9 hx hby d35_9 rfl ?_
  refine aN X9 hx hby d35_10 rfl rfl ?_
  refine st10 _ ?_
  refine st12 _ ?_
  refine XS.icmpYes X12.here hx rfl (pc0 := 17) (pc' := 28) rfl (hb hby d35_17) rfl (tlt (by decide : (1:Int32) < (2:Int32))).1 (by decide) (by decide) ?_
  refine aN X12 hx hby d35_28 rfl rfl ?_
  refine st13 _ ?_
  refine st16 _ ?_
  refine XS.astoreN X16.here hx rfl (hb hby d35_35) rfl rfl (l' := #[rv a1, iv (1:Int32), rv a14]) rfl ?_
  refine iN X16 hx hby d35_36 rfl ?_
  refine aN X16 hx hby d35_37 rfl rfl ?_
  refine X16.arraylength hx (by rw [e16]; exact Ar17.1) (State.isArrayOf_alike hZ.alike Ar17.2.1) (g := (mkF m 38 #[rv a1, iv (1:Int32), rv a14] [(.ref a14), (.int (1:Int32))])) rfl rfl (hb hby d35_38) _ ?_
  rw [len_of S17 M17]
  refine XS.icmpYes X16.here hx rfl (pc0 := 39) (pc' := 50) rfl (hb hby d35_39) rfl (tlt (by decide : (1:Int32) < (10:Int32))).1 (by decide) (by decide) ?_
  refine aN X16 hx hby d35_50 rfl rfl ?_
  refine iN X16 hx hby d35_51 rfl ?_
  refine iC X16 hx hby d35_52 ?_
  refine XS.iadd X16.here hx rfl (hb hby d35_53) rfl ?_
  refine st22 _ ?_
  refine aN X22 hx hby d35_57 rfl rfl ?_
  refine aN X22 hx hby d35_58 rfl rfl ?_
  show St p e below T22 m 59 #[rv a1, iv (1:Int32), rv a14] [(.ref a1), (.ref a14)] _
  refine iN X22 hx hby d35_59 rfl ?_
  refine XS.dupX1 X22.here hx rfl (hb hby d35_60) rfl rfl rfl ?_
  refine st29 _ ?_
  refine X29.aaload hx (j := (1:Int32)) (v := (.ref a20)) (by rw [e29]; exact Ar32.1) (State.isArrayOf_alike hZ.alike Ar32.2.1) rfl Ar32.2.2 hin32 (Has.at H32 hin32 rfl) (g := (mkF m 64 #[rv a1, iv (1:Int32), rv a14] [(.int (1:Int32)), (.ref a14)])) rfl rfl (hb hby d35_64) _ ?_
  exact retA X29 hx Bd.returns rfl rfl (hb hby d35_65) hr
def r14_4Q (Z : State) (a1 a4 : Addr) (h0 : Heap) (n0 : Nat) : QT := fun v h L => v = some (.int (0:Int32)) ∧ Fr n0 L ∧ h = h0
theorem r14_4 (hw : HW a0 Z) (a1 a4 : Addr) (O0 : Old Z n0 h0) (H2 : xF15 Z h0 a1 (.int (2:Int32))) (H5 : xF11 Z h0 a1 (.ref a4)) (H7 : xF3 Z h0 a4 (.int (2:Int32))) :
    MF l y14 cJ49_2 1 (some .boolean) [] (rM 0 0 0 0) Z #[(.ref a1)] h0 (r14_4Q Z a1 a4 h0 n0) := by
  refine own_in (pq pn7) #[rv a1] (fun _ => by first | (simp [entryFrame, mkF, argsToLocals, Value.category]; done) | rfl) ?_
  intro p e s m below meth c s₁ Bd hx hby hml hown hnm hZ e0 X0
  have N0 := Fr.nil n0
  obtain ⟨_, X3, e3, st3⟩ := gF X0 hx hZ hown (ow hw 126 rfl) e0 H2 (g := (mkF m 1 #[rv a1] [(.ref a1)])) rfl rfl (hb hby d14_1)
  obtain ⟨_, X6, e6, st6⟩ := gF X3 hx hZ hown (ow hw 108 rfl) e3 H5 (g := (mkF m 5 #[rv a1] [(.ref a1), (.int (2:Int32))])) rfl rfl (hb hby d14_5)
  obtain ⟨_, X8, e8, st8⟩ := getF X6 hx hZ hown (Or.inr (ow hw 128 rfl)) Via.refl e6 H7 (g := (mkF m 8 #[rv a1] [(.ref a4), (.int (2:Int32))])) rfl rfl (hb hby d14_8)
  refine fin (Q := r14_4Q Z a1 a4 h0 n0) (rm := (rM 0 0 0 0)) Bd X8 e8 (some (.int (0:Int32))) nofun ⟨rfl, N0, rfl⟩ (by decide) (by decide) fun fs hr => ?_
  show St p e below s₁ m 0 #[rv a1] [] _
  refine aN X0 hx hby d14_0 rfl rfl ?_
  refine st3 _ ?_
  refine aN X3 hx hby d14_4 rfl rfl ?_
  refine st6 _ ?_
  refine st8 _ ?_
  refine XS.icmpYes X8.here hx rfl (pc0 := 11) (pc' := 18) rfl (hb hby d14_11) rfl (teq (rfl : (2:Int32) = (2:Int32))).1 (by decide) (by decide) ?_
  refine iC X8 hx hby d14_18 ?_
  exact retN X8 hx (t := .boolean) Bd.returns (by simp) (hb hby d14_19) hr
def r5_3Q (Z : State) (a1 : Addr) (p2:Int32) (a3 : Addr) (p4:Int32) (a5 a42 a47 : Addr) (k49 : ClassId) (a50 a51 : Addr) (h0 : Heap) (n0 : Nat) : QT := fun v h L => ∃ (b59_0 : Addr), v = none ∧ Fr n0 L ∧ Keep h0 h [a1] ∧ h0.size ≤ b59_0 ∧ xE5 Z h a1 ∧ xF6 Z h a1 (.ref a3) ∧ xF10 Z h a1 (.ref b59_0) ∧ xF16 Z h a1 (.int (0:Int32)) ∧ xE21 Z h b59_0 ∧ xF20 Z h b59_0 (.ref a50) ∧ xF22 Z h b59_0 (.ref a51)
theorem r5_3 (hw : HW a0 Z) (a1 : Addr) (p2:Int32) (a3 : Addr) (p4:Int32) (a5 a42 a47 : Addr) (k49 : ClassId) (a50 a51 : Addr) (O0 : Old Z n0 h0) (H7 : xF4 Z h0 a1 (.int (0:Int32))) (H8 : xE5 Z h0 a1) (H10 : n0 ≤ a1) (H13 : xF6 Z h0 a1 .null) (H19 : xF7 Z h0 a1 .null) (H25 : xF8 Z h0 a1 .null) (H31 : xF9 Z h0 a1 (.int (0:Int32))) (H37 : xE1 Z h0 a5) (H39 : xF3 Z h0 a5 (.int (2:Int32))) (H40 : a5 ≠ a1) (H43 : xF2 Z h0 a5 (.ref a42)) (H45 : xE19 Z h0 a42) (H48 : Mi Z "[Ljava/lang/Object;" a47) (H52 : Arv Z h0 a42 k49 (.object "java/lang/Object") (10:Int32) [(.ref a50), (.ref a51), .null, .null, .null, .null, .null, .null, .null, .null] .null) (H53 : a42 ≠ a1) (H55 : xE5 Z h0 a50) (H57 : xE5 Z h0 a51) (H60 : xF10 Z h0 a1 .null) (H67 : xF0 Z h0 a5 (.int (2:Int32))) (H81 : xF16 Z h0 a50 (.int (0:Int32))) (H82 : a50 ≠ a1) (H95 : xF16 Z h0 a51 (.int (0:Int32))) (H96 : a51 ≠ a1) (H102 : xF16 Z h0 a1 (.int (0:Int32))) :
    MF l y5 cP16_1 10 none [] (rM 8 3 8 102) Z #[(.ref a1), (.int p2), (.ref a3), .null, .null, (.int p4), (.ref a5)] h0 (r5_3Q Z a1 p2 a3 p4 a5 a42 a47 k49 a50 a51 h0 n0) := by
  refine own_in (pq pn9) #[rv a1, iv p2, rv a3, .val .null, .val .null, iv p4, rv a5, un, un, un] (fun _ => by first | (simp [entryFrame, mkF, argsToLocals, Value.category]; done) | rfl) ?_
  intro p e s m below meth c s₁ Bd hx hby hml hown hnm hZ e0 X0
  have N0 := Fr.nil n0
  obtain ⟨_, X6, e6, st6⟩ := initO X0 hx hZ hown (ow hw 50 rfl) (ow hw 27 rfl) (ow hw 28 rfl) e0 (g := (mkF m 1 #[rv a1, iv p2, rv a3, .val .null, .val .null, iv p4, rv a5, un, un, un] [(.ref a1)])) rfl (by rw [hml]; rfl) rfl (hb hby d5_1) (by decide) (W := 0) wf (by decide)
  obtain ⟨_, h9, X9, e9, W9, st9⟩ := pF X6 hx hZ hown (ow hw 51 rfl) e6 H7 H8 (Or.inr ⟨(ow hw 52 rfl), rfl, hnm⟩) (ow hw 35 rfl) (ty := .int) (by decide) rfl rfl (g := (mkF m 6 #[rv a1, iv p2, rv a3, .val .null, .val .null, iv p4, rv a5, un, un, un] [(.int p2), (.ref a1)])) rfl rfl (hb hby d5_6)
  have O_W9 : Old Z n0 h9 := O0.wr W9 H10
  have Kp_W9 : Keep h0 h9 [a1] := (Keep.refl h0 [a1]).wr W9 (mI 0 rfl)
  have N11 := Fr.snoc X9 N0 H10
  have f14 := (H8.wr W9)
  have f15 := (H13.other W9 (Or.inr (sn11 hw)))
  obtain ⟨_, h16, X16, e16, W16, st16⟩ := pF X9 hx hZ hown (ow hw 53 rfl) e9 f15 f14 (Or.inr ⟨(ow hw 54 rfl), rfl, hnm⟩) (ow hw 35 rfl) (ty := (.object "tabula/engine/Concept$Kind")) (by decide) rfl rfl (g := (mkF m 11 #[rv a1, iv p2, rv a3, .val .null, .val .null, iv p4, rv a5, un, un, un] [(.ref a3), (.ref a1)])) rfl rfl (hb hby d5_11)
  have O_W16 : Old Z n0 h16 := O_W9.wr W16 H10
  have Kp_W16 : Keep h0 h16 [a1] := Kp_W9.wr W16 (mI 0 rfl)
  have N17 := Fr.snoc X16 N11 H10
  have f18 := f15.same W16
  have f20 := (f14.wr W16)
  have f21 := ((H19.other W9 (Or.inr (sn12 hw))).other W16 (Or.inr (sn13 hw)))
  obtain ⟨_, h22, X22, e22, W22, st22⟩ := pF X16 hx hZ hown (ow hw 55 rfl) e16 f21 f20 (Or.inr ⟨(ow hw 56 rfl), rfl, hnm⟩) (ow hw 35 rfl) (ty := (.object "java/lang/String")) (by decide) rfl rfl (g := (mkF m 16 #[rv a1, iv p2, rv a3, .val .null, .val .null, iv p4, rv a5, un, un, un] [.null, (.ref a1)])) rfl rfl (hb hby d5_16)
  have O_W22 : Old Z n0 h22 := O_W16.wr W22 H10
  have Kp_W22 : Keep h0 h22 [a1] := Kp_W16.wr W22 (mI 0 rfl)
  have N23 := Fr.snoc X22 N17 H10
  have f26 := (f20.wr W22)
  have f27 := (((H25.other W9 (Or.inr (sn14 hw))).other W16 (Or.inr (sn15 hw))).other W22 (Or.inr (sn16 hw)))
  obtain ⟨_, h28, X28, e28, W28, st28⟩ := pF X22 hx hZ hown (ow hw 57 rfl) e22 f27 f26 (Or.inr ⟨(ow hw 58 rfl), rfl, hnm⟩) (ow hw 35 rfl) (ty := (.object "tabula/engine/Role")) (by decide) rfl rfl (g := (mkF m 22 #[rv a1, iv p2, rv a3, .val .null, .val .null, iv p4, rv a5, un, un, un] [.null, (.ref a1)])) rfl rfl (hb hby d5_22)
  have O_W28 : Old Z n0 h28 := O_W22.wr W28 H10
  have Kp_W28 : Keep h0 h28 [a1] := Kp_W22.wr W28 (mI 0 rfl)
  have N29 := Fr.snoc X28 N23 H10
  have f32 := (f26.wr W28)
  have f33 := ((((H31.other W9 (Or.inr (sn17 hw))).other W16 (Or.inr (sn18 hw))).other W22 (Or.inr (sn19 hw))).other W28 (Or.inr (sn20 hw)))
  obtain ⟨_, h34, X34, e34, W34, st34⟩ := pF X28 hx hZ hown (ow hw 59 rfl) e28 f33 f32 (Or.inr ⟨(ow hw 60 rfl), rfl, hnm⟩) (ow hw 35 rfl) (ty := .int) (by decide) rfl rfl (g := (mkF m 28 #[rv a1, iv p2, rv a3, .val .null, .val .null, iv p4, rv a5, un, un, un] [(.int p4), (.ref a1)])) rfl rfl (hb hby d5_28)
  have O_W34 : Old Z n0 h34 := O_W28.wr W34 H10
  have Kp_W34 : Keep h0 h34 [a1] := Kp_W28.wr W34 (mI 0 rfl)
  have N35 := Fr.snoc X34 N29 H10
  have f38 := (((((H37.wr W9).wr W16).wr W22).wr W28).wr W34)
  have f41 := (((((H39.other W9 (Or.inl H40)).other W16 (Or.inl H40)).other W22 (Or.inl H40)).other W28 (Or.inl H40)).other W34 (Or.inl H40))
  have f44 := (((((H43.other W9 (Or.inl H40)).other W16 (Or.inl H40)).other W22 (Or.inl H40)).other W28 (Or.inl H40)).other W34 (Or.inl H40))
  have f46 := (((((H45.wr W9).wr W16).wr W22).wr W28).wr W34)
  have f54 := (((((H52.other W9 H53).other W16 H53).other W22 H53).other W28 H53).other W34 H53)
  have f56 := (((((H55.wr W9).wr W16).wr W22).wr W28).wr W34)
  have f58 := (((((H57.wr W9).wr W16).wr W22).wr W28).wr W34)
  obtain ⟨T59, _, _, X59, hQ59, st59⟩ := cS X34 hx hZ hw hown (y := y6) 61 rfl 62 rfl 63 rfl 64 rfl (by decide) (W := 1) (r6_2 hw a5 a42 a47 k49 a50 a51 O_W34 f38 f41 f44 f46 H48 f54 f56 f58) (by decide) (by decide) e34 (g := (mkF m 34 #[rv a1, iv p2, rv a3, .val .null, .val .null, iv p4, rv a5, un, un, un] [(.ref a5), (.ref a1)])) rfl (by rw [hml]; rfl) (argsL := [(.ref a5)]) (rest := [(.ref a1)]) (lenOf pd5 rfl) rfl wf (hb hby d5_34) rfl (by decide) (by decide)
  obtain ⟨b59_0, rfl, N59q, K59, lo59_1, f59_2, f59_3, f59_4⟩ := hQ59
  have N59 := Fr.app N35 N59q
  have O_K59 : Old Z n0 T59.heap := O_W34.keep K59 all0
  have Kp_K59 : Keep h0 T59.heap [a1] := Kp_W34.trans K59 all0
  have f61 := ((f32.wr W34).keep K59)
  have f62 := ((((((H60.other W9 (Or.inr (sn21 hw))).other W16 (Or.inr (sn22 hw))).other W22 (Or.inr (sn23 hw))).other W28 (Or.inr (sn24 hw))).other W34 (Or.inr (sn25 hw))).keep K59 nin0)
  obtain ⟨T63, h63, X63, e63, W63, st63⟩ := pF X59 hx hZ hown (ow hw 90 rfl) rfl f62 f61 (Or.inr ⟨(ow hw 91 rfl), rfl, hnm⟩) (ow hw 35 rfl) (ty := (.object "java/util/List")) (by decide) rfl rfl (g := (mkF m 37 #[rv a1, iv p2, rv a3, .val .null, .val .null, iv p4, rv a5, un, un, un] [(.ref b59_0), (.ref a1)])) rfl rfl (hb hby d5_37)
  have O_W63 : Old Z n0 h63 := O_K59.wr W63 H10
  have Kp_W63 : Keep h0 h63 [a1] := Kp_K59.wr W63 (mI 0 rfl)
  have N64 := Fr.snoc X63 N59 H10
  have f65 := f62.same W63
  have f66 := ((f38.keep K59).wr W63)
  have f68 := (((((((H67.other W9 (Or.inl H40)).other W16 (Or.inl H40)).other W22 (Or.inl H40)).other W28 (Or.inl H40)).other W34 (Or.inl H40)).keep K59 nin0).other W63 (Or.inl H40))
  obtain ⟨T69, _, _, X69, hQ69, st69⟩ := cI X63 hx hZ hw hown (x := y13) (y := y11) 92 rfl 93 rfl 94 rfl 95 rfl 96 rfl 97 rfl 98 rfl 99 rfl 100 rfl 10 rfl (by decide) (W := 0) (r11_2 hw a5 O_W63 f68 f66) (by decide) (by decide) f66 e63 (g := (mkF m 62 #[rv a1, iv p2, rv a3, .val .null, .val .null, iv p4, rv a5, iv (0:Int32), un, un] [(.ref a5)])) rfl (by rw [hml]; rfl) (argsL := []) (rest := []) (lenOf pd13 rfl) rfl wf (hb hby d5_62) rfl (by decide) (by decide)
  obtain ⟨b69_0, rfl, N69q, K69, lo69_1, f69_2, f69_3, f69_4, f69_5, f69_6⟩ := hQ69
  have N69 := Fr.app N64 N69q
  have O_K69 : Old Z n0 T69.heap := O_W63.keep K69 all0
  have Kp_K69 : Keep h0 T69.heap [a1] := Kp_W63.trans K69 all0
  have f70 := (((f41.keep K59 nin0).other W63 (Or.inl H40)).keep K69 nin0)
  obtain ⟨_, _, _, X71, hQ71, st71⟩ := cI X69 hx hZ hw hown (x := y15) (y := y14) 117 rfl 118 rfl 119 rfl 120 rfl 121 rfl 122 rfl 123 rfl 124 rfl 125 rfl 103 rfl (by decide) (W := 0) (r14_2 hw b69_0 a5 O_K69 f69_6 f69_3 f70) (by decide) (by decide) f69_2 rfl (g := (mkF m 71 #[rv a1, iv p2, rv a3, .val .null, .val .null, iv p4, rv a5, iv (0:Int32), rv b69_0, un] [(.ref b69_0)])) rfl (by rw [hml]; rfl) (argsL := []) (rest := []) (lenOf pd23 rfl) rfl wf (hb hby d5_71) rfl (by decide) (by decide)
  obtain ⟨rfl, N71q, e71⟩ := hQ71
  have N71 := Fr.app N69 N71q
  have f72 := (f68.keep K69 nin0)
  have f73 := (((f44.keep K59 nin0).other W63 (Or.inl H40)).keep K69 nin0)
  have f74 := (((f54.keep K59 nin0).other W63 H53).keep K69 nin0)
  have g75 : n0 ≤ b69_0 := Nat.le_trans (Nat.le_trans (Nat.le_of_eq O_W63.1.symm) O_W63.2.1) lo69_1
  have ne76 : a42 ≠ b69_0 := Nat.ne_of_lt (Nat.lt_of_lt_of_le ((f46.keep K59).wr W63).lt lo69_1)
  obtain ⟨T77, _, _, X77, hQ77, st77⟩ := cI X71 hx hZ hw hown (x := y37) (y := y35) 251 rfl 252 rfl 253 rfl 254 rfl 255 rfl 256 rfl 257 rfl 124 rfl 258 rfl 103 rfl (by decide) (W := 0) (r35_1 hw b69_0 a5 a42 k49 a50 a51 O_K69 f69_2 f69_3 f72 f69_5 f69_6 f70 f73 f74 g75 f69_4 ne76) (by decide) (by decide) f69_2 e71 (g := (mkF m 81 #[rv a1, iv p2, rv a3, .val .null, .val .null, iv p4, rv a5, iv (0:Int32), rv b69_0, un] [(.ref b69_0)])) rfl (by rw [hml]; rfl) (argsL := []) (rest := []) (lenOf pd19 rfl) rfl wf (hb hby d5_81) rfl (by decide) (by decide)
  obtain ⟨rfl, N77q, K77, f77_1, f77_2, f77_3, f77_4, f77_5⟩ := hQ77
  have N77 := Fr.app N71 N77q
  have z78 : h0.size ≤ b69_0 := Nat.le_trans Kp_W63.1 lo69_1
  have O_K77 : Old Z n0 T77.heap := O_K69.keep K77 (allS g75 all0)
  have Kp_K77 : Keep h0 T77.heap [a1] := Kp_K69.trans K77 (allS (Or.inr z78) all0)
  have f80 := ((((f56.keep K59).wr W63).keep K69).keep K77)
  obtain ⟨_, X79, e79, st79⟩ := castY X77 hx hZ hown (ow hw 265 rfl) rfl (Ins.self f80) (g := (mkF m 86 #[rv a1, iv p2, rv a3, .val .null, .val .null, iv p4, rv a5, iv (0:Int32), rv b69_0, un] [(.ref a50)])) rfl rfl (hb hby d5_86)
  have ne83 : a50 ≠ b69_0 := Nat.ne_of_lt (Nat.lt_of_lt_of_le (((((((H55.wr W9).wr W16).wr W22).wr W28).wr W34).keep K59).wr W63).lt lo69_1)
  have f84 := (((((((((H81.other W9 (Or.inl H82)).other W16 (Or.inl H82)).other W22 (Or.inl H82)).other W28 (Or.inl H82)).other W34 (Or.inl H82)).keep K59 nin0).other W63 (Or.inl H82)).keep K69 nin0).keep K77 (ninS ne83 nin0))
  obtain ⟨_, X85, e85, st85⟩ := gF X79 hx hZ hown (ow hw 129 rfl) e79 f84 (g := (mkF m 95 #[rv a1, iv p2, rv a3, .val .null, .val .null, iv p4, rv a5, iv (0:Int32), rv b69_0, rv a50] [(.ref a50), (.int (0:Int32))])) rfl rfl (hb hby d5_95)
  have ne86 : a5 ≠ b69_0 := Nat.ne_of_lt (Nat.lt_of_lt_of_le f66.lt lo69_1)
  have f87 := (f70.keep K77 (ninS ne86 nin0))
  obtain ⟨_, _, _, X88, hQ88, st88⟩ := cI X85 hx hZ hw hown (x := y15) (y := y14) 117 rfl 118 rfl 119 rfl 120 rfl 121 rfl 122 rfl 123 rfl 124 rfl 125 rfl 103 rfl (by decide) (W := 0) (r14_3 hw b69_0 a5 O_K77 f77_4 f77_2 f87) (by decide) (by decide) f77_1 e85 (g := (mkF m 71 #[rv a1, iv p2, rv a3, .val .null, .val .null, iv p4, rv a5, iv (0:Int32), rv b69_0, rv a50] [(.ref b69_0)])) rfl (by rw [hml]; rfl) (argsL := []) (rest := []) (lenOf pd23 rfl) rfl wf (hb hby d5_71) rfl (by decide) (by decide)
  obtain ⟨rfl, N88q, e88⟩ := hQ88
  have N88 := Fr.app N77 N88q
  have f89 := (f72.keep K77 (ninS ne86 nin0))
  have f90 := (f73.keep K77 (ninS ne86 nin0))
  have f91 := (f74.keep K77 (ninS ne76 nin0))
  obtain ⟨T92, _, _, X92, hQ92, st92⟩ := cI X88 hx hZ hw hown (x := y37) (y := y35) 251 rfl 252 rfl 253 rfl 254 rfl 255 rfl 256 rfl 257 rfl 124 rfl 258 rfl 103 rfl (by decide) (W := 0) (r35_2 hw b69_0 a5 a42 k49 a50 a51 O_K77 f77_1 f77_2 f89 f77_3 f77_4 f87 f90 f91 g75 f77_5 ne76) (by decide) (by decide) f77_1 e88 (g := (mkF m 81 #[rv a1, iv p2, rv a3, .val .null, .val .null, iv p4, rv a5, iv (0:Int32), rv b69_0, rv a50] [(.ref b69_0)])) rfl (by rw [hml]; rfl) (argsL := []) (rest := []) (lenOf pd19 rfl) rfl wf (hb hby d5_81) rfl (by decide) (by decide)
  obtain ⟨rfl, N92q, K92, f92_1, f92_2, _, f92_4, _⟩ := hQ92
  have N92 := Fr.app N88 N92q
  have O_K92 : Old Z n0 T92.heap := O_K77.keep K92 (allS g75 all0)
  have Kp_K92 : Keep h0 T92.heap [a1] := Kp_K77.trans K92 (allS (Or.inr z78) all0)
  have f94 := (((((f58.keep K59).wr W63).keep K69).keep K77).keep K92)
  obtain ⟨T93, X93, e93, st93⟩ := castY X92 hx hZ hown (ow hw 265 rfl) rfl (Ins.self f94) (g := (mkF m 86 #[rv a1, iv p2, rv a3, .val .null, .val .null, iv p4, rv a5, iv (0:Int32), rv b69_0, rv a50] [(.ref a51)])) rfl rfl (hb hby d5_86)
  have ne97 : a51 ≠ b69_0 := Nat.ne_of_lt (Nat.lt_of_lt_of_le (((((((H57.wr W9).wr W16).wr W22).wr W28).wr W34).keep K59).wr W63).lt lo69_1)
  have f98 := ((((((((((H95.other W9 (Or.inl H96)).other W16 (Or.inl H96)).other W22 (Or.inl H96)).other W28 (Or.inl H96)).other W34 (Or.inl H96)).keep K59 nin0).other W63 (Or.inl H96)).keep K69 nin0).keep K77 (ninS ne97 nin0)).keep K92 (ninS ne97 nin0))
  obtain ⟨_, X99, e99, st99⟩ := gF X93 hx hZ hown (ow hw 129 rfl) e93 f98 (g := (mkF m 95 #[rv a1, iv p2, rv a3, .val .null, .val .null, iv p4, rv a5, iv (0:Int32), rv b69_0, rv a51] [(.ref a51), (.int (0:Int32))])) rfl rfl (hb hby d5_95)
  have f100 := (f87.keep K92 (ninS ne86 nin0))
  obtain ⟨_, _, _, X101, hQ101, st101⟩ := cI X99 hx hZ hw hown (x := y15) (y := y14) 117 rfl 118 rfl 119 rfl 120 rfl 121 rfl 122 rfl 123 rfl 124 rfl 125 rfl 103 rfl (by decide) (W := 0) (r14_4 hw b69_0 a5 O_K92 f92_4 f92_2 f100) (by decide) (by decide) f92_1 e99 (g := (mkF m 71 #[rv a1, iv p2, rv a3, .val .null, .val .null, iv p4, rv a5, iv (0:Int32), rv b69_0, rv a51] [(.ref b69_0)])) rfl (by rw [hml]; rfl) (argsL := []) (rest := []) (lenOf pd23 rfl) rfl wf (hb hby d5_71) rfl (by decide) (by decide)
  obtain ⟨rfl, N101q, e101⟩ := hQ101
  have N101 := Fr.app N92 N101q
  have f103 := ((((f61.wr W63).keep K69).keep K77).keep K92)
  have ne104 : a1 ≠ b69_0 := Nat.ne_of_lt (Nat.lt_of_lt_of_le (((((((H8.wr W9).wr W16).wr W22).wr W28).wr W34).keep K59).wr W63).lt lo69_1)
  have f105 := ((((((((((H102.other W9 (Or.inr (sn26 hw))).other W16 (Or.inr (sn27 hw))).other W22 (Or.inr (sn28 hw))).other W28 (Or.inr (sn29 hw))).other W34 (Or.inr (sn30 hw))).keep K59 nin0).other W63 (Or.inr (sn31 hw))).keep K69 nin0).keep K77 (ninS ne104 nin0)).keep K92 (ninS ne104 nin0))
  obtain ⟨_, h106, X106, e106, W106, st106⟩ := pF X101 hx hZ hown (ow hw 129 rfl) e101 f105 f103 (Or.inr ⟨(ow hw 130 rfl), rfl, hnm⟩) (ow hw 35 rfl) (ty := .boolean) (by decide) rfl rfl (g := (mkF m 107 #[rv a1, iv p2, rv a3, .val .null, .val .null, iv p4, rv a5, iv (0:Int32), rv b69_0, rv a51] [(.int (0:Int32)), (.ref a1)])) rfl rfl (hb hby d5_107)
  have Kp_W106 : Keep h0 h106 [a1] := Kp_K92.wr W106 (mI 0 rfl)
  have N107 := Fr.snoc X106 N101 H10
  have f108 := f105.same W106
  have z109 : h0.size ≤ b59_0 := Nat.le_trans Kp_W34.1 lo59_1
  have f110 := (f103.wr W106)
  have f111 := (((((((((f18.other W22 (Or.inr (sn32 hw))).other W28 (Or.inr (sn33 hw))).other W34 (Or.inr (sn34 hw))).keep K59 nin0).other W63 (Or.inr (sn35 hw))).keep K69 nin0).keep K77 (ninS ne104 nin0)).keep K92 (ninS ne104 nin0)).other W106 (Or.inr (sn36 hw)))
  have f112 := ((((f65.keep K69 nin0).keep K77 (ninS ne104 nin0)).keep K92 (ninS ne104 nin0)).other W106 (Or.inr (sn37 hw)))
  have f113 := (((((f59_2.wr W63).keep K69).keep K77).keep K92).wr W106)
  have ne114 : a1 ≠ b59_0 := Nat.ne_of_lt (Nat.lt_of_lt_of_le (((((H8.wr W9).wr W16).wr W22).wr W28).wr W34).lt lo59_1)
  have ne115 : b59_0 ≠ b69_0 := Nat.ne_of_lt (Nat.lt_of_lt_of_le (f59_2.wr W63).lt lo69_1)
  have f116 := (((((f59_3.other W63 (Or.inl (Ne.symm ne114))).keep K69 nin0).keep K77 (ninS ne115 nin0)).keep K92 (ninS ne115 nin0)).other W106 (Or.inl (Ne.symm ne114)))
  have f117 := (((((f59_4.other W63 (Or.inl (Ne.symm ne114))).keep K69 nin0).keep K77 (ninS ne115 nin0)).keep K92 (ninS ne115 nin0)).other W106 (Or.inl (Ne.symm ne114)))
  refine fin (Q := r5_3Q Z a1 p2 a3 p4 a5 a42 a47 k49 a50 a51 h0 n0) (rm := (rM 8 3 8 102)) Bd X106 e106 (none) (fun _ => rfl) ⟨b59_0, rfl, N107, Kp_W106, z109, f110, f111, f112, f108, f113, f116, f117⟩ (by decide) (by decide) fun fs hr => ?_
  show St p e below s₁ m 0 #[rv a1, iv p2, rv a3, .val .null, .val .null, iv p4, rv a5, un, un, un] [] _
  refine aN X0 hx hby d5_0 rfl rfl ?_
  refine st6 _ ?_
  refine aN X6 hx hby d5_4 rfl rfl ?_
  refine iN X6 hx hby d5_5 rfl ?_
  refine st9 _ ?_
  refine aN X9 hx hby d5_9 rfl rfl ?_
  refine aN X9 hx hby d5_10 rfl rfl ?_
  refine st16 _ ?_
  refine aN X16 hx hby d5_14 rfl rfl ?_
  refine aN X16 hx hby d5_15 rfl rfl ?_
  refine st22 _ ?_
  refine aN X22 hx hby d5_19 rfl rfl ?_
  refine aL X22 hx hby d5_20 rfl rfl ?_
  refine st28 _ ?_
  refine aN X28 hx hby d5_25 rfl rfl ?_
  refine iL X28 hx hby d5_26 rfl ?_
  refine st34 _ ?_
  refine aN X34 hx hby d5_31 rfl rfl ?_
  refine aL X34 hx hby d5_32 rfl rfl ?_
  refine st59 _ ?_
  refine st63 _ ?_
  refine aL X63 hx hby d5_40 rfl rfl ?_
  refine XS.ifnullYes X63.here hx rfl (pc0 := 42) (pc' := 57) rfl (hb hby d5_42) rfl (by decide) (by decide) ?_
  refine iC X63 hx hby d5_57 ?_
  refine XS.istore X63.here hx rfl (hb hby d5_58) rfl (l' := #[rv a1, iv p2, rv a3, .val .null, .val .null, iv p4, rv a5, iv (0:Int32), un, un]) rfl ?_
  show St p e below T63 m 60 #[rv a1, iv p2, rv a3, .val .null, .val .null, iv p4, rv a5, iv (0:Int32), un, un] [] _
  refine aL X63 hx hby d5_60 rfl rfl ?_
  refine st69.trans ?_
  refine XS.astore X69.here hx rfl (hb hby d5_67) rfl rfl (l' := #[rv a1, iv p2, rv a3, .val .null, .val .null, iv p4, rv a5, iv (0:Int32), rv b69_0, un]) rfl ?_
  refine aL X69 hx hby d5_69 rfl rfl ?_
  refine st71.trans ?_
  refine XS.ifNo X71.here hx rfl (hb hby d5_76) rfl ((if0 _ _).trans (feq (by decide : ¬ ((1:Int32) = (0:Int32)))).1) ?_
  refine aL X71 hx hby d5_79 rfl rfl ?_
  refine st77.trans ?_
  refine st79 _ ?_
  refine XS.astore X79.here hx rfl (hb hby d5_89) rfl rfl (l' := #[rv a1, iv p2, rv a3, .val .null, .val .null, iv p4, rv a5, iv (0:Int32), rv b69_0, rv a50]) rfl ?_
  refine iL X79 hx hby d5_91 rfl ?_
  refine aL X79 hx hby d5_93 rfl rfl ?_
  refine st85 _ ?_
  refine XS.ior X85.here hx rfl (hb hby d5_98) rfl ?_
  refine XS.istore X85.here hx rfl (hb hby d5_99) rfl (l' := #[rv a1, iv p2, rv a3, .val .null, .val .null, iv p4, rv a5, iv (0:Int32), rv b69_0, rv a50]) rfl ?_
  refine XS.goto X85.here hx rfl (pc0 := 101) (pc' := 69) rfl (hb hby d5_101) (by decide) (by decide) ?_
  refine aL X85 hx hby d5_69 rfl rfl ?_
  refine st88.trans ?_
  refine XS.ifNo X88.here hx rfl (hb hby d5_76) rfl ((if0 _ _).trans (feq (by decide : ¬ ((1:Int32) = (0:Int32)))).1) ?_
  refine aL X88 hx hby d5_79 rfl rfl ?_
  refine st92.trans ?_
  refine st93 _ ?_
  refine XS.astore X93.here hx rfl (hb hby d5_89) rfl rfl (l' := #[rv a1, iv p2, rv a3, .val .null, .val .null, iv p4, rv a5, iv (0:Int32), rv b69_0, rv a51]) rfl ?_
  refine iL X93 hx hby d5_91 rfl ?_
  refine aL X93 hx hby d5_93 rfl rfl ?_
  show St p e below T93 m 95 #[rv a1, iv p2, rv a3, .val .null, .val .null, iv p4, rv a5, iv (0:Int32), rv b69_0, rv a51] [(.ref a51), (.int (0:Int32))] _
  refine st99 _ ?_
  refine XS.ior X99.here hx rfl (hb hby d5_98) rfl ?_
  refine XS.istore X99.here hx rfl (hb hby d5_99) rfl (l' := #[rv a1, iv p2, rv a3, .val .null, .val .null, iv p4, rv a5, iv (0:Int32), rv b69_0, rv a51]) rfl ?_
  refine XS.goto X99.here hx rfl (pc0 := 101) (pc' := 69) rfl (hb hby d5_101) (by decide) (by decide) ?_
  refine aL X99 hx hby d5_69 rfl rfl ?_
  refine st101.trans ?_
  refine XS.ifYes X101.here hx rfl (pc0 := 76) (pc' := 104) rfl (hb hby d5_76) rfl ((if0 _ _).trans (teq (rfl : (0:Int32) = (0:Int32))).1) (by decide) (by decide) ?_
  refine aN X101 hx hby d5_104 rfl rfl ?_
  refine iL X101 hx hby d5_105 rfl ?_
  refine st106 _ ?_
  exact X106.returnOut hx Bd.returns (hb hby d5_110) hr
theorem d17_20 : dk cP16_8 20 (.aload_n 0) 1 := by decide +kernel
theorem d17_21 : dk cP16_8 21 (.getfield 34) 3 := by decide +kernel
theorem d17_24 : dk cP16_8 24 (.goto 6) 3 := by decide +kernel
def r17_2Q (Z : State) (a1 a2 a7 : Addr) (h0 : Heap) (n0 : Nat) : QT := fun v h L => v = some (.ref a7) ∧ Fr n0 L ∧ h = h0
theorem r17_2 (hw : HW a0 Z) (a1 a2 a7 : Addr) (O0 : Old Z n0 h0) (H3 : xF6 Z h0 a1 (.ref a2)) (H5 : Sta Z Z.heap "tabula/engine/Concept$Kind" "AND" "Ltabula/engine/Concept$Kind;" (.ref a2)) (H8 : xF10 Z h0 a1 (.ref a7)) :
    MF l y17 cP16_8 1 (some (.object "java/util/List")) [] (rM 0 0 0 0) Z #[(.ref a1)] h0 (r17_2Q Z a1 a2 a7 h0 n0) := by
  refine own_in (pq pn9) #[rv a1] (fun _ => by first | (simp [entryFrame, mkF, argsToLocals, Value.category]; done) | rfl) ?_
  intro p e s m below meth c s₁ Bd hx hby hml hown hnm hZ e0 X0
  have N0 := Fr.nil n0
  obtain ⟨_, X4, e4, st4⟩ := gF X0 hx hZ hown (ow hw 53 rfl) e0 H3 (g := (mkF m 1 #[rv a1] [(.ref a1)])) rfl rfl (hb hby d17_1)
  obtain ⟨_, X6, e6, st6⟩ := getS2 X4 hx hZ hown (host := "") (Or.inl (ow hw 141 rfl)) Via.refl e4 (H5.ext O0.2) (g := (mkF m 4 #[rv a1] [(.ref a2)])) rfl (hb hby d17_4)
  obtain ⟨_, X9, e9, st9⟩ := gF X6 hx hZ hown (ow hw 90 rfl) e6 H8 (g := (mkF m 21 #[rv a1] [(.ref a1)])) rfl rfl (hb hby d17_21)
  refine fin (Q := r17_2Q Z a1 a2 a7 h0 n0) (rm := (rM 0 0 0 0)) Bd X9 e9 (some (.ref a7)) nofun ⟨rfl, N0, rfl⟩ (by decide) (by decide) fun fs hr => ?_
  show St p e below s₁ m 0 #[rv a1] [] _
  refine aN X0 hx hby d17_0 rfl rfl ?_
  refine st4 _ ?_
  refine st6 _ ?_
  refine Jvm.RoadKit.acmp (g := (mkF m 7 #[rv a1] [(.ref a2), (.ref a2)])) X6 hx rfl rfl rfl (pc0 := 7) (pc' := 20) (same := true) rfl (hb hby d17_7) rfl (decide_eq_true rfl) (by decide) (by decide) ?_
  refine aN X6 hx hby d17_20 rfl rfl ?_
  refine st9 _ ?_
  refine XS.goto X9.here hx rfl (pc0 := 24) (pc' := 30) rfl (hb hby d17_24) (by decide) (by decide) ?_
  exact retA X9 hx Bd.returns rfl rfl (hb hby d17_30) hr
theorem g1_16 (p1 p2 p3 p4:Int32) (a5 : Addr) (p6 p7:Int32) (a8 a9 a10 a11 a12 : Addr) (p13 p14:Int32) (a27 a32 : Addr) (k34 : ClassId) (a35 a36 : Addr)
    (H0 : SG p l e R s m args below meth c T0 locs cells slots Z a0 h0 n0 4 16 9 124) (H22 : xE1 Z h0 a12) (H24 : xF3 Z h0 a12 (.int (2:Int32))) (H28 : xF2 Z h0 a12 (.ref a27)) (H30 : xE19 Z h0 a27) (H33 : Mi Z "[Ljava/lang/Object;" a32) (H37 : Arv Z h0 a27 k34 (.object "java/lang/Object") (10:Int32) [(.ref a35), (.ref a36), .null, .null, .null, .null, .null, .null, .null, .null] .null) (H40 : xE5 Z h0 a35) (H42 : xE5 Z h0 a36) (H45 : xF0 Z h0 a12 (.int (2:Int32))) (H47 : xF16 Z h0 a35 (.int (0:Int32))) (H50 : xF16 Z h0 a36 (.int (0:Int32))) (H56 : Sta Z Z.heap "tabula/engine/Concept$Kind" "AND" "Ltabula/engine/Concept$Kind;" (.ref a5)) :
    ∃ (T' : State) (h' : Heap) (L' : List Loc) (b15 b54_0 : Addr), Stand p l e R s m args below meth c T' L' (cells + 4) (slots + 16) ∧ T'.heap = h' ∧ Fr n0 L' ∧ Keep h0 h' [] ∧ h0.size ≤ b15 ∧ h0.size ≤ b54_0 ∧ b15 ≠ b54_0 ∧ xE5 Z h' b15 ∧ xF6 Z h' b15 (.ref a5) ∧ xF10 Z h' b15 (.ref b54_0) ∧ xF16 Z h' b15 (.int (0:Int32)) ∧ xE21 Z h' b54_0 ∧ xF20 Z h' b54_0 (.ref a35) ∧ xF22 Z h' b54_0 (.ref a36) ∧
      ∀ target, St p e below T' m 298 #[iv p1, iv p2, iv p3, iv p4, rv a5, iv p6, iv p7, rv a8, rv a9, rv a10, rv a11, rv a12, iv p13, .val .null, .val .null, iv p14, rv b15, rv b54_0, un] [] target → St p e below T0 m 271 #[iv p1, iv p2, iv p3, iv p4, rv a5, iv p6, iv p7, rv a8, rv a9, rv a10, rv a11, rv a12, iv p13, .val .null, .val .null, iv p14, un, un, un] [] target := by
  obtain ⟨X0, hx, hZ, hw, hby, hml, hown, e0, O0, N0, rc, rs, rf, rl⟩ := H0
  obtain ⟨_, h15, X15, e15, E15, A15, D15, -, st15⟩ := newO X0 hx hZ hown (ow hw 34 rfl) (ow hw 35 rfl) (ow hw 36 rfl) e0 (g := (mkF m 271 #[iv p1, iv p2, iv p3, iv p4, rv a5, iv p6, iv p7, rv a8, rv a9, rv a10, rv a11, rv a12, iv p13, .val .null, .val .null, iv p14, un, un, un] [])) rfl (hb hby at_271) (by omega) (by omega)
  obtain ⟨b15, g15⟩ : ∃ z, z = h0.size := ⟨_, rfl⟩
  rw [← g15] at A15 D15 st15
  have O_E15 : Old Z n0 h15 := O0.ext E15
  have Kp_E15 : Keep h0 h15 [] := (Keep.refl h0 []).ext E15
  have f16 : xF4 Z h15 b15 (.int (0:Int32)) := D15 (Or.inr (ow hw 52 rfl)) (ty := .int) (by decide)
  have g17 : n0 ≤ b15 := Nat.le_trans (Nat.le_trans (Nat.le_of_eq O0.1.symm) O0.2.1) (Nat.le_of_eq g15.symm)
  have f18 : xF6 Z h15 b15 .null := D15 (Or.inr (ow hw 54 rfl)) (ty := (.object "tabula/engine/Concept$Kind")) (by decide)
  have f19 : xF7 Z h15 b15 .null := D15 (Or.inr (ow hw 56 rfl)) (ty := (.object "java/lang/String")) (by decide)
  have f20 : xF8 Z h15 b15 .null := D15 (Or.inr (ow hw 58 rfl)) (ty := (.object "tabula/engine/Role")) (by decide)
  have f21 : xF9 Z h15 b15 (.int (0:Int32)) := D15 (Or.inr (ow hw 60 rfl)) (ty := .int) (by decide)
  have f23 := (H22.ext E15)
  have f25 := (H24.ext E15)
  have ne26 : a12 ≠ b15 := Nat.ne_of_lt (Nat.lt_of_lt_of_le H22.lt (Nat.le_of_eq g15.symm))
  have f29 := (H28.ext E15)
  have f31 := (H30.ext E15)
  have f38 := (H37.ext E15)
  have ne39 : a27 ≠ b15 := Nat.ne_of_lt (Nat.lt_of_lt_of_le H30.lt (Nat.le_of_eq g15.symm))
  have f41 := (H40.ext E15)
  have f43 := (H42.ext E15)
  have f44 : xF10 Z h15 b15 .null := D15 (Or.inr (ow hw 91 rfl)) (ty := (.object "java/util/List")) (by decide)
  have f46 := (H45.ext E15)
  have f48 := (H47.ext E15)
  have ne49 : a35 ≠ b15 := Nat.ne_of_lt (Nat.lt_of_lt_of_le H40.lt (Nat.le_of_eq g15.symm))
  have f51 := (H50.ext E15)
  have ne52 : a36 ≠ b15 := Nat.ne_of_lt (Nat.lt_of_lt_of_le H42.lt (Nat.le_of_eq g15.symm))
  have f53 : xF16 Z h15 b15 (.int (0:Int32)) := D15 (Or.inr (ow hw 130 rfl)) (ty := .boolean) (by decide)
  obtain ⟨T54, _, _, X54, hQ54, st54⟩ := cP X15 hx hZ hw hown (y := y5) rfl 47 rfl 48 rfl 49 rfl 36 rfl (by decide) (W := 1) (r5_3 hw b15 (3:Int32) a5 p14 a12 a27 a32 k34 a35 a36 O_E15 f16 A15 g17 f18 f19 f20 f21 f23 f25 ne26 f29 f31 H33 f38 ne39 f41 f43 f44 f46 f48 ne49 f51 ne52 f53) (by show 8 + 1 ≤ R.frames; omega) (by show 1 + (10 + 11) + 102 ≤ R.locals; omega) e15 (g := (mkF m 286 #[iv p1, iv p2, iv p3, iv p4, rv a5, iv p6, iv p7, rv a8, rv a9, rv a10, rv a11, rv a12, iv p13, .val .null, .val .null, iv p14, un, un, un] [(.ref a12), (.int p14), .null, .null, (.ref a5), (.int (3:Int32)), (.ref b15), (.ref b15)])) rfl (by rw [hml]; rfl) (argsL := [(.int (3:Int32)), (.ref a5), .null, .null, (.int p14), (.ref a12)]) (rest := [(.ref b15)]) (lenOf pd0 rfl) rfl wf (hb hby at_286) rfl (by show cells + 1 + 3 ≤ R.cells; omega) (by show slots + 8 + 8 ≤ R.slots; omega)
  obtain ⟨b54_0, rfl, N54q, K54, lo54_1, f54_2, f54_3, f54_4, f54_5, f54_6, f54_7, f54_8⟩ := hQ54
  have N54 := Fr.app N0 N54q
  have z55 : h0.size ≤ b15 := Nat.le_trans (Keep.refl h0 []).1 (Nat.le_of_eq g15.symm)
  have O_K54 : Old Z n0 T54.heap := O_E15.keep K54 (allS g17 all0)
  have Kp_K54 : Keep h0 T54.heap [] := Kp_E15.trans K54 (allS (Or.inr z55) all0)
  replace X54 : Stand p l e R _ m args below meth c T54 _ (cells + 4) (slots + 16) := X54
  obtain ⟨T57, _, _, X57, hQ57, st57⟩ := cV X54 hx hZ hw hown (y := y17) 136 rfl 137 rfl 139 rfl 138 rfl 140 rfl 36 rfl (by decide) (W := 0) (r17_2 hw b15 a5 b54_0 O_K54 f54_3 H56 f54_4) (by show 0 + 1 ≤ R.frames; omega) (by show 0 + (1 + 11) + 0 ≤ R.locals; omega) f54_2 rfl (g := (mkF m 293 #[iv p1, iv p2, iv p3, iv p4, rv a5, iv p6, iv p7, rv a8, rv a9, rv a10, rv a11, rv a12, iv p13, .val .null, .val .null, iv p14, rv b15, un, un] [(.ref b15)])) rfl (by rw [hml]; rfl) (argsL := []) (rest := []) (lenOf pd20 rfl) rfl wf (hb hby at_293) rfl (by show cells + 4 + 0 ≤ R.cells; omega) (by show slots + 16 + 0 ≤ R.slots; omega)
  obtain ⟨rfl, N57q, e57⟩ := hQ57
  have N57 := Fr.app N54 N57q
  replace X57 : Stand p l e R _ m args below meth c T57 _ (cells + 4) (slots + 16) := X57
  have z58 : h0.size ≤ b54_0 := Nat.le_trans Kp_E15.1 lo54_1
  have ne59 : b15 ≠ b54_0 := Nat.ne_of_lt (Nat.lt_of_lt_of_le A15.lt lo54_1)
  refine ⟨T57, _, _, b15, b54_0, X57.more (by omega) (by omega), e57, N57, Kp_K54, z55, z58, ne59, f54_2, f54_3, f54_4, f54_5, f54_6, f54_7, f54_8, fun target kt => ?_⟩
  show St p e below T0 m 271 #[iv p1, iv p2, iv p3, iv p4, rv a5, iv p6, iv p7, rv a8, rv a9, rv a10, rv a11, rv a12, iv p13, .val .null, .val .null, iv p14, un, un, un] [] _
  refine st15 _ ?_
  refine XS.dup X15.here hx rfl (hb hby at_274) rfl rfl ?_
  refine iC X15 hx hby at_275 ?_
  refine aL X15 hx hby at_276 rfl rfl ?_
  refine aL X15 hx hby at_278 rfl rfl ?_
  refine aL X15 hx hby at_280 rfl rfl ?_
  refine iL X15 hx hby at_282 rfl ?_
  refine aL X15 hx hby at_284 rfl rfl ?_
  refine st54.trans ?_
  refine XS.astore X54.here hx rfl (hb hby at_289) rfl rfl (l' := #[iv p1, iv p2, iv p3, iv p4, rv a5, iv p6, iv p7, rv a8, rv a9, rv a10, rv a11, rv a12, iv p13, .val .null, .val .null, iv p14, rv b15, un, un]) rfl ?_
  refine aL X54 hx hby at_291 rfl rfl ?_
  refine st57.trans ?_
  refine XS.astore X57.here hx rfl (hb hby at_296) rfl rfl (l' := #[iv p1, iv p2, iv p3, iv p4, rv a5, iv p6, iv p7, rv a8, rv a9, rv a10, rv a11, rv a12, iv p13, .val .null, .val .null, iv p14, rv b15, rv b54_0, un]) rfl ?_
  exact kt
theorem d38_0 : dk jdk_44_method_3_code 0 (.aload_n 0) 1 := by decide +kernel
theorem d38_1 : dk jdk_44_method_3_code 1 (.getfield 24) 3 := by decide +kernel
theorem d38_4 : dk jdk_44_method_3_code 4 (.getstatic 19) 3 := by decide +kernel
theorem d38_7 : dk jdk_44_method_3_code 7 (.if_acmp .eq 7) 3 := by decide +kernel
abbrev xE23 (Z : State) (h : Heap) (a : Addr) : Prop := Exa Z h a "java/lang/Object"
theorem d38_10 : dk jdk_44_method_3_code 10 (.iconst 2) 1 := by decide +kernel
theorem d38_11 : dk jdk_44_method_3_code 11 (.goto 4) 3 := by decide +kernel
theorem d38_15 : dk jdk_44_method_3_code 15 .ireturn 1 := by decide +kernel
abbrev y38 : MethodName := ⟨"java/util/ImmutableCollections$List12", "size", "()I"⟩
def r38_1Q (Z : State) (a1 a2 a5 : Addr) (h0 : Heap) (n0 : Nat) : QT := fun v h L => v = some (.int (2:Int32)) ∧ Fr n0 L ∧ h = h0
theorem r38_1 (hw : HW a0 Z) (a1 a2 a5 : Addr) (O0 : Old Z n0 h0) (H3 : xF22 Z h0 a1 (.ref a2)) (H6 : Sta Z Z.heap "java/util/ImmutableCollections" "EMPTY" "Ljava/lang/Object;" (.ref a5)) (H8 : xE23 Z Z.heap a5) (H9 : n0 ≤ a2) :
    MF l y38 jdk_44_method_3_code 1 (some .int) [] (rM 0 0 0 0) Z #[(.ref a1)] h0 (r38_1Q Z a1 a2 a5 h0 n0) := by
  refine own_in (pq pn2) #[rv a1] (fun _ => by first | (simp [entryFrame, mkF, argsToLocals, Value.category]; done) | rfl) ?_
  intro p e s m below meth c s₁ Bd hx hby hml hown hnm hZ e0 X0
  have N0 := Fr.nil n0
  obtain ⟨_, X4, e4, st4⟩ := gF X0 hx hZ hown (ow hw 249 rfl) e0 H3 (g := (mkF m 1 #[rv a1] [(.ref a1)])) rfl rfl (hb hby d38_1)
  obtain ⟨_, X7, e7, st7⟩ := getS2 X4 hx hZ hown (Or.inr (ow hw 276 rfl)) Via.refl e4 (H6.ext O0.2) (g := (mkF m 4 #[rv a1] [(.ref a2)])) rfl (hb hby d38_4)
  have ne10 : a5 ≠ a2 := Old.ne O0 H8.lt H9
  refine fin (Q := r38_1Q Z a1 a2 a5 h0 n0) (rm := (rM 0 0 0 0)) Bd X7 e7 (some (.int (2:Int32))) nofun ⟨rfl, N0, rfl⟩ (by decide) (by decide) fun fs hr => ?_
  show St p e below s₁ m 0 #[rv a1] [] _
  refine aN X0 hx hby d38_0 rfl rfl ?_
  refine st4 _ ?_
  refine st7 _ ?_
  refine Jvm.RoadKit.acmp (g := (mkF m 7 #[rv a1] [(.ref a5), (.ref a2)])) X7 hx rfl rfl rfl (pc0 := 7) (pc' := 10) (same := false) rfl (hb hby d38_7) rfl (decide_eq_false fun q => (Ne.symm ne10) (Value.ref.inj q)) (by decide) (by decide) ?_
  refine iC X7 hx hby d38_10 ?_
  refine XS.goto X7.here hx rfl (pc0 := 11) (pc' := 15) rfl (hb hby d38_11) (by decide) (by decide) ?_
  exact retI X7 hx Bd.returns (hb hby d38_15) hr
theorem pd24 : parseMethodDescriptor "()I" = some ⟨[], some .int⟩ := by decide +kernel
abbrev y39 : MethodName := ⟨"java/util/List", "size", "()I"⟩
theorem d40_0 : dk cJ44_5 0 (.iload_n 1) 1 := by decide +kernel
theorem d40_1 : dk cJ44_5 1 (.ifCond .ne 8) 3 := by decide +kernel
theorem d40_4 : dk cJ44_5 4 (.aload_n 0) 1 := by decide +kernel
theorem d40_5 : dk cJ44_5 5 (.getfield 13) 3 := by decide +kernel
theorem d40_8 : dk cJ44_5 8 .areturn 1 := by decide +kernel
abbrev y40 : MethodName := ⟨"java/util/ImmutableCollections$List12", "get", "(I)Ljava/lang/Object;"⟩
def r40_1Q (Z : State) (a1 a2 : Addr) (h0 : Heap) (n0 : Nat) : QT := fun v h L => v = some (.ref a2) ∧ Fr n0 L ∧ h = h0
theorem r40_1 (hw : HW a0 Z) (a1 a2 : Addr) (O0 : Old Z n0 h0) (H3 : xF20 Z h0 a1 (.ref a2)) :
    MF l y40 cJ44_5 2 (some (.object "java/lang/Object")) [] (rM 0 0 0 0) Z #[(.ref a1), (.int (0:Int32))] h0 (r40_1Q Z a1 a2 h0 n0) := by
  refine own_in (pq pn2) #[rv a1, iv (0:Int32)] (fun _ => by first | (simp [entryFrame, mkF, argsToLocals, Value.category]; done) | rfl) ?_
  intro p e s m below meth c s₁ Bd hx hby hml hown hnm hZ e0 X0
  have N0 := Fr.nil n0
  obtain ⟨_, X4, e4, st4⟩ := gF X0 hx hZ hown (ow hw 247 rfl) e0 H3 (g := (mkF m 5 #[rv a1, iv (0:Int32)] [(.ref a1)])) rfl rfl (hb hby d40_5)
  refine fin (Q := r40_1Q Z a1 a2 h0 n0) (rm := (rM 0 0 0 0)) Bd X4 e4 (some (.ref a2)) nofun ⟨rfl, N0, rfl⟩ (by decide) (by decide) fun fs hr => ?_
  show St p e below s₁ m 0 #[rv a1, iv (0:Int32)] [] _
  refine iN X0 hx hby d40_0 rfl ?_
  refine XS.ifNo X0.here hx rfl (hb hby d40_1) rfl ((if0 _ _).trans (teq (rfl : (0:Int32) = (0:Int32))).2) ?_
  refine aN X0 hx hby d40_4 rfl rfl ?_
  refine st4 _ ?_
  exact retA X4 hx Bd.returns rfl rfl (hb hby d40_8) hr
theorem pd17 : parseMethodDescriptor "(I)Ljava/lang/Object;" = some ⟨[.int], some (.object "java/lang/Object")⟩ := by decide +kernel
abbrev y41 : MethodName := ⟨"java/util/List", "get", "(I)Ljava/lang/Object;"⟩
theorem d40_9 : dk cJ44_5 9 (.iload_n 1) 1 := by decide +kernel
theorem d40_10 : dk cJ44_5 10 (.iconst 1) 1 := by decide +kernel
theorem d40_11 : dk cJ44_5 11 (.if_icmp .ne 18) 3 := by decide +kernel
theorem d40_14 : dk cJ44_5 14 (.aload_n 0) 1 := by decide +kernel
theorem d40_15 : dk cJ44_5 15 (.getfield 24) 3 := by decide +kernel
theorem d40_18 : dk cJ44_5 18 (.getstatic 19) 3 := by decide +kernel
theorem d40_21 : dk cJ44_5 21 (.if_acmp .eq 8) 3 := by decide +kernel
theorem d40_24 : dk cJ44_5 24 (.aload_n 0) 1 := by decide +kernel
theorem d40_25 : dk cJ44_5 25 (.getfield 24) 3 := by decide +kernel
theorem d40_28 : dk cJ44_5 28 .areturn 1 := by decide +kernel
def r40_2Q (Z : State) (a1 a2 a5 : Addr) (h0 : Heap) (n0 : Nat) : QT := fun v h L => v = some (.ref a2) ∧ Fr n0 L ∧ h = h0
theorem r40_2 (hw : HW a0 Z) (a1 a2 a5 : Addr) (O0 : Old Z n0 h0) (H3 : xF22 Z h0 a1 (.ref a2)) (H6 : Sta Z Z.heap "java/util/ImmutableCollections" "EMPTY" "Ljava/lang/Object;" (.ref a5)) (H8 : xE23 Z Z.heap a5) (H9 : n0 ≤ a2) :
    MF l y40 cJ44_5 2 (some (.object "java/lang/Object")) [] (rM 0 0 0 0) Z #[(.ref a1), (.int (1:Int32))] h0 (r40_2Q Z a1 a2 a5 h0 n0) := by
  refine own_in (pq pn2) #[rv a1, iv (1:Int32)] (fun _ => by first | (simp [entryFrame, mkF, argsToLocals, Value.category]; done) | rfl) ?_
  intro p e s m below meth c s₁ Bd hx hby hml hown hnm hZ e0 X0
  have N0 := Fr.nil n0
  obtain ⟨_, X4, e4, st4⟩ := gF X0 hx hZ hown (ow hw 249 rfl) e0 H3 (g := (mkF m 15 #[rv a1, iv (1:Int32)] [(.ref a1)])) rfl rfl (hb hby d40_15)
  obtain ⟨_, X7, e7, st7⟩ := getS2 X4 hx hZ hown (Or.inr (ow hw 276 rfl)) Via.refl e4 (H6.ext O0.2) (g := (mkF m 18 #[rv a1, iv (1:Int32)] [(.ref a2)])) rfl (hb hby d40_18)
  have ne10 : a5 ≠ a2 := Old.ne O0 H8.lt H9
  obtain ⟨_, X11, e11, st11⟩ := gF X7 hx hZ hown (ow hw 249 rfl) e7 H3 (g := (mkF m 25 #[rv a1, iv (1:Int32)] [(.ref a1)])) rfl rfl (hb hby d40_25)
  refine fin (Q := r40_2Q Z a1 a2 a5 h0 n0) (rm := (rM 0 0 0 0)) Bd X11 e11 (some (.ref a2)) nofun ⟨rfl, N0, rfl⟩ (by decide) (by decide) fun fs hr => ?_
  show St p e below s₁ m 0 #[rv a1, iv (1:Int32)] [] _
  refine iN X0 hx hby d40_0 rfl ?_
  refine XS.ifYes X0.here hx rfl (pc0 := 1) (pc' := 9) rfl (hb hby d40_1) rfl ((if0 _ _).trans (feq (by decide : ¬ ((1:Int32) = (0:Int32)))).2) (by decide) (by decide) ?_
  refine iN X0 hx hby d40_9 rfl ?_
  refine iC X0 hx hby d40_10 ?_
  refine XS.icmpNo X0.here hx rfl (hb hby d40_11) rfl (teq (rfl : (1:Int32) = (1:Int32))).2 ?_
  refine aN X0 hx hby d40_14 rfl rfl ?_
  refine st4 _ ?_
  refine st7 _ ?_
  refine Jvm.RoadKit.acmp (g := (mkF m 21 #[rv a1, iv (1:Int32)] [(.ref a5), (.ref a2)])) X7 hx rfl rfl rfl (pc0 := 21) (pc' := 24) (same := false) rfl (hb hby d40_21) rfl (decide_eq_false fun q => (Ne.symm ne10) (Value.ref.inj q)) (by decide) (by decide) ?_
  refine aN X7 hx hby d40_24 rfl rfl ?_
  refine st11 _ ?_
  exact retA X11 hx Bd.returns rfl rfl (hb hby d40_28) hr
theorem g1_17 (p1 p2 p3 p4:Int32) (a5 : Addr) (p6 p7:Int32) (a8 a9 a10 a11 a12 : Addr) (p13 p14:Int32) (a15 a16 a20 : Addr)
    (H0 : SG p l e R s m args below meth c T0 locs cells slots Z a0 h0 n0 0 0 1 13) (hc17 : ¬ (p6 = (0:Int32))) (H18 : xE21 Z h0 a16) (H19 : xF22 Z h0 a16 (.ref a10)) (H21 : Sta Z Z.heap "java/util/ImmutableCollections" "EMPTY" "Ljava/lang/Object;" (.ref a20)) (H22 : xE23 Z Z.heap a20) (H23 : n0 ≤ a10) (hc25 : (2:Int32) = p13) (H26 : xF20 Z h0 a16 (.ref a9)) (hc29 : ¬ (p13 = (3:Int32))) :
    ∃ (T' : State) (L' : List Loc), Stand p l e R s m args below meth c T' L' (cells + 0) (slots + 0) ∧ T'.heap = h0 ∧ Fr n0 L' ∧
      ∀ target, St p e below T' m 391 #[iv p1, iv p2, iv p3, iv p4, rv a5, iv p6, iv p7, rv a8, rv a9, rv a10, rv a11, rv a12, iv p13, .val .null, .val .null, iv p14, rv a15, rv a16, iv (1:Int32)] [(.int (1:Int32))] target → St p e below T0 m 298 #[iv p1, iv p2, iv p3, iv p4, rv a5, iv p6, iv p7, rv a8, rv a9, rv a10, rv a11, rv a12, iv p13, .val .null, .val .null, iv p14, rv a15, rv a16, un] [] target := by
  obtain ⟨X0, hx, hZ, hw, hby, hml, hown, e0, O0, N0, rc, rs, rf, rl⟩ := H0
  obtain ⟨T24, _, _, X24, hQ24, st24⟩ := cI X0 hx hZ hw hown (x := y39) (y := y38) 267 rfl 268 rfl 269 rfl 270 rfl 271 rfl 272 rfl 273 rfl 274 rfl 275 rfl 224 rfl (by decide) (W := 0) (r38_1 hw a16 a10 a20 O0 H19 H21 H22 H23) (by show 0 + 1 ≤ R.frames; omega) (by show 0 + (1 + 11) + 0 ≤ R.locals; omega) H18 e0 (g := (mkF m 313 #[iv p1, iv p2, iv p3, iv p4, rv a5, iv p6, iv p7, rv a8, rv a9, rv a10, rv a11, rv a12, iv p13, .val .null, .val .null, iv p14, rv a15, rv a16, un] [(.ref a16)])) rfl (by rw [hml]; rfl) (argsL := []) (rest := []) (lenOf pd24 rfl) rfl wf (hb hby at_313) rfl (by show cells + 0 + 0 ≤ R.cells; omega) (by show slots + 0 + 0 ≤ R.slots; omega)
  obtain ⟨rfl, N24q, e24⟩ := hQ24
  have N24 := Fr.app N0 N24q
  replace X24 : Stand p l e R _ m args below meth c T24 _ (cells + 0) (slots + 0) := X24
  obtain ⟨T27, _, _, X27, hQ27, st27⟩ := cI X24 hx hZ hw hown (x := y41) (y := y40) 277 rfl 278 rfl 279 rfl 280 rfl 281 rfl 282 rfl 283 rfl 274 rfl 284 rfl 224 rfl (by decide) (W := 0) (r40_1 hw a16 a9 O0 H26) (by show 0 + 1 ≤ R.frames; omega) (by show 0 + (2 + 11) + 0 ≤ R.locals; omega) H18 e24 (g := (mkF m 328 #[iv p1, iv p2, iv p3, iv p4, rv a5, iv p6, iv p7, rv a8, rv a9, rv a10, rv a11, rv a12, iv p13, .val .null, .val .null, iv p14, rv a15, rv a16, un] [(.int (0:Int32)), (.ref a16)])) rfl (by rw [hml]; rfl) (argsL := [(.int (0:Int32))]) (rest := []) (lenOf pd17 rfl) rfl wf (hb hby at_328) rfl (by show cells + 0 + 0 ≤ R.cells; omega) (by show slots + 0 + 0 ≤ R.slots; omega)
  obtain ⟨rfl, N27q, e27⟩ := hQ27
  have N27 := Fr.app N24 N27q
  replace X27 : Stand p l e R _ m args below meth c T27 _ (cells + 0) (slots + 0) := X27
  obtain ⟨T28, _, _, X28, hQ28, st28⟩ := cI X27 hx hZ hw hown (x := y41) (y := y40) 277 rfl 278 rfl 279 rfl 280 rfl 281 rfl 282 rfl 283 rfl 274 rfl 284 rfl 224 rfl (by decide) (W := 0) (r40_2 hw a16 a10 a20 O0 H19 H21 H22 H23) (by show 0 + 1 ≤ R.frames; omega) (by show 0 + (2 + 11) + 0 ≤ R.locals; omega) H18 e27 (g := (mkF m 341 #[iv p1, iv p2, iv p3, iv p4, rv a5, iv p6, iv p7, rv a8, rv a9, rv a10, rv a11, rv a12, iv p13, .val .null, .val .null, iv p14, rv a15, rv a16, un] [(.int (1:Int32)), (.ref a16)])) rfl (by rw [hml]; rfl) (argsL := [(.int (1:Int32))]) (rest := []) (lenOf pd17 rfl) rfl wf (hb hby at_341) rfl (by show cells + 0 + 0 ≤ R.cells; omega) (by show slots + 0 + 0 ≤ R.slots; omega)
  obtain ⟨rfl, N28q, e28⟩ := hQ28
  have N28 := Fr.app N27 N28q
  replace X28 : Stand p l e R _ m args below meth c T28 _ (cells + 0) (slots + 0) := X28
  refine ⟨T28, _, X28.more (by omega) (by omega), e28, N28, fun target kt => ?_⟩
  show St p e below T0 m 298 #[iv p1, iv p2, iv p3, iv p4, rv a5, iv p6, iv p7, rv a8, rv a9, rv a10, rv a11, rv a12, iv p13, .val .null, .val .null, iv p14, rv a15, rv a16, un] [] _
  refine iL X0 hx hby at_298 rfl ?_
  refine XS.ifYes X0.here hx rfl (pc0 := 300) (pc' := 311) rfl (hb hby at_300) rfl ((if0 _ _).trans (feq hc17).2) (by decide) (by decide) ?_
  refine aL X0 hx hby at_311 rfl rfl ?_
  refine st24.trans ?_
  refine iL X24 hx hby at_318 rfl ?_
  refine XS.icmpYes X24.here hx rfl (pc0 := 320) (pc' := 325) rfl (hb hby at_320) rfl (teq hc25).1 (by decide) (by decide) ?_
  refine aL X24 hx hby at_325 rfl rfl ?_
  refine iC X24 hx hby at_327 ?_
  refine st27.trans ?_
  refine aL X27 hx hby at_333 rfl rfl ?_
  refine Jvm.RoadKit.acmp (g := (mkF m 335 #[iv p1, iv p2, iv p3, iv p4, rv a5, iv p6, iv p7, rv a8, rv a9, rv a10, rv a11, rv a12, iv p13, .val .null, .val .null, iv p14, rv a15, rv a16, un] [(.ref a9), (.ref a9)])) X27 hx rfl rfl rfl (pc0 := 335) (pc' := 338) (same := true) rfl (hb hby at_335) rfl (decide_eq_true rfl) (by decide) (by decide) ?_
  refine aL X27 hx hby at_338 rfl rfl ?_
  refine iC X27 hx hby at_340 ?_
  refine st28.trans ?_
  refine aL X28 hx hby at_346 rfl rfl ?_
  refine Jvm.RoadKit.acmp (g := (mkF m 348 #[iv p1, iv p2, iv p3, iv p4, rv a5, iv p6, iv p7, rv a8, rv a9, rv a10, rv a11, rv a12, iv p13, .val .null, .val .null, iv p14, rv a15, rv a16, un] [(.ref a10), (.ref a10)])) X28 hx rfl rfl rfl (pc0 := 348) (pc' := 351) (same := true) rfl (hb hby at_348) rfl (decide_eq_true rfl) (by decide) (by decide) ?_
  refine iC X28 hx hby at_351 ?_
  refine XS.goto X28.here hx rfl (pc0 := 352) (pc' := 356) rfl (hb hby at_352) (by decide) (by decide) ?_
  refine XS.istore X28.here hx rfl (hb hby at_356) rfl (l' := #[iv p1, iv p2, iv p3, iv p4, rv a5, iv p6, iv p7, rv a8, rv a9, rv a10, rv a11, rv a12, iv p13, .val .null, .val .null, iv p14, rv a15, rv a16, iv (1:Int32)]) rfl ?_
  refine iL X28 hx hby at_358 rfl ?_
  refine iC X28 hx hby at_360 ?_
  refine XS.icmpYes X28.here hx rfl (pc0 := 361) (pc' := 389) rfl (hb hby at_361) rfl (feq hc29).2 (by decide) (by decide) ?_
  refine iL X28 hx hby at_389 rfl ?_
  exact kt
theorem law_5 (l : Launch) (Z : State) (a0 : Array Value) (hw : HW a0 Z) (ws : List Jvm.Cond) (w0 w1 w2 w3 w4 w5 w6 w7 w8 w9 w10 w11 w12 w13 w14 : Addr) (k_w10 k_w11 k_w13 : ClassId) (wMir : Addr) (B : Base Z w0 w1 w2 w3 w4 w5 w6 w7 w8 w9 w10 w11 w12 w13 w14 k_w10 k_w11 k_w13 wMir) (i0 i1 i2:Int32) (h0 : Heap) (n0 : Nat) (O0 : Old Z n0 h0) (pin0 : ((i0 &&& (2147483647:Int32)) % (10:Int32)) = (4:Int32)) (pin1 : (i1 &&& (1:Int32)) = (0:Int32)) :
    MetFree l x (head1 (Jvm.Cond.code x code maxLocals ret :: ws) room_1) (fun a U => a = #[(.int i0), (.int i1), (.int i2)] ∧ Z.Warmed39 U.vm ∧ U.heap = h0) (fun _ _ _ _ _ => True) (fun _ U o U' => ∃ v L, o = .returned v ∧ lawQ n0 v U'.heap L ∧ ReturnedEndW U o U' L room_1.cells room_1.slots) := by
  refine own_in (pq pn4) #[iv i0, iv i1, iv i2, un, un, un, un, un, un, un, un, un, un, un, un, un, un, un, un] (fun _ => by first | (simp [entryFrame, mkF, argsToLocals, Value.category, maxLocals]; done) | rfl) ?_
  intro p e s m below meth c s₁ Bd hx hby hml hown hnm hZ e0 X0
  have N0 := Fr.nil n0
  skip
  obtain ⟨_, _, _, X1, hQ1, st1⟩ := cS X0 hx hZ hw hown (y := y0) 1 rfl 2 rfl 3 rfl 4 rfl (by decide) (W := 0) (r0_5 hw w2 O0 (B.1.2.2.2.2.1)) (by decide) (by decide) e0 (g := (mkF m 9 #[iv i0, iv i1, iv i2, iv (4:Int32), un, un, un, un, un, un, un, un, un, un, un, un, un, un, un] [(.int (4:Int32))])) rfl (by rw [hml]; rfl) (argsL := [(.int (4:Int32))]) (rest := []) (lenOf pd9 rfl) rfl wf (hb hby at_9) rfl (by decide) (by decide)
  obtain ⟨rfl, N1q, e1⟩ := hQ1
  have N1 := Fr.app N0 N1q
  obtain ⟨_, _, X2, e2, N2, st2⟩ := g1_14 i0 i1 i2 (4:Int32) w2 ⟨X1, hx, hZ, hw, hby, hml, hown, e1, O0, N1, by decide, by decide, by decide, by decide⟩ (by decide) (by decide)
  obtain ⟨_, h3, _, vm3, b3_0, b3_1, b3_2, b3_3, b3_4, X3, e3, hSq3, N3, K3, _, _, lo3_3, _, lo3_5, _, _, _, _, _, _, nq3_12, _, nq3_14, _, _, _, _, _, f3_20, _, _, f3_23, f3_24, _, _, f3_27, _, _, _, _, f3_32, f3_33, f3_34, f3_35, st3⟩ := g1_2 i0 i1 i2 (4:Int32) w2 (1:Int32) (0:Int32) w11 w1 w12 ⟨X2, hx, hZ, hw, hby, hml, hown, e2, O0, N2, by decide, by decide, by decide, by decide⟩ (B.2.1.2.2.2.2.2.2.2.2.2.2.1) (B.1.2.2.1) (B.2.2.1.1)
  obtain ⟨Y3, hS3, hZ3, hown3⟩ := rebS (s := s) (vm0 := s.vm) (State.WarmedH.since (State.WarmedH.refl s) 0) (Nat.zero_le _) X3 hSq3 K3.1 hZ hown
  have O_K3 : Old Z n0 h3 := O0.keep K3 all0
  have g4 : n0 ≤ b3_4 := Nat.le_trans (Nat.le_trans (Nat.le_of_eq O0.1.symm) O0.2.1) lo3_5
  obtain ⟨_, h5, _, b5_0, k5_0, X5, e5, N5, K5, _, f5_2, f5_3, f5_4, f5_5, f5_6, f5_7, _, st5⟩ := g1_15 i0 i1 i2 (4:Int32) w2 (1:Int32) (0:Int32) b3_0 b3_1 b3_2 b3_3 b3_4 (0:Int32) w11 k_w11 ⟨Y3, hx, hZ3, hw, hby, hml, hown3, e3, O_K3, N3, by decide, by decide, by decide, by decide⟩ (by decide) pin1 f3_32 f3_33 g4 f3_34 f3_35 (B.2.2.2.1.2.2.2.2.2.2.2.1) (B.2.1.2.2.2.2.2.2.2.2.2.2.1) f3_20 f3_24
  have O_K5 : Old Z n0 h5 := O_K3.keep K5 (allS g4 all0)
  obtain ⟨_, _, X7, e7, N7, st7⟩ := g1_4 i0 i1 i2 (4:Int32) w2 (1:Int32) (0:Int32) b3_0 b3_1 b3_2 b3_3 b3_4 (2:Int32) ⟨X5, hx, hZ3, hw, hby, hml, hown3, e5, O_K5, N5, by decide, by decide, by decide, by decide⟩ (by decide)
  obtain ⟨_, _, X8, e8, N8, st8⟩ := g1_5 i0 i1 i2 (4:Int32) w2 (1:Int32) (0:Int32) b3_0 b3_1 b3_2 b3_3 b3_4 (2:Int32) ⟨X7, hx, hZ3, hw, hby, hml, hown3, e7, O_K5, N7, by decide, by decide, by decide, by decide⟩ (by decide) (by decide)
  obtain ⟨_, _, X9, e9, N9, st9⟩ := g1_6 i0 i1 i2 (4:Int32) w2 (1:Int32) (0:Int32) b3_0 b3_1 b3_2 b3_3 b3_4 (2:Int32) ⟨X8, hx, hZ3, hw, hby, hml, hown3, e8, O_K5, N8, by decide, by decide, by decide, by decide⟩ (by decide) (by decide) (by decide) (by decide)
  have f10 := (f3_20.keep K5)
  have f11 := (f3_24.keep K5)
  have f12 := (f3_23.keep K5 (ninS nq3_12 nin0))
  have f13 := (f3_27.keep K5 (ninS nq3_14 nin0))
  obtain ⟨_, h14, _, b14_0, b14_1, X14, e14, N14, K14, _, _, _, _, _, _, _, f14_8, f14_9, f14_10, st14⟩ := g1_16 i0 i1 i2 (4:Int32) w2 (1:Int32) (0:Int32) b3_0 b3_1 b3_2 b3_3 b3_4 (2:Int32) (0:Int32) b5_0 wMir k5_0 b3_1 b3_2 ⟨X9, hx, hZ3, hw, hby, hml, hown3, e9, O_K5, N9, by decide, by decide, by decide, by decide⟩ f5_2 f5_5 f5_4 f5_7 (B.2.2.2.2.2.2.2.2.2.2.2.2.2.2.2) f5_6 f10 f11 f5_3 f12 f13 (B.1.2.2.2.2.1)
  have O_K14 : Old Z n0 h14 := O_K5.keep K14 all0
  have g15 : n0 ≤ b3_2 := Nat.le_trans (Nat.le_trans (Nat.le_of_eq O0.1.symm) O0.2.1) lo3_3
  obtain ⟨T16, _, X16, e16, N16, st16⟩ := g1_17 i0 i1 i2 (4:Int32) w2 (1:Int32) (0:Int32) b3_0 b3_1 b3_2 b3_3 b3_4 (2:Int32) (0:Int32) b14_0 b14_1 w14 ⟨X14, hx, hZ3, hw, hby, hml, hown3, e14, O_K14, N14, by decide, by decide, by decide, by decide⟩ (by decide) f14_8 f14_10 (B.2.2.1.2.2.2.2.1) (B.2.2.1.2.2.2.2.2.1) g15 (by decide) f14_9 (by decide)
  obtain ⟨_, hr, hrun, hended, hE⟩ := Stand.leaveW (s := s) (vm₁ := vm3) X16 hS3 (by rw [e16]; exact (Nat.le_trans (Nat.le_trans (Nat.le_refl _) K5.1) K14.1)) (v := some (.int (1:Int32))) (fun h => by rw [Bd.returns] at h; cases h)
  refine ⟨_, _, ?_, hrun, hended, _, _, rfl, ?_, hE.1, hE.2.1, hE.2.2.1, hE.2.2.2.mono (by decide) (by decide)⟩
  · show St p e below s₁ m 0 #[iv i0, iv i1, iv i2, un, un, un, un, un, un, un, un, un, un, un, un, un, un, un, un] [] _
    refine iN X0 hx hby at_0 rfl ?_
    refine X0.ldcInt hx hown (mo hZ hw 0 rfl) (g := (mkF m 1 #[iv i0, iv i1, iv i2, un, un, un, un, un, un, un, un, un, un, un, un, un, un, un, un] [(.int i0)])) rfl (hb hby at_1) _ ?_
    refine XS.iand X0.here hx rfl (hb hby at_3) rfl ?_
    refine XS.bipush X0.here hx rfl (hb hby at_4) ?_
    refine Jvm.RoadKit.iremM (g := (mkF m 6 #[iv i0, iv i1, iv i2, un, un, un, un, un, un, un, un, un, un, un, un, un, un, un, un] [(.int (10:Int32)), (.int (i0 &&& (2147483647:Int32)))])) X0 hx rfl (hb hby at_6) rfl (by decide : ¬ ((10:Int32) = (0:Int32))) ?_
    show St p e below s₁ m 7 #[iv i0, iv i1, iv i2, un, un, un, un, un, un, un, un, un, un, un, un, un, un, un, un] [(.int ((i0 &&& (2147483647:Int32)) % (10:Int32)))] _
    rw [pin0]
    refine XS.istoreN X0.here hx rfl (hb hby at_7) rfl (l' := #[iv i0, iv i1, iv i2, iv (4:Int32), un, un, un, un, un, un, un, un, un, un, un, un, un, un, un]) rfl ?_
    refine iN X0 hx hby at_8 rfl ?_
    refine st1 _ ?_
    refine XS.astore X1.here hx rfl (hb hby at_12) rfl rfl (l' := #[iv i0, iv i1, iv i2, iv (4:Int32), rv w2, un, un, un, un, un, un, un, un, un, un, un, un, un, un]) rfl ?_
    refine st2 _ ?_
    refine st3 _ ?_
    refine st5 _ ?_
    refine st7 _ ?_
    refine st8 _ ?_
    refine st9 _ ?_
    refine st14 _ ?_
    refine st16 _ ?_
    exact retN X16 hx (t := .boolean) Bd.returns (by simp) (hb hby at_391) hr
  · show lawQ n0 _ T16.heap _
    rw [e16]
    exact ⟨rfl, N16⟩
def r21_3Q (Z : State) (a1 a2 a3 : Addr) (k5 : ClassId) (a6 a7 : Addr) (h0 : Heap) (n0 : Nat) : QT := fun v h L => v = none ∧ Fr n0 L ∧ Keep h0 h [a3, a1] ∧ Arv Z h a3 k5 (.object "java/lang/Object") (10:Int32) [(.ref a6), (.ref a7), (.ref a2), .null, .null, .null, .null, .null, .null, .null] .null ∧ Ovr Z k5 "java/lang/Object" ∧ xE19 Z h a3 ∧ xF3 Z h a1 (.int (3:Int32)) ∧ xE1 Z h a1 ∧ xF0 Z h a1 (.int (3:Int32)) ∧ xF2 Z h a1 (.ref a3)
theorem r21_3 (hw : HW a0 Z) (a1 a2 a3 : Addr) (k5 : ClassId) (a6 a7 : Addr) (O0 : Old Z n0 h0) (H8 : Arv Z h0 a3 k5 (.object "java/lang/Object") (10:Int32) [(.ref a6), (.ref a7), .null, .null, .null, .null, .null, .null, .null, .null] .null) (H10 : Ovr Z k5 "java/lang/Object") (H11 : xE5 Z h0 a2) (H13 : n0 ≤ a3) (H15 : xF3 Z h0 a1 (.int (2:Int32))) (H16 : a1 ≠ a3) (H18 : xE1 Z h0 a1) (H21 : n0 ≤ a1) (H24 : xE19 Z h0 a3) (H26 : xF0 Z h0 a1 (.int (3:Int32))) (H29 : xF2 Z h0 a1 (.ref a3)) :
    MF l y21 cJ38_24 4 none [] (rM 0 0 0 0) Z #[(.ref a1), (.ref a2), (.ref a3), (.int (2:Int32))] h0 (r21_3Q Z a1 a2 a3 k5 a6 a7 h0 n0) := by
  refine own_in (pq pn10) #[rv a1, rv a2, rv a3, iv (2:Int32)] (fun _ => by first | (simp [entryFrame, mkF, argsToLocals, Value.category]; done) | rfl) ?_
  intro p e s m below meth c s₁ Bd hx hby hml hown hnm hZ e0 X0
  have N0 := Fr.nil n0
  obtain ⟨_, Ar4, _, S4, M4, _, _⟩ := id H8
  obtain ⟨cl9, Ar9, q9, S9, M9, H9, G9⟩ := id H8
  have hin9 : ¬ ((2:Int32) < 0 ∨ cl9.slots.size ≤ ((2:Int32)).toNatClampNeg) := inb_of S9 ⟨by decide, by decide⟩
  obtain ⟨_, h9, X9, e9, W9, st9⟩ := stR X0 hx hZ e0 Ar9 (j := (2:Int32)) hin9 rfl (Sto.ofV Ar9 q9 H10 (Ins.of_exa H11 (ow hw 188 rfl))) (g := (mkF m 14 #[rv a1, rv a2, rv a3, iv (2:Int32)] [(.ref a2), (.int (2:Int32)), (.ref a3)])) rfl rfl (hb hby d21_14)
  have Kp_W9 : Keep h0 h9 [a3, a1] := (Keep.refl h0 [a3, a1]).wr W9 (mI 0 rfl)
  have N14 := Fr.snoc X9 N0 H13
  have f12 : Arv Z h9 a3 k5 (.object "java/lang/Object") (10:Int32) [(.ref a6), (.ref a7), (.ref a2), .null, .null, .null, .null, .null, .null, .null] .null := Arv.set Ar9 q9 S9 M9 H9 G9 rfl W9 2 rfl (Nat.le_of_ble_eq_true rfl)
  have f17 := (H15.other W9 (Or.inl H16))
  have f19 := (H18.wr W9)
  obtain ⟨_, h20, X20, e20, W20, st20⟩ := pF X9 hx hZ hown (ow hw 84 rfl) e9 f17 f19 (Or.inl (ow hw 85 rfl)) (ow hw 9 rfl) (ty := .int) (by decide) rfl rfl (g := (mkF m 19 #[rv a1, rv a2, rv a3, iv (2:Int32)] [(.int (3:Int32)), (.ref a1)])) rfl rfl (hb hby d21_19)
  have Kp_W20 : Keep h0 h20 [a3, a1] := Kp_W9.wr W20 (mI 1 rfl)
  have N22 := Fr.snoc X20 N14 H21
  have f23 := f17.same W20
  have f25 := ((H24.wr W9).wr W20)
  have f27 := (f19.wr W20)
  have f28 := ((H26.other W9 (Or.inl H16)).other W20 (Or.inr (sn38 hw)))
  have f30 := ((H29.other W9 (Or.inl H16)).other W20 (Or.inr (slot_ne (Or.inl (ow hw 33 rfl)) (Or.inl (ow hw 85 rfl)) (by decide) (t := (.array (.object "java/lang/Object"))) (t' := .int) (by decide) (by decide))))
  have f31 := (f12.other W20 (Ne.symm H16))
  have f32 := H10
  refine fin (Q := r21_3Q Z a1 a2 a3 k5 a6 a7 h0 n0) (rm := (rM 0 0 0 0)) Bd X20 e20 (none) (fun _ => rfl) ⟨rfl, N22, Kp_W20, f31, f32, f25, f23, f27, f28, f30⟩ (by decide) (by decide) fun fs hr => ?_
  show St p e below s₁ m 0 #[rv a1, rv a2, rv a3, iv (2:Int32)] [] _
  refine iN X0 hx hby d21_0 rfl ?_
  refine aN X0 hx hby d21_1 rfl rfl ?_
  refine X0.arraylength hx (by rw [e0]; exact Ar4.1) (State.isArrayOf_alike hZ.alike Ar4.2.1) (g := (mkF m 2 #[rv a1, rv a2, rv a3, iv (2:Int32)] [(.ref a3), (.int (2:Int32))])) rfl rfl (hb hby d21_2) _ ?_
  rw [len_of S4 M4]
  refine XS.icmpYes X0.here hx rfl (pc0 := 3) (pc' := 11) rfl (hb hby d21_3) rfl (feq (by decide : ¬ ((2:Int32) = (10:Int32)))).2 (by decide) (by decide) ?_
  refine aN X0 hx hby d21_11 rfl rfl ?_
  refine iN X0 hx hby d21_12 rfl ?_
  refine aN X0 hx hby d21_13 rfl rfl ?_
  refine st9 _ ?_
  refine aN X9 hx hby d21_15 rfl rfl ?_
  refine iN X9 hx hby d21_16 rfl ?_
  refine iC X9 hx hby d21_17 ?_
  refine XS.iadd X9.here hx rfl (hb hby d21_18) rfl ?_
  refine st20 _ ?_
  exact X20.returnOut hx Bd.returns (hb hby d21_22) hr
def r20_3Q (Z : State) (a1 a2 a10 : Addr) (k18 : ClassId) (a19 a20 : Addr) (h0 : Heap) (n0 : Nat) : QT := fun v h L => v = some (.int (1:Int32)) ∧ Fr n0 L ∧ Keep h0 h [a1, a10] ∧ xF0 Z h a1 (.int (3:Int32)) ∧ xE1 Z h a1 ∧ xF2 Z h a1 (.ref a10) ∧ xF3 Z h a1 (.int (3:Int32)) ∧ Arv Z h a10 k18 (.object "java/lang/Object") (10:Int32) [(.ref a19), (.ref a20), (.ref a2), .null, .null, .null, .null, .null, .null, .null] .null ∧ Ovr Z k18 "java/lang/Object" ∧ xE19 Z h a10
theorem r20_3 (hw : HW a0 Z) (a1 a2 a10 : Addr) (k18 : ClassId) (a19 a20 : Addr) (O0 : Old Z n0 h0) (H3 : xF0 Z h0 a1 (.int (2:Int32))) (H5 : xE1 Z h0 a1) (H7 : n0 ≤ a1) (H11 : xF2 Z h0 a1 (.ref a10)) (H15 : xF3 Z h0 a1 (.int (2:Int32))) (H21 : Arv Z h0 a10 k18 (.object "java/lang/Object") (10:Int32) [(.ref a19), (.ref a20), .null, .null, .null, .null, .null, .null, .null, .null] .null) (H22 : a10 ≠ a1) (H24 : Ovr Z k18 "java/lang/Object") (H26 : xE5 Z h0 a2) (H28 : n0 ≤ a10) (H29 : xE19 Z h0 a10) :
    MF l y20 cJ38_25 2 (some .boolean) [] (rM 1 0 0 15) Z #[(.ref a1), (.ref a2)] h0 (r20_3Q Z a1 a2 a10 k18 a19 a20 h0 n0) := by
  refine own_in (pq pn10) #[rv a1, rv a2] (fun _ => by first | (simp [entryFrame, mkF, argsToLocals, Value.category]; done) | rfl) ?_
  intro p e s m below meth c s₁ Bd hx hby hml hown hnm hZ e0 X0
  have N0 := Fr.nil n0
  obtain ⟨_, X4, e4, st4⟩ := getF X0 hx hZ hown (host := "") (Or.inl (ow hw 166 rfl)) (Via.of (ow hw 114 rfl)) e0 H3 (g := (mkF m 2 #[rv a1, rv a2] [(.ref a1), (.ref a1)])) rfl rfl (hb hby d20_2)
  obtain ⟨_, h6, X6, e6, W6, st6⟩ := putF X4 hx hZ hown (host := "") (Or.inl (ow hw 166 rfl)) (Via.of (ow hw 114 rfl)) e4 H3 H5 (Or.inl (ow hw 30 rfl)) (ow hw 9 rfl) (ty := .int) (by decide) rfl rfl (g := (mkF m 7 #[rv a1, rv a2] [(.int (3:Int32)), (.ref a1)])) rfl rfl (hb hby d20_7)
  have O_W6 : Old Z n0 h6 := O0.wr W6 H7
  have Kp_W6 : Keep h0 h6 [a1, a10] := (Keep.refl h0 [a1, a10]).wr W6 (mI 0 rfl)
  have N8 := Fr.snoc X6 N0 H7
  have f9 := H3.same W6
  have f12 := (H5.wr W6)
  have f13 := (H11.other W6 (Or.inr (slot_ne (Or.inl (ow hw 33 rfl)) (Or.inl (ow hw 30 rfl)) (by decide) (t := (.array (.object "java/lang/Object"))) (t' := .int) (by decide) (by decide))))
  obtain ⟨_, X14, e14, st14⟩ := gF X6 hx hZ hown (ow hw 32 rfl) e6 f13 (g := (mkF m 13 #[rv a1, rv a2] [(.ref a1), (.ref a2), (.ref a1)])) rfl rfl (hb hby d20_13)
  have f16 := (H15.other W6 (Or.inr (sn1 hw)))
  obtain ⟨_, X17, e17, st17⟩ := gF X14 hx hZ hown (ow hw 84 rfl) e14 f16 (g := (mkF m 17 #[rv a1, rv a2] [(.ref a1), (.ref a10), (.ref a2), (.ref a1)])) rfl rfl (hb hby d20_17)
  have f23 := (H21.other W6 H22)
  have f25 := H24
  have f27 := (H26.wr W6)
  have f30 := (H29.wr W6)
  obtain ⟨_, q31, q31'⟩ := f12.cell
  obtain ⟨T31, _, _, X31, hQ31, st31⟩ := fl X17 (X17.privateBack hx (y := y21) hown (mo hZ hw 167 rfl) (mo hZ hw 168 rfl) (mo hZ hw 170 rfl) (Cond.privateMethod_at (mvP hZ (ow hw 169 rfl) (args := #[]))) (mo hZ hw 171 rfl) (by decide) (backOf (W := 0) (r21_3 hw a1 a2 a10 k18 a19 a20 O_W6 f23 f25 f27 H28 f16 (Ne.symm H22) f12 H7 f30 f9 f13) hZ (ow hw 171 rfl) (ow hw 10 rfl) (by decide) (by decide)) (g := (mkF m 20 #[rv a1, rv a2] [(.int (2:Int32)), (.ref a10), (.ref a2), (.ref a1)])) rfl (by rw [hml]; rfl) (Steps.refl _) (a := a1) (by rw [e17]; exact q31) q31' (argsL := [(.ref a2), (.ref a10), (.int (2:Int32))]) (rest := []) (lenOf pd3 rfl) rfl wf (hb hby d20_20) (fun _ _ => ⟨rfl, e17, (by decide : 0 + 0 ≤ _), (by decide : 0 + 0 ≤ _)⟩))
  obtain ⟨rfl, N31q, K31, f31_1, f31_2, f31_3, f31_4, f31_5, f31_6, f31_7⟩ := hQ31
  have N31 := Fr.app N8 N31q
  have Kp_K31 : Keep h0 T31.heap [a1, a10] := Kp_W6.trans K31 (allS (mI 1 rfl) (allS (mI 0 rfl) all0))
  refine fin (Q := r20_3Q Z a1 a2 a10 k18 a19 a20 h0 n0) (rm := (rM 1 0 0 15)) Bd X31 rfl (some (.int (1:Int32))) nofun ⟨rfl, N31, Kp_K31, f31_6, f31_5, f31_7, f31_4, f31_1, f31_2, f31_3⟩ (by decide) (by decide) fun fs hr => ?_
  show St p e below s₁ m 0 #[rv a1, rv a2] [] _
  refine aN X0 hx hby d20_0 rfl rfl ?_
  refine XS.dup X0.here hx rfl (hb hby d20_1) rfl rfl ?_
  refine st4 _ ?_
  refine iC X4 hx hby d20_5 ?_
  refine XS.iadd X4.here hx rfl (hb hby d20_6) rfl ?_
  refine st6 _ ?_
  refine aN X6 hx hby d20_10 rfl rfl ?_
  refine aN X6 hx hby d20_11 rfl rfl ?_
  refine aN X6 hx hby d20_12 rfl rfl ?_
  refine st14 _ ?_
  refine aN X14 hx hby d20_16 rfl rfl ?_
  refine st17 _ ?_
  refine st31.trans ?_
  refine iC X31 hx hby d20_23 ?_
  exact retN X31 hx (t := .boolean) Bd.returns (by simp) (hb hby d20_24) hr
theorem g1_18 (p1 p2 p3 p4:Int32) (a5 : Addr) (p6 p7:Int32) (a8 a9 a10 a11 a12 : Addr) (p13:Int32) (a19 : Addr) (k22 : ClassId)
    (H0 : SG p l e R s m args below meth c T0 locs cells slots Z a0 h0 n0 1 10 5 69) (hc14 : ¬ (p6 = (0:Int32))) (pin15 : (p2 &&& (1:Int32)) = (1:Int32)) (H16 : xE1 Z h0 a12) (H17 : xF0 Z h0 a12 (.int (0:Int32))) (H18 : n0 ≤ a12) (H20 : xF2 Z h0 a12 (.ref a19)) (H21 : xF3 Z h0 a12 (.int (0:Int32))) (H23 : Arv Z Z.heap a19 k22 (.object "java/lang/Object") (0:Int32) [] .null) (H24 : Sta Z Z.heap "java/util/ArrayList" "DEFAULTCAPACITY_EMPTY_ELEMENTDATA" "[Ljava/lang/Object;" (.ref a19)) (H25 : xE5 Z h0 a9) (H28 : xE5 Z h0 a10) (H33 : xE5 Z h0 a11) :
    ∃ (T' : State) (h' : Heap) (L' : List Loc) (b26_0 : Addr) (k26_0 : ClassId), Stand p l e R s m args below meth c T' L' (cells + 1) (slots + 10) ∧ T'.heap = h' ∧ Fr n0 L' ∧ Keep h0 h' [a12] ∧ h0.size ≤ b26_0 ∧ xE1 Z h' a12 ∧ xF0 Z h' a12 (.int (3:Int32)) ∧ xF2 Z h' a12 (.ref b26_0) ∧ xF3 Z h' a12 (.int (3:Int32)) ∧ Arv Z h' b26_0 k26_0 (.object "java/lang/Object") (10:Int32) [(.ref a9), (.ref a10), (.ref a11), .null, .null, .null, .null, .null, .null, .null] .null ∧ xE19 Z h' b26_0 ∧ Ovr Z k26_0 "java/lang/Object" ∧
      ∀ target, St p e below T' m 180 #[iv p1, iv p2, iv p3, iv p4, rv a5, iv p6, iv p7, rv a8, rv a9, rv a10, rv a11, rv a12, iv (3:Int32), un, un, un, un, un, un] [] target → St p e below T0 m 122 #[iv p1, iv p2, iv p3, iv p4, rv a5, iv p6, iv p7, rv a8, rv a9, rv a10, rv a11, rv a12, iv p13, un, un, un, un, un, un] [] target := by
  obtain ⟨X0, hx, hZ, hw, hby, hml, hown, e0, O0, N0, rc, rs, rf, rl⟩ := H0
  obtain ⟨T26, _, _, X26, hQ26, st26⟩ := cV X0 hx hZ hw hown (y := y20) 161 rfl 162 rfl 164 rfl 163 rfl 165 rfl 10 rfl (by decide) (W := 0) (r20_1 hw a12 a9 a19 k22 O0 H17 H16 H18 H20 H21 H23 H24 H25) (by show 4 + 1 ≤ R.frames; omega) (by show 0 + (2 + 11) + 56 ≤ R.locals; omega) H16 e0 (g := (mkF m 138 #[iv p1, iv p2, iv p3, iv p4, rv a5, iv p6, iv p7, rv a8, rv a9, rv a10, rv a11, rv a12, iv (3:Int32), un, un, un, un, un, un] [(.ref a9), (.ref a12)])) rfl (by rw [hml]; rfl) (argsL := [(.ref a9)]) (rest := []) (lenOf pd16 rfl) rfl wf (hb hby at_138) rfl (by show cells + 0 + 1 ≤ R.cells; omega) (by show slots + 0 + 10 ≤ R.slots; omega)
  obtain ⟨b26_0, k26_0, rfl, N26q, K26, lo26_1, f26_2, f26_3, f26_4, f26_5, f26_6, f26_7, f26_8⟩ := hQ26
  have N26 := Fr.app N0 N26q
  have O_K26 : Old Z n0 T26.heap := O0.keep K26 (allS H18 all0)
  have Kp_K26 : Keep h0 T26.heap [a12] := (Keep.refl h0 [a12]).trans K26 (allS (mI 0 rfl) all0)
  replace X26 : Stand p l e R _ m args below meth c T26 _ (cells + 1) (slots + 10) := X26
  have ne27 : a12 ≠ b26_0 := Nat.ne_of_lt (Nat.lt_of_lt_of_le H16.lt lo26_1)
  have f29 := (H28.keep K26)
  have g30 : n0 ≤ b26_0 := Nat.le_trans (Nat.le_trans (Nat.le_of_eq O0.1.symm) O0.2.1) lo26_1
  obtain ⟨T31, _, _, X31, hQ31, st31⟩ := cV X26 hx hZ hw hown (y := y20) 161 rfl 162 rfl 164 rfl 163 rfl 165 rfl 10 rfl (by decide) (W := 0) (r20_2 hw a12 a10 b26_0 k26_0 a9 O_K26 f26_2 f26_3 H18 f26_4 f26_5 f26_6 (Ne.symm ne27) f26_8 f29 g30 f26_7) (by show 1 + 1 ≤ R.frames; omega) (by show 0 + (2 + 11) + 15 ≤ R.locals; omega) f26_3 rfl (g := (mkF m 146 #[iv p1, iv p2, iv p3, iv p4, rv a5, iv p6, iv p7, rv a8, rv a9, rv a10, rv a11, rv a12, iv (3:Int32), un, un, un, un, un, un] [(.ref a10), (.ref a12)])) rfl (by rw [hml]; rfl) (argsL := [(.ref a10)]) (rest := []) (lenOf pd16 rfl) rfl wf (hb hby at_146) rfl (by show cells + 1 + 0 ≤ R.cells; omega) (by show slots + 10 + 0 ≤ R.slots; omega)
  obtain ⟨rfl, N31q, K31, f31_1, f31_2, f31_3, f31_4, f31_5, f31_6, f31_7⟩ := hQ31
  have N31 := Fr.app N26 N31q
  have z32 : h0.size ≤ b26_0 := Nat.le_trans (Keep.refl h0 [a12]).1 lo26_1
  have O_K31 : Old Z n0 T31.heap := O_K26.keep K31 (allS H18 (allS g30 all0))
  have Kp_K31 : Keep h0 T31.heap [a12] := Kp_K26.trans K31 (allS (mI 0 rfl) (allS (Or.inr z32) all0))
  replace X31 : Stand p l e R _ m args below meth c T31 _ (cells + 1) (slots + 10) := X31
  have f34 := ((H33.keep K26).keep K31)
  obtain ⟨T35, _, _, X35, hQ35, st35⟩ := cV X31 hx hZ hw hown (y := y20) 161 rfl 162 rfl 164 rfl 163 rfl 165 rfl 10 rfl (by decide) (W := 0) (r20_3 hw a12 a11 b26_0 k26_0 a9 a10 O_K31 f31_1 f31_2 H18 f31_3 f31_4 f31_5 (Ne.symm ne27) f31_6 f34 g30 f31_7) (by show 1 + 1 ≤ R.frames; omega) (by show 0 + (2 + 11) + 15 ≤ R.locals; omega) f31_2 rfl (g := (mkF m 160 #[iv p1, iv p2, iv p3, iv p4, rv a5, iv p6, iv p7, rv a8, rv a9, rv a10, rv a11, rv a12, iv (3:Int32), un, un, un, un, un, un] [(.ref a11), (.ref a12)])) rfl (by rw [hml]; rfl) (argsL := [(.ref a11)]) (rest := []) (lenOf pd16 rfl) rfl wf (hb hby at_160) rfl (by show cells + 1 + 0 ≤ R.cells; omega) (by show slots + 10 + 0 ≤ R.slots; omega)
  obtain ⟨rfl, N35q, K35, f35_1, f35_2, f35_3, f35_4, f35_5, f35_6, f35_7⟩ := hQ35
  have N35 := Fr.app N31 N35q
  have Kp_K35 : Keep h0 T35.heap [a12] := Kp_K31.trans K35 (allS (mI 0 rfl) (allS (Or.inr z32) all0))
  replace X35 : Stand p l e R _ m args below meth c T35 _ (cells + 1) (slots + 10) := X35
  refine ⟨T35, _, _, b26_0, k26_0, X35.more (by omega) (by omega), rfl, N35, Kp_K35, z32, f35_2, f35_1, f35_3, f35_4, f35_5, f35_7, f35_6, fun target kt => ?_⟩
  show St p e below T0 m 122 #[iv p1, iv p2, iv p3, iv p4, rv a5, iv p6, iv p7, rv a8, rv a9, rv a10, rv a11, rv a12, iv p13, un, un, un, un, un, un] [] _
  refine iL X0 hx hby at_122 rfl ?_
  refine XS.ifNo X0.here hx rfl (hb hby at_124) rfl ((if0 _ _).trans (feq hc14).1) ?_
  refine iC X0 hx hby at_127 ?_
  refine iN X0 hx hby at_128 rfl ?_
  refine iC X0 hx hby at_129 ?_
  refine XS.iand X0.here hx rfl (hb hby at_130) rfl ?_
  show St p e below T0 m 131 #[iv p1, iv p2, iv p3, iv p4, rv a5, iv p6, iv p7, rv a8, rv a9, rv a10, rv a11, rv a12, iv p13, un, un, un, un, un, un] [(.int (p2 &&& (1:Int32))), (.int (2:Int32))] _
  rw [pin15]
  refine XS.iadd X0.here hx rfl (hb hby at_131) rfl ?_
  refine XS.istore X0.here hx rfl (hb hby at_132) rfl (l' := #[iv p1, iv p2, iv p3, iv p4, rv a5, iv p6, iv p7, rv a8, rv a9, rv a10, rv a11, rv a12, iv (3:Int32), un, un, un, un, un, un]) rfl ?_
  refine aL X0 hx hby at_134 rfl rfl ?_
  refine aL X0 hx hby at_136 rfl rfl ?_
  refine st26.trans ?_
  refine XS.pop X26.here hx rfl (hb hby at_141) rfl rfl ?_
  refine aL X26 hx hby at_142 rfl rfl ?_
  refine aL X26 hx hby at_144 rfl rfl ?_
  refine st31.trans ?_
  refine XS.pop X31.here hx rfl (hb hby at_149) rfl rfl ?_
  refine iL X31 hx hby at_150 rfl ?_
  refine iC X31 hx hby at_152 ?_
  refine XS.icmpNo X31.here hx rfl (hb hby at_153) rfl (teq (rfl : (3:Int32) = (3:Int32))).2 ?_
  refine aL X31 hx hby at_156 rfl rfl ?_
  refine aL X31 hx hby at_158 rfl rfl ?_
  refine st35.trans ?_
  refine XS.pop X35.here hx rfl (hb hby at_163) rfl rfl ?_
  refine XS.goto X35.here hx rfl (pc0 := 164) (pc' := 180) rfl (hb hby at_164) (by decide) (by decide) ?_
  exact kt
def r8_3Q (Z : State) (a1 : Addr) (h0 : Heap) (n0 : Nat) : QT := fun v h L => v = some (.int (0:Int32)) ∧ Fr n0 L ∧ h = h0
theorem r8_3 (hw : HW a0 Z) (a1 : Addr) (O0 : Old Z n0 h0) (H2 : xF3 Z h0 a1 (.int (3:Int32))) :
    MF l y8 cJ38_9 1 (some .boolean) [] (rM 0 0 0 0) Z #[(.ref a1)] h0 (r8_3Q Z a1 h0 n0) := by
  refine own_in (pq pn10) #[rv a1] (fun _ => by first | (simp [entryFrame, mkF, argsToLocals, Value.category]; done) | rfl) ?_
  intro p e s m below meth c s₁ Bd hx hby hml hown hnm hZ e0 X0
  have N0 := Fr.nil n0
  obtain ⟨_, X3, e3, st3⟩ := gF X0 hx hZ hown (ow hw 84 rfl) e0 H2 (g := (mkF m 1 #[rv a1] [(.ref a1)])) rfl rfl (hb hby d8_1)
  refine fin (Q := r8_3Q Z a1 h0 n0) (rm := (rM 0 0 0 0)) Bd X3 e3 (some (.int (0:Int32))) nofun ⟨rfl, N0, rfl⟩ (by decide) (by decide) fun fs hr => ?_
  show St p e below s₁ m 0 #[rv a1] [] _
  refine aN X0 hx hby d8_0 rfl rfl ?_
  refine st3 _ ?_
  refine XS.ifYes X3.here hx rfl (pc0 := 4) (pc' := 11) rfl (hb hby d8_4) rfl ((if0 _ _).trans (feq (by decide : ¬ ((3:Int32) = (0:Int32)))).2) (by decide) (by decide) ?_
  refine iC X3 hx hby d8_11 ?_
  exact retN X3 hx (t := .boolean) Bd.returns (by simp) (hb hby d8_12) hr
def r28_2Q (Z : State) (h0 : Heap) (n0 : Nat) : QT := fun v h L => v = some (.int (3:Int32)) ∧ Fr n0 L ∧ h = h0
theorem r28_2 (hw : HW a0 Z) (O0 : Old Z n0 h0) :
    MF l y28 jdk_29_method_69_code 2 (some .int) [] (rM 0 0 0 0) Z #[(.int (10:Int32)), (.int (3:Int32))] h0 (r28_2Q Z h0 n0) := by
  refine own_in (Jvm.Free.JP.mathPlain rfl (by decide +kernel)) #[iv (10:Int32), iv (3:Int32)] (fun _ => by first | (simp [entryFrame, mkF, argsToLocals, Value.category]; done) | rfl) ?_
  intro p e s m below meth c s₁ Bd hx hby hml hown hnm hZ e0 X0
  have N0 := Fr.nil n0
  refine fin (Q := r28_2Q Z h0 n0) (rm := (rM 0 0 0 0)) Bd X0 e0 (some (.int (3:Int32))) nofun ⟨rfl, N0, rfl⟩ (by decide) (by decide) fun fs hr => ?_
  show St p e below s₁ m 0 #[iv (10:Int32), iv (3:Int32)] [] _
  refine iN X0 hx hby d28_0 rfl ?_
  refine iN X0 hx hby d28_1 rfl ?_
  refine XS.icmpYes X0.here hx rfl (pc0 := 2) (pc' := 9) rfl (hb hby d28_2) rfl (tlt (by decide : (3:Int32) < (10:Int32))).2.2.1 (by decide) (by decide) ?_
  refine iN X0 hx hby d28_9 rfl ?_
  exact retI X0 hx Bd.returns (hb hby d28_10) hr
def r27_2Q (Z : State) (a1 a2 : Addr) (k7 : ClassId) (a8 a9 a10 : Addr) (h0 : Heap) (n0 : Nat) : QT := fun v h L => ∃ (b5 : Addr) (k5 : ClassId), v = some (.ref b5) ∧ Fr n0 L ∧ Keep h0 h [] ∧ h0.size ≤ b5 ∧ Arv Z h b5 k5 (.object "java/lang/Object") (3:Int32) [(.ref a8), (.ref a9), (.ref a10)] .null ∧ xE19 Z h b5 ∧ Ovr Z k5 "java/lang/Object"
theorem r27_2 (hw : HW a0 Z) (a1 a2 : Addr) (k7 : ClassId) (a8 a9 a10 : Addr) (O0 : Old Z n0 h0) (H3 : Mi Z "[Ljava/lang/Object;" a2) (H11 : Arv Z h0 a1 k7 (.object "java/lang/Object") (10:Int32) [(.ref a8), (.ref a9), (.ref a10), .null, .null, .null, .null, .null, .null, .null] .null) (H15 : xE5 Z h0 a8) (H17 : xE5 Z h0 a9) (H19 : xE5 Z h0 a10) :
    MF l y27 cJ65_120 4 (some (.array (.object "java/lang/Object"))) [] (rM 1 1 3 18) Z #[(.ref a1), (.int (3:Int32)), (.ref a2)] h0 (r27_2Q Z a1 a2 k7 a8 a9 a10 h0 n0) := by
  refine own_in (pq pn14) #[rv a1, iv (3:Int32), rv a2, un] (fun _ => by first | (simp [entryFrame, mkF, argsToLocals, Value.category]; done) | rfl) ?_
  intro p e s m below meth c s₁ Bd hx hby hml hown hnm hZ e0 X0
  have N0 := Fr.nil n0
  obtain ⟨_, X4, e4, st4⟩ := own_ldcM X0 hx hZ hown (ow hw 210 rfl) e0 H3 (g := (mkF m 1 #[rv a1, iv (3:Int32), rv a2, un] [(.ref a2)])) rfl (hb hby d27_1)
  obtain ⟨_, h5, k5, X5, e5, E5, A5, C5, Ov5, st5⟩ := newRE X4 hx hZ hown (ow hw 211 rfl) (ow hw 187 rfl) e4 (g := (mkF m 7 #[rv a1, iv (3:Int32), rv a2, un] [(.int (3:Int32))])) rfl (hb hby d27_7) rfl (by decide) (cap := 3) (by decide) (by decide) (by decide) (by decide) (ad := "[Ljava/lang/Object;") (by decide)
  obtain ⟨b5, g5⟩ : ∃ z, z = h0.size := ⟨_, rfl⟩
  rw [← g5] at A5 C5 st5
  have O_E5 : Old Z n0 h5 := O0.ext E5
  have Kp_E5 : Keep h0 h5 [] := (Keep.refl h0 []).ext E5
  have V5 : Arv Z h5 b5 k5 (.object "java/lang/Object") (3:Int32) [.null, .null, .null] .null := (Arv.new A5 (by decide)).pad (pad_rep [] .null 3)
  have f12 := (H11.ext E5)
  obtain ⟨_, Ar6, _, S6, M6, _, _⟩ := id f12
  obtain ⟨_, _, _, X13, hQ13, st13⟩ := cS X5 hx hZ hw hown (y := y28) 212 rfl 213 rfl 184 rfl 214 rfl (by decide) (W := 4) (r28_2 hw O_E5) (by decide) (by decide) e5 (g := (mkF m 32 #[rv a1, iv (3:Int32), rv a2, rv b5] [(.int (3:Int32)), (.int (10:Int32)), (.int (0:Int32)), (.ref b5), (.int (0:Int32)), (.ref a1)])) rfl (by rw [hml]; rfl) (argsL := [(.int (10:Int32)), (.int (3:Int32))]) (rest := [(.int (0:Int32)), (.ref b5), (.int (0:Int32)), (.ref a1)]) (lenOf pd21 rfl) rfl wf (hb hby d27_32) rfl (by decide) (by decide)
  obtain ⟨rfl, N13q, e13⟩ := hQ13
  have N13 := Fr.app N0 N13q
  obtain ⟨_, Ar14, q14, -⟩ := id V5
  have f16 := (H15.ext E5)
  have f18 := (H17.ext E5)
  have f20 := (H19.ext E5)
  have g21 : n0 ≤ b5 := Nat.le_trans (Nat.le_trans (Nat.le_of_eq O0.1.symm) O0.2.1) (Nat.le_of_eq g5.symm)
  obtain ⟨_, h14, _, X14, e14, N14, K14, V14, st14⟩ := cpA X13 hx hZ hown (ow hw 215 rfl) (ow hw 218 rfl) (ow hw 216 rfl) (ow hw 217 rfl) e13 f12 V5 (us := [(.ref a8), (.ref a9), (.ref a10)]) (Or.inr ⟨rfl, rfl, ⟨Sto.ofV Ar14 q14 Ov5 (Ins.of_exa f16 (ow hw 188 rfl)), Sto.ofV Ar14 q14 Ov5 (Ins.of_exa f18 (ow hw 188 rfl)), Sto.ofV Ar14 q14 Ov5 (Ins.of_exa f20 (ow hw 188 rfl)), trivial⟩⟩) (by decide) (by decide) (by decide) (by decide) (by decide) rfl (by decide) N13 g21 (g := (mkF m 35 #[rv a1, iv (3:Int32), rv a2, rv b5] [(.int (3:Int32)), (.int (0:Int32)), (.ref b5), (.int (0:Int32)), (.ref a1)])) rfl (by rw [hml]; rfl) rfl (hb hby d27_35) (by decide) (W := 0) wf (by decide)
  have z22 : h0.size ≤ b5 := Nat.le_trans (Keep.refl h0 []).1 (Nat.le_of_eq g5.symm)
  have Kp_K14 : Keep h0 h14 [] := Kp_E5.trans K14 (allS (Or.inr z22) all0)
  have f23 : Arv Z h14 b5 k5 (.object "java/lang/Object") (3:Int32) [(.ref a8), (.ref a9), (.ref a10)] .null := V14
  have f24 := (C5.keep K14)
  have f25 := Ov5
  refine fin (Q := r27_2Q Z a1 a2 k7 a8 a9 a10 h0 n0) (rm := (rM 1 1 3 18)) Bd X14 e14 (some (.ref b5)) nofun ⟨b5, k5, rfl, N14, Kp_K14, z22, f23, f24, f25⟩ (by decide) (by decide) fun fs hr => ?_
  show St p e below s₁ m 0 #[rv a1, iv (3:Int32), rv a2, un] [] _
  refine aN X0 hx hby d27_0 rfl rfl ?_
  refine st4 _ ?_
  refine Jvm.RoadKit.acmp (g := (mkF m 3 #[rv a1, iv (3:Int32), rv a2, un] [(.ref a2), (.ref a2)])) X4 hx rfl rfl rfl (pc0 := 3) (pc' := 6) (same := true) rfl (hb hby d27_3) rfl (decide_eq_true rfl) (by decide) (by decide) ?_
  refine iN X4 hx hby d27_6 rfl ?_
  refine st5 _ ?_
  refine XS.goto X5.here hx rfl (pc0 := 10) (pc' := 24) rfl (hb hby d27_10) (by decide) (by decide) ?_
  refine XS.astoreN X5.here hx rfl (hb hby d27_24) rfl rfl (l' := #[rv a1, iv (3:Int32), rv a2, rv b5]) rfl ?_
  refine aN X5 hx hby d27_25 rfl rfl ?_
  refine iC X5 hx hby d27_26 ?_
  refine aN X5 hx hby d27_27 rfl rfl ?_
  refine iC X5 hx hby d27_28 ?_
  refine aN X5 hx hby d27_29 rfl rfl ?_
  refine X5.arraylength hx (by rw [e5]; exact Ar6.1) (State.isArrayOf_alike hZ.alike Ar6.2.1) (g := (mkF m 30 #[rv a1, iv (3:Int32), rv a2, rv b5] [(.ref a1), (.int (0:Int32)), (.ref b5), (.int (0:Int32)), (.ref a1)])) rfl rfl (hb hby d27_30) _ ?_
  rw [len_of S6 M6]
  refine iN X5 hx hby d27_31 rfl ?_
  refine st13 _ ?_
  refine st14 _ ?_
  refine aN X14 hx hby d27_38 rfl rfl ?_
  exact retA X14 hx Bd.returns rfl rfl (hb hby d27_39) hr
def r26_2Q (Z : State) (a1 a3 : Addr) (k6 : ClassId) (a7 a8 a9 : Addr) (h0 : Heap) (n0 : Nat) : QT := fun v h L => ∃ (b14_0 : Addr) (k14_0 : ClassId), v = some (.ref b14_0) ∧ Fr n0 L ∧ Keep h0 h [] ∧ h0.size ≤ b14_0 ∧ Arv Z h b14_0 k14_0 (.object "java/lang/Object") (3:Int32) [(.ref a7), (.ref a8), (.ref a9)] .null ∧ xE19 Z h b14_0 ∧ Ovr Z k14_0 "java/lang/Object"
theorem r26_2 (hw : HW a0 Z) (a1 a3 : Addr) (k6 : ClassId) (a7 a8 a9 : Addr) (O0 : Old Z n0 h0) (H2 : xE19 Z h0 a1) (H4 : Mi Z "[Ljava/lang/Object;" a3) (H10 : Arv Z h0 a1 k6 (.object "java/lang/Object") (10:Int32) [(.ref a7), (.ref a8), (.ref a9), .null, .null, .null, .null, .null, .null, .null] .null) (H11 : xE5 Z h0 a7) (H12 : xE5 Z h0 a8) (H13 : xE5 Z h0 a9) :
    MF l y26 cJ65_119 2 (some (.array (.object "java/lang/Object"))) [] (rM 2 1 3 33) Z #[(.ref a1), (.int (3:Int32))] h0 (r26_2Q Z a1 a3 k6 a7 a8 a9 h0 n0) := by
  refine own_in (pq pn14) #[rv a1, iv (3:Int32)] (fun _ => by first | (simp [entryFrame, mkF, argsToLocals, Value.category]; done) | rfl) ?_
  intro p e s m below meth c s₁ Bd hx hby hml hown hnm hZ e0 X0
  have N0 := Fr.nil n0
  obtain ⟨_, X5, e5, st5⟩ := own_gcls X0 hx hZ hown (ow hw 201 rfl) (ow hw 202 rfl) (ow hw 73 rfl) (ow hw 204 rfl) (ow hw 203 rfl) (ow hw 205 rfl) e0 H2 H4 (g := (mkF m 3 #[rv a1, iv (3:Int32)] [(.ref a1), (.int (3:Int32)), (.ref a1)])) rfl (by rw [hml]; rfl) rfl (hb hby d26_3) (by decide) (W := 2) wf (by decide)
  obtain ⟨T14, _, _, X14, hQ14, st14⟩ := cS X5 hx hZ hw hown (y := y27) 207 rfl 208 rfl 199 rfl 209 rfl (by decide) (W := 0) (r27_2 hw a1 a3 k6 a7 a8 a9 O0 H4 H10 H11 H12 H13) (by decide) (by decide) e5 (g := (mkF m 6 #[rv a1, iv (3:Int32)] [(.ref a3), (.int (3:Int32)), (.ref a1)])) rfl (by rw [hml]; rfl) (argsL := [(.ref a1), (.int (3:Int32)), (.ref a3)]) (rest := []) (lenOf pd1 rfl) rfl wf (hb hby d26_6) rfl (by decide) (by decide)
  obtain ⟨b14_0, k14_0, rfl, N14q, K14, lo14_1, f14_2, f14_3, f14_4⟩ := hQ14
  have N14 := Fr.app N0 N14q
  have Kp_K14 : Keep h0 T14.heap [] := (Keep.refl h0 []).trans K14 all0
  have z15 : h0.size ≤ b14_0 := Nat.le_trans (Keep.refl h0 []).1 lo14_1
  refine fin (Q := r26_2Q Z a1 a3 k6 a7 a8 a9 h0 n0) (rm := (rM 2 1 3 33)) Bd X14 rfl (some (.ref b14_0)) nofun ⟨b14_0, k14_0, rfl, N14, Kp_K14, z15, f14_2, f14_3, f14_4⟩ (by decide) (by decide) fun fs hr => ?_
  show St p e below s₁ m 0 #[rv a1, iv (3:Int32)] [] _
  refine aN X0 hx hby d26_0 rfl rfl ?_
  refine iN X0 hx hby d26_1 rfl ?_
  refine aN X0 hx hby d26_2 rfl rfl ?_
  refine st5 _ ?_
  refine st14 _ ?_
  exact retA X14 hx Bd.returns rfl rfl (hb hby d26_9) hr
def r25_2Q (Z : State) (a1 a2 a8 : Addr) (k10 : ClassId) (a11 a12 a13 : Addr) (h0 : Heap) (n0 : Nat) : QT := fun v h L => ∃ (b18_0 : Addr) (k18_0 : ClassId), v = some (.ref b18_0) ∧ Fr n0 L ∧ Keep h0 h [] ∧ h0.size ≤ b18_0 ∧ Arv Z h b18_0 k18_0 (.object "java/lang/Object") (3:Int32) [(.ref a11), (.ref a12), (.ref a13)] .null ∧ xE19 Z h b18_0 ∧ Ovr Z k18_0 "java/lang/Object"
theorem r25_2 (hw : HW a0 Z) (a1 a2 a8 : Addr) (k10 : ClassId) (a11 a12 a13 : Addr) (O0 : Old Z n0 h0) (H3 : xF2 Z h0 a1 (.ref a2)) (H5 : xF3 Z h0 a1 (.int (3:Int32))) (H7 : xE19 Z h0 a2) (H9 : Mi Z "[Ljava/lang/Object;" a8) (H14 : Arv Z h0 a2 k10 (.object "java/lang/Object") (10:Int32) [(.ref a11), (.ref a12), (.ref a13), .null, .null, .null, .null, .null, .null, .null] .null) (H15 : xE5 Z h0 a11) (H16 : xE5 Z h0 a12) (H17 : xE5 Z h0 a13) :
    MF l y25 cJ38_16 1 (some (.array (.object "java/lang/Object"))) [] (rM 3 1 3 46) Z #[(.ref a1)] h0 (r25_2Q Z a1 a2 a8 k10 a11 a12 a13 h0 n0) := by
  refine own_in (pq pn10) #[rv a1] (fun _ => by first | (simp [entryFrame, mkF, argsToLocals, Value.category]; done) | rfl) ?_
  intro p e s m below meth c s₁ Bd hx hby hml hown hnm hZ e0 X0
  have N0 := Fr.nil n0
  obtain ⟨_, X4, e4, st4⟩ := gF X0 hx hZ hown (ow hw 32 rfl) e0 H3 (g := (mkF m 1 #[rv a1] [(.ref a1)])) rfl rfl (hb hby d25_1)
  obtain ⟨_, X6, e6, st6⟩ := gF X4 hx hZ hown (ow hw 84 rfl) e4 H5 (g := (mkF m 5 #[rv a1] [(.ref a1), (.ref a2)])) rfl rfl (hb hby d25_5)
  obtain ⟨T18, _, _, X18, hQ18, st18⟩ := cS X6 hx hZ hw hown (y := y26) 197 rfl 198 rfl 199 rfl 200 rfl (by decide) (W := 0) (r26_2 hw a2 a8 k10 a11 a12 a13 O0 H7 H9 H14 H15 H16 H17) (by decide) (by decide) e6 (g := (mkF m 8 #[rv a1] [(.int (3:Int32)), (.ref a2)])) rfl (by rw [hml]; rfl) (argsL := [(.ref a2), (.int (3:Int32))]) (rest := []) (lenOf pd4 rfl) rfl wf (hb hby d25_8) rfl (by decide) (by decide)
  obtain ⟨b18_0, k18_0, rfl, N18q, K18, lo18_1, f18_2, f18_3, f18_4⟩ := hQ18
  have N18 := Fr.app N0 N18q
  have Kp_K18 : Keep h0 T18.heap [] := (Keep.refl h0 []).trans K18 all0
  have z19 : h0.size ≤ b18_0 := Nat.le_trans (Keep.refl h0 []).1 lo18_1
  refine fin (Q := r25_2Q Z a1 a2 a8 k10 a11 a12 a13 h0 n0) (rm := (rM 3 1 3 46)) Bd X18 rfl (some (.ref b18_0)) nofun ⟨b18_0, k18_0, rfl, N18, Kp_K18, z19, f18_2, f18_3, f18_4⟩ (by decide) (by decide) fun fs hr => ?_
  show St p e below s₁ m 0 #[rv a1] [] _
  refine aN X0 hx hby d25_0 rfl rfl ?_
  refine st4 _ ?_
  refine aN X4 hx hby d25_4 rfl rfl ?_
  refine st6 _ ?_
  refine st18 _ ?_
  exact retA X18 hx Bd.returns rfl rfl (hb hby d25_11) hr
theorem d30_59 : dk cJ40_47 59 (.aload_n 0) 1 := by decide +kernel
theorem d30_60 : dk cJ40_47 60 (.invokestatic 109) 3 := by decide +kernel
theorem d42_0 : dk cJ56_4 0 (.aload_n 0) 1 := by decide +kernel
theorem d42_1 : dk cJ56_4 1 .arraylength 1 := by decide +kernel
theorem d42_2 : dk cJ56_4 2 (.anewarray 2) 3 := by decide +kernel
theorem d42_5 : dk cJ56_4 5 (.astore_n 1) 1 := by decide +kernel
theorem d42_6 : dk cJ56_4 6 (.iconst 0) 1 := by decide +kernel
theorem d42_7 : dk cJ56_4 7 (.istore_n 2) 1 := by decide +kernel
theorem d42_8 : dk cJ56_4 8 (.iload_n 2) 1 := by decide +kernel
theorem d42_9 : dk cJ56_4 9 (.aload_n 0) 1 := by decide +kernel
theorem d42_10 : dk cJ56_4 10 .arraylength 1 := by decide +kernel
theorem d42_11 : dk cJ56_4 11 (.if_icmp .ge 18) 3 := by decide +kernel
theorem d42_14 : dk cJ56_4 14 (.aload_n 1) 1 := by decide +kernel
theorem d42_15 : dk cJ56_4 15 (.iload_n 2) 1 := by decide +kernel
theorem d42_16 : dk cJ56_4 16 (.aload_n 0) 1 := by decide +kernel
theorem d42_17 : dk cJ56_4 17 (.iload_n 2) 1 := by decide +kernel
theorem d42_18 : dk cJ56_4 18 .aaload 1 := by decide +kernel
theorem d42_19 : dk cJ56_4 19 (.invokestatic 37) 3 := by decide +kernel
theorem d42_22 : dk cJ56_4 22 .aastore 1 := by decide +kernel
theorem d42_23 : dk cJ56_4 23 (.iinc 2 1) 3 := by decide +kernel
theorem d42_26 : dk cJ56_4 26 (.goto (-18)) 3 := by decide +kernel
theorem d42_29 : dk cJ56_4 29 (.new 12) 3 := by decide +kernel
theorem d42_32 : dk cJ56_4 32 .dup 1 := by decide +kernel
theorem d42_33 : dk cJ56_4 33 (.aload_n 1) 1 := by decide +kernel
theorem d42_34 : dk cJ56_4 34 (.iconst 0) 1 := by decide +kernel
theorem d42_35 : dk cJ56_4 35 (.invokespecial 43) 3 := by decide +kernel
theorem d43_0 : dk cJ45_1 0 (.aload_n 0) 1 := by decide +kernel
theorem d43_1 : dk cJ45_1 1 (.invokespecial 1) 3 := by decide +kernel
theorem d43_4 : dk cJ45_1 4 (.aload_n 0) 1 := by decide +kernel
theorem d43_5 : dk cJ45_1 5 (.aload_n 1) 1 := by decide +kernel
theorem d43_6 : dk cJ45_1 6 (.putfield 7) 3 := by decide +kernel
theorem d43_9 : dk cJ45_1 9 (.aload_n 0) 1 := by decide +kernel
theorem d43_10 : dk cJ45_1 10 (.iload_n 2) 1 := by decide +kernel
theorem d43_11 : dk cJ45_1 11 (.putfield 13) 3 := by decide +kernel
abbrev xF24 (Z : State) (h : Heap) (a : Addr) (v : Value) : Prop := Fld Z h a "java/util/ImmutableCollections$ListN" "allowNulls" "Z" v
theorem d43_14 : dk cJ45_1 14 .return_ 1 := by decide +kernel
abbrev y43 : MethodName := ⟨"java/util/ImmutableCollections$ListN", "<init>", "([Ljava/lang/Object;Z)V"⟩
def r43_1Q (Z : State) (a1 a2 : Addr) (h0 : Heap) (n0 : Nat) : QT := fun v h L => v = none ∧ Fr n0 L ∧ Keep h0 h [a1] ∧ xF18 Z h a1 (.ref a2) ∧ xE17 Z h a1 ∧ xF24 Z h a1 (.int (0:Int32))
theorem r43_1 (hw : HW a0 Z) (a1 a2 : Addr) (O0 : Old Z n0 h0) (H4 : xF18 Z h0 a1 .null) (H5 : xE17 Z h0 a1) (H7 : n0 ≤ a1) (H10 : xF24 Z h0 a1 (.int (0:Int32))) :
    MF l y43 cJ45_1 3 none [] (rM 4 0 0 48) Z #[(.ref a1), (.ref a2), (.int (0:Int32))] h0 (r43_1Q Z a1 a2 h0 n0) := by
  refine own_in (pq pn3) #[rv a1, rv a2, iv (0:Int32)] (fun _ => by first | (simp [entryFrame, mkF, argsToLocals, Value.category]; done) | rfl) ?_
  intro p e s m below meth c s₁ Bd hx hby hml hown hnm hZ e0 X0
  have N0 := Fr.nil n0
  obtain ⟨_, _, _, X3, hQ3, st3⟩ := cP X0 hx hZ hw hown (y := y32) rfl 329 rfl 230 rfl 234 rfl 233 rfl (by decide) (W := 0) (r32_1 hw a1 O0) (by decide) (by decide) e0 (g := (mkF m 1 #[rv a1, rv a2, iv (0:Int32)] [(.ref a1)])) rfl (by rw [hml]; rfl) (argsL := []) (rest := []) (lenOf pd22 rfl) rfl wf (hb hby d43_1) rfl (by decide) (by decide)
  obtain ⟨rfl, N3q, e3⟩ := hQ3
  have N3 := Fr.app N0 N3q
  obtain ⟨_, h6, X6, e6, W6, st6⟩ := pF X3 hx hZ hown (ow hw 156 rfl) e3 H4 H5 (Or.inr ⟨(ow hw 157 rfl), rfl, hnm⟩) (ow hw 324 rfl) (ty := (.array (.object "java/lang/Object"))) (by decide) rfl rfl (g := (mkF m 6 #[rv a1, rv a2, iv (0:Int32)] [(.ref a2), (.ref a1)])) rfl rfl (hb hby d43_6)
  have Kp_W6 : Keep h0 h6 [a1] := (Keep.refl h0 [a1]).wr W6 (mI 0 rfl)
  have N8 := Fr.snoc X6 N3 H7
  have f9 := H4.same W6
  have f11 := (H5.wr W6)
  have f12 := (H10.other W6 (Or.inr (slot_ne (Or.inr (ow hw 334 rfl)) (Or.inr (ow hw 157 rfl)) (by decide) (t := .boolean) (t' := (.array (.object "java/lang/Object"))) (by decide) (by decide))))
  obtain ⟨_, h13, X13, e13, W13, st13⟩ := pF X6 hx hZ hown (ow hw 333 rfl) e6 f12 f11 (Or.inr ⟨(ow hw 334 rfl), rfl, hnm⟩) (ow hw 324 rfl) (ty := .boolean) (by decide) rfl rfl (g := (mkF m 11 #[rv a1, rv a2, iv (0:Int32)] [(.int (0:Int32)), (.ref a1)])) rfl rfl (hb hby d43_11)
  have Kp_W13 : Keep h0 h13 [a1] := Kp_W6.wr W13 (mI 0 rfl)
  have N14 := Fr.snoc X13 N8 H7
  have f15 := f12.same W13
  have f16 := (f11.wr W13)
  have f17 := (f9.other W13 (Or.inr (slot_ne (Or.inr (ow hw 157 rfl)) (Or.inr (ow hw 334 rfl)) (by decide) (t := (.array (.object "java/lang/Object"))) (t' := .boolean) (by decide) (by decide))))
  refine fin (Q := r43_1Q Z a1 a2 h0 n0) (rm := (rM 4 0 0 48)) Bd X13 e13 (none) (fun _ => rfl) ⟨rfl, N14, Kp_W13, f17, f16, f15⟩ (by decide) (by decide) fun fs hr => ?_
  show St p e below s₁ m 0 #[rv a1, rv a2, iv (0:Int32)] [] _
  refine aN X0 hx hby d43_0 rfl rfl ?_
  refine st3.trans ?_
  refine aN X3 hx hby d43_4 rfl rfl ?_
  refine aN X3 hx hby d43_5 rfl rfl ?_
  refine st6 _ ?_
  refine aN X6 hx hby d43_9 rfl rfl ?_
  refine iN X6 hx hby d43_10 rfl ?_
  refine st13 _ ?_
  exact X13.returnOut hx Bd.returns (hb hby d43_14) hr
theorem pd11 : parseMethodDescriptor "([Ljava/lang/Object;Z)V" = some ⟨[(.array (.object "java/lang/Object")), .boolean], none⟩ := by decide +kernel
theorem d42_38 : dk cJ56_4 38 .areturn 1 := by decide +kernel
abbrev y42 : MethodName := ⟨"java/util/ImmutableCollections", "listFromArray", "([Ljava/lang/Object;)Ljava/util/List;"⟩
def r42_1Q (Z : State) (a1 : Addr) (k3 : ClassId) (a4 a5 a6 : Addr) (h0 : Heap) (n0 : Nat) : QT := fun v h L => ∃ (b45 b8 : Addr) (k8 : ClassId), v = some (.ref b45) ∧ Fr n0 L ∧ Keep h0 h [] ∧ h0.size ≤ b45 ∧ h0.size ≤ b8 ∧ b45 ≠ b8 ∧ xE17 Z h b45 ∧ xF18 Z h b45 (.ref b8) ∧ xF24 Z h b45 (.int (0:Int32)) ∧ Arv Z h b8 k8 (.object "java/lang/Object") (3:Int32) [(.ref a4), (.ref a5), (.ref a6)] .null ∧ xE19 Z h b8 ∧ Ovr Z k8 "java/lang/Object"
theorem r42_1 (hw : HW a0 Z) (a1 : Addr) (k3 : ClassId) (a4 a5 a6 : Addr) (O0 : Old Z n0 h0) (H7 : Arv Z h0 a1 k3 (.object "java/lang/Object") (3:Int32) [(.ref a4), (.ref a5), (.ref a6)] .null) (H14 : xE5 Z h0 a4) (H21 : xE19 Z h0 a1) (H29 : xE5 Z h0 a5) (H39 : xE5 Z h0 a6) :
    MF l y42 cJ56_4 3 (some (.object "java/util/List")) [] (rM 5 2 5 63) Z #[(.ref a1)] h0 (r42_1Q Z a1 k3 a4 a5 a6 h0 n0) := by
  refine own_in (pq pn5) #[rv a1, un, un] (fun _ => by first | (simp [entryFrame, mkF, argsToLocals, Value.category]; done) | rfl) ?_
  intro p e s m below meth c s₁ Bd hx hby hml hown hnm hZ e0 X0
  have N0 := Fr.nil n0
  obtain ⟨_, Ar2, _, S2, M2, _, _⟩ := id H7
  obtain ⟨_, h8, k8, X8, e8, E8, A8, C8, Ov8, st8⟩ := newRE X0 hx hZ hown (ow hw 322 rfl) (ow hw 187 rfl) e0 (g := (mkF m 2 #[rv a1, un, un] [(.int (3:Int32))])) rfl (hb hby d42_2) rfl (by decide) (cap := 3) (by decide) (by decide) (by decide) (by decide) (ad := "[Ljava/lang/Object;") (by decide)
  obtain ⟨b8, g8⟩ : ∃ z, z = h0.size := ⟨_, rfl⟩
  rw [← g8] at A8 C8 st8
  have O_E8 : Old Z n0 h8 := O0.ext E8
  have Kp_E8 : Keep h0 h8 [] := (Keep.refl h0 []).ext E8
  have V8 : Arv Z h8 b8 k8 (.object "java/lang/Object") (3:Int32) [.null, .null, .null] .null := (Arv.new A8 (by decide)).pad (pad_rep [] .null 3)
  have f10 := (H7.ext E8)
  obtain ⟨_, Ar9, _, S9, M9, _, _⟩ := id f10
  obtain ⟨cl11, Ar11, _, S11, _, H11, _⟩ := id f10
  have hin11 : ¬ ((0:Int32) < 0 ∨ cl11.slots.size ≤ ((0:Int32)).toNatClampNeg) := inb_of S11 ⟨by decide, by decide⟩
  obtain ⟨_, _, _, X12, hQ12, st12⟩ := cS X8 hx hZ hw hown (y := y34) 323 rfl 244 rfl 245 rfl 246 rfl (by decide) (W := 2) (r34_1 hw a4 O_E8) (by decide) (by decide) e8 (g := (mkF m 19 #[rv a1, rv b8, iv (0:Int32)] [(.ref a4), (.int (0:Int32)), (.ref b8)])) rfl (by rw [hml]; rfl) (argsL := [(.ref a4)]) (rest := [(.int (0:Int32)), (.ref b8)]) (lenOf pd7 rfl) rfl wf (hb hby d42_19) rfl (by decide) (by decide)
  obtain ⟨rfl, N12q, e12⟩ := hQ12
  have N12 := Fr.app N0 N12q
  obtain ⟨cl13, Ar13, q13, S13, M13, H13, G13⟩ := id V8
  have hin13 : ¬ ((0:Int32) < 0 ∨ cl13.slots.size ≤ ((0:Int32)).toNatClampNeg) := inb_of S13 ⟨by decide, by decide⟩
  have f15 := (H14.ext E8)
  obtain ⟨T13, h13, X13, e13, W13, st13⟩ := stR X12 hx hZ e12 Ar13 (j := (0:Int32)) hin13 rfl (Sto.ofV Ar13 q13 Ov8 (Ins.of_exa f15 (ow hw 188 rfl))) (g := (mkF m 22 #[rv a1, rv b8, iv (0:Int32)] [(.ref a4), (.int (0:Int32)), (.ref b8)])) rfl rfl (hb hby d42_22)
  have g17 : n0 ≤ b8 := Nat.le_trans (Nat.le_trans (Nat.le_of_eq O0.1.symm) O0.2.1) (Nat.le_of_eq g8.symm)
  have z18 : h0.size ≤ b8 := Nat.le_trans (Keep.refl h0 []).1 (Nat.le_of_eq g8.symm)
  have O_W13 : Old Z n0 h13 := O_E8.wr W13 g17
  have Kp_W13 : Keep h0 h13 [] := Kp_E8.wr W13 (Or.inr z18)
  have N19 := Fr.snoc X13 N12 g17
  have f16 : Arv Z h13 b8 k8 (.object "java/lang/Object") (3:Int32) [(.ref a4), .null, .null] .null := Arv.set Ar13 q13 S13 M13 H13 G13 rfl W13 0 rfl (Nat.le_of_ble_eq_true rfl)
  have ne23 : a1 ≠ b8 := Nat.ne_of_lt (Nat.lt_of_lt_of_le H21.lt (Nat.le_of_eq g8.symm))
  have f24 := (f10.other W13 ne23)
  obtain ⟨_, Ar20, _, S20, M20, _, _⟩ := id f24
  obtain ⟨cl25, Ar25, _, S25, _, H25, _⟩ := id f24
  have hin25 : ¬ ((1:Int32) < 0 ∨ cl25.slots.size ≤ ((1:Int32)).toNatClampNeg) := inb_of S25 ⟨by decide, by decide⟩
  obtain ⟨_, _, _, X26, hQ26, st26⟩ := cS X13 hx hZ hw hown (y := y34) 323 rfl 244 rfl 245 rfl 246 rfl (by decide) (W := 2) (r34_1 hw a5 O_W13) (by decide) (by decide) e13 (g := (mkF m 19 #[rv a1, rv b8, iv (1:Int32)] [(.ref a5), (.int (1:Int32)), (.ref b8)])) rfl (by rw [hml]; rfl) (argsL := [(.ref a5)]) (rest := [(.int (1:Int32)), (.ref b8)]) (lenOf pd7 rfl) rfl wf (hb hby d42_19) rfl (by decide) (by decide)
  obtain ⟨rfl, N26q, e26⟩ := hQ26
  have N26 := Fr.app N19 N26q
  obtain ⟨cl27, Ar27, q27, S27, M27, H27, G27⟩ := id f16
  have hin27 : ¬ ((1:Int32) < 0 ∨ cl27.slots.size ≤ ((1:Int32)).toNatClampNeg) := inb_of S27 ⟨by decide, by decide⟩
  have f28 := Ov8
  have f30 := ((H29.ext E8).wr W13)
  obtain ⟨_, h27, X27, e27, W27, st27⟩ := stR X26 hx hZ e26 Ar27 (j := (1:Int32)) hin27 rfl (Sto.ofV Ar27 q27 f28 (Ins.of_exa f30 (ow hw 188 rfl))) (g := (mkF m 22 #[rv a1, rv b8, iv (1:Int32)] [(.ref a5), (.int (1:Int32)), (.ref b8)])) rfl rfl (hb hby d42_22)
  have O_W27 : Old Z n0 h27 := O_W13.wr W27 g17
  have Kp_W27 : Keep h0 h27 [] := Kp_W13.wr W27 (Or.inr z18)
  have N32 := Fr.snoc X27 N26 g17
  have f31 : Arv Z h27 b8 k8 (.object "java/lang/Object") (3:Int32) [(.ref a4), (.ref a5), .null] .null := Arv.set Ar27 q27 S27 M27 H27 G27 rfl W27 1 rfl (Nat.le_of_ble_eq_true rfl)
  have f34 := (f24.other W27 ne23)
  obtain ⟨_, Ar33, _, S33, M33, _, _⟩ := id f34
  obtain ⟨cl35, Ar35, _, S35, _, H35, _⟩ := id f34
  have hin35 : ¬ ((2:Int32) < 0 ∨ cl35.slots.size ≤ ((2:Int32)).toNatClampNeg) := inb_of S35 ⟨by decide, by decide⟩
  obtain ⟨_, _, _, X36, hQ36, st36⟩ := cS X27 hx hZ hw hown (y := y34) 323 rfl 244 rfl 245 rfl 246 rfl (by decide) (W := 2) (r34_1 hw a6 O_W27) (by decide) (by decide) e27 (g := (mkF m 19 #[rv a1, rv b8, iv (2:Int32)] [(.ref a6), (.int (2:Int32)), (.ref b8)])) rfl (by rw [hml]; rfl) (argsL := [(.ref a6)]) (rest := [(.int (2:Int32)), (.ref b8)]) (lenOf pd7 rfl) rfl wf (hb hby d42_19) rfl (by decide) (by decide)
  obtain ⟨rfl, N36q, e36⟩ := hQ36
  have N36 := Fr.app N32 N36q
  obtain ⟨cl37, Ar37, q37, S37, M37, H37, G37⟩ := id f31
  have hin37 : ¬ ((2:Int32) < 0 ∨ cl37.slots.size ≤ ((2:Int32)).toNatClampNeg) := inb_of S37 ⟨by decide, by decide⟩
  have f38 := f28
  have f40 := (((H39.ext E8).wr W13).wr W27)
  obtain ⟨_, h37, X37, e37, W37, st37⟩ := stR X36 hx hZ e36 Ar37 (j := (2:Int32)) hin37 rfl (Sto.ofV Ar37 q37 f38 (Ins.of_exa f40 (ow hw 188 rfl))) (g := (mkF m 22 #[rv a1, rv b8, iv (2:Int32)] [(.ref a6), (.int (2:Int32)), (.ref b8)])) rfl rfl (hb hby d42_22)
  have O_W37 : Old Z n0 h37 := O_W27.wr W37 g17
  have Kp_W37 : Keep h0 h37 [] := Kp_W27.wr W37 (Or.inr z18)
  have N42 := Fr.snoc X37 N36 g17
  have f41 : Arv Z h37 b8 k8 (.object "java/lang/Object") (3:Int32) [(.ref a4), (.ref a5), (.ref a6)] .null := Arv.set Ar37 q37 S37 M37 H37 G37 rfl W37 2 rfl (Nat.le_of_ble_eq_true rfl)
  have f44 := (f34.other W37 ne23)
  obtain ⟨_, Ar43, _, S43, M43, _, _⟩ := id f44
  obtain ⟨T45, h45, X45, e45, E45, A45, D45, -, st45⟩ := newO X37 hx hZ hown (ow hw 74 rfl) (ow hw 324 rfl) (ow hw 154 rfl) e37 (g := (mkF m 29 #[rv a1, rv b8, iv (3:Int32)] [])) rfl (hb hby d42_29) (by decide) (by decide)
  obtain ⟨b45, g45⟩ : ∃ z, z = h37.size := ⟨_, rfl⟩
  rw [← g45] at A45 D45 st45
  have O_E45 : Old Z n0 h45 := O_W37.ext E45
  have Kp_E45 : Keep h0 h45 [] := Kp_W37.ext E45
  have f46 : xF18 Z h45 b45 .null := D45 (Or.inr (ow hw 157 rfl)) (ty := (.array (.object "java/lang/Object"))) (by decide)
  have g47 : n0 ≤ b45 := Nat.le_trans (Nat.le_trans (Nat.le_of_eq O_W37.1.symm) O_W37.2.1) (Nat.le_of_eq g45.symm)
  have f48 : xF24 Z h45 b45 (.int (0:Int32)) := D45 (Or.inr (ow hw 334 rfl)) (ty := .boolean) (by decide)
  obtain ⟨T49, _, _, X49, hQ49, st49⟩ := fl X45 (X45.specialBackNest hx (y := y43) rfl hown (mvMN hZ (ow hw 325 rfl)) (mo hZ hw 326 rfl) (mo hZ hw 328 rfl) (by decide) (backOf (W := 1) (r43_1 hw b45 b8 O_E45 f46 A45 g47 f48) hZ (ow hw 328 rfl) (ow hw 154 rfl) (by decide) (by decide)) (g := (mkF m 35 #[rv a1, rv b8, iv (3:Int32)] [(.int (0:Int32)), (.ref b8), (.ref b45), (.ref b45)])) rfl (by rw [hml]; rfl) (Steps.refl _) (a := b45) (argsL := [(.ref b8), (.int (0:Int32))]) (rest := [(.ref b45)]) (lenOf pd11 rfl) rfl wf (hb hby d42_35) (fun _ _ => ⟨rfl, e45, (by decide : 2 + 0 ≤ _), (by decide : 5 + 0 ≤ _)⟩))
  obtain ⟨rfl, N49q, K49, f49_1, f49_2, f49_3⟩ := hQ49
  have N49 := Fr.app N42 N49q
  have z50 : h0.size ≤ b45 := Nat.le_trans Kp_W37.1 (Nat.le_of_eq g45.symm)
  have Kp_K49 : Keep h0 T49.heap [] := Kp_E45.trans K49 (allS (Or.inr z50) all0)
  have ne51 : b8 ≠ b45 := Nat.ne_of_lt (Nat.lt_of_lt_of_le (((C8.wr W13).wr W27).wr W37).lt (Nat.le_of_eq g45.symm))
  have f52 := ((f41.ext E45).keep K49 (ninS ne51 nin0))
  have f53 := (((((C8.wr W13).wr W27).wr W37).ext E45).keep K49)
  have f54 := f38
  refine fin (Q := r42_1Q Z a1 k3 a4 a5 a6 h0 n0) (rm := (rM 5 2 5 63)) Bd X49 rfl (some (.ref b45)) nofun ⟨b45, b8, k8, rfl, N49, Kp_K49, z50, z18, (Ne.symm ne51), f49_2, f49_1, f49_3, f52, f53, f54⟩ (by decide) (by decide) fun fs hr => ?_
  show St p e below s₁ m 0 #[rv a1, un, un] [] _
  refine aN X0 hx hby d42_0 rfl rfl ?_
  refine X0.arraylength hx (by rw [e0]; exact Ar2.1) (State.isArrayOf_alike hZ.alike Ar2.2.1) (g := (mkF m 1 #[rv a1, un, un] [(.ref a1)])) rfl rfl (hb hby d42_1) _ ?_
  rw [len_of S2 M2]
  refine st8 _ ?_
  refine XS.astoreN X8.here hx rfl (hb hby d42_5) rfl rfl (l' := #[rv a1, rv b8, un]) rfl ?_
  refine iC X8 hx hby d42_6 ?_
  refine XS.istoreN X8.here hx rfl (hb hby d42_7) rfl (l' := #[rv a1, rv b8, iv (0:Int32)]) rfl ?_
  refine iN X8 hx hby d42_8 rfl ?_
  refine aN X8 hx hby d42_9 rfl rfl ?_
  refine X8.arraylength hx (by rw [e8]; exact Ar9.1) (State.isArrayOf_alike hZ.alike Ar9.2.1) (g := (mkF m 10 #[rv a1, rv b8, iv (0:Int32)] [(.ref a1), (.int (0:Int32))])) rfl rfl (hb hby d42_10) _ ?_
  rw [len_of S9 M9]
  refine XS.icmpNo X8.here hx rfl (hb hby d42_11) rfl (tlt (by decide : (0:Int32) < (3:Int32))).2.1 ?_
  refine aN X8 hx hby d42_14 rfl rfl ?_
  refine iN X8 hx hby d42_15 rfl ?_
  refine aN X8 hx hby d42_16 rfl rfl ?_
  refine iN X8 hx hby d42_17 rfl ?_
  refine X8.aaload hx (j := (0:Int32)) (v := (.ref a4)) (by rw [e8]; exact Ar11.1) (State.isArrayOf_alike hZ.alike Ar11.2.1) rfl Ar11.2.2 hin11 (Has.at H11 hin11 rfl) (g := (mkF m 18 #[rv a1, rv b8, iv (0:Int32)] [(.int (0:Int32)), (.ref a1), (.int (0:Int32)), (.ref b8)])) rfl rfl (hb hby d42_18) _ ?_
  refine st12 _ ?_
  refine st13 _ ?_
  refine XS.iinc X13.here hx rfl (hb hby d42_23) rfl (l' := #[rv a1, rv b8, iv (1:Int32)]) rfl ?_
  refine XS.goto X13.here hx rfl (pc0 := 26) (pc' := 8) rfl (hb hby d42_26) (by decide) (by decide) ?_
  refine iN X13 hx hby d42_8 rfl ?_
  refine aN X13 hx hby d42_9 rfl rfl ?_
  refine X13.arraylength hx (by rw [e13]; exact Ar20.1) (State.isArrayOf_alike hZ.alike Ar20.2.1) (g := (mkF m 10 #[rv a1, rv b8, iv (1:Int32)] [(.ref a1), (.int (1:Int32))])) rfl rfl (hb hby d42_10) _ ?_
  rw [len_of S20 M20]
  refine XS.icmpNo X13.here hx rfl (hb hby d42_11) rfl (tlt (by decide : (1:Int32) < (3:Int32))).2.1 ?_
  refine aN X13 hx hby d42_14 rfl rfl ?_
  refine iN X13 hx hby d42_15 rfl ?_
  show St p e below T13 m 16 #[rv a1, rv b8, iv (1:Int32)] [(.int (1:Int32)), (.ref b8)] _
  refine aN X13 hx hby d42_16 rfl rfl ?_
  refine iN X13 hx hby d42_17 rfl ?_
  refine X13.aaload hx (j := (1:Int32)) (v := (.ref a5)) (by rw [e13]; exact Ar25.1) (State.isArrayOf_alike hZ.alike Ar25.2.1) rfl Ar25.2.2 hin25 (Has.at H25 hin25 rfl) (g := (mkF m 18 #[rv a1, rv b8, iv (1:Int32)] [(.int (1:Int32)), (.ref a1), (.int (1:Int32)), (.ref b8)])) rfl rfl (hb hby d42_18) _ ?_
  refine st26 _ ?_
  refine st27 _ ?_
  refine XS.iinc X27.here hx rfl (hb hby d42_23) rfl (l' := #[rv a1, rv b8, iv (2:Int32)]) rfl ?_
  refine XS.goto X27.here hx rfl (pc0 := 26) (pc' := 8) rfl (hb hby d42_26) (by decide) (by decide) ?_
  refine iN X27 hx hby d42_8 rfl ?_
  refine aN X27 hx hby d42_9 rfl rfl ?_
  refine X27.arraylength hx (by rw [e27]; exact Ar33.1) (State.isArrayOf_alike hZ.alike Ar33.2.1) (g := (mkF m 10 #[rv a1, rv b8, iv (2:Int32)] [(.ref a1), (.int (2:Int32))])) rfl rfl (hb hby d42_10) _ ?_
  rw [len_of S33 M33]
  refine XS.icmpNo X27.here hx rfl (hb hby d42_11) rfl (tlt (by decide : (2:Int32) < (3:Int32))).2.1 ?_
  refine aN X27 hx hby d42_14 rfl rfl ?_
  refine iN X27 hx hby d42_15 rfl ?_
  refine aN X27 hx hby d42_16 rfl rfl ?_
  refine iN X27 hx hby d42_17 rfl ?_
  refine X27.aaload hx (j := (2:Int32)) (v := (.ref a6)) (by rw [e27]; exact Ar35.1) (State.isArrayOf_alike hZ.alike Ar35.2.1) rfl Ar35.2.2 hin35 (Has.at H35 hin35 rfl) (g := (mkF m 18 #[rv a1, rv b8, iv (2:Int32)] [(.int (2:Int32)), (.ref a1), (.int (2:Int32)), (.ref b8)])) rfl rfl (hb hby d42_18) _ ?_
  refine st36 _ ?_
  refine st37 _ ?_
  refine XS.iinc X37.here hx rfl (hb hby d42_23) rfl (l' := #[rv a1, rv b8, iv (3:Int32)]) rfl ?_
  refine XS.goto X37.here hx rfl (pc0 := 26) (pc' := 8) rfl (hb hby d42_26) (by decide) (by decide) ?_
  refine iN X37 hx hby d42_8 rfl ?_
  refine aN X37 hx hby d42_9 rfl rfl ?_
  refine X37.arraylength hx (by rw [e37]; exact Ar43.1) (State.isArrayOf_alike hZ.alike Ar43.2.1) (g := (mkF m 10 #[rv a1, rv b8, iv (3:Int32)] [(.ref a1), (.int (3:Int32))])) rfl rfl (hb hby d42_10) _ ?_
  rw [len_of S43 M43]
  refine XS.icmpYes X37.here hx rfl (pc0 := 11) (pc' := 29) rfl (hb hby d42_11) rfl (flt (by decide : ¬ ((3:Int32) < (3:Int32)))).2.1 (by decide) (by decide) ?_
  refine st45 _ ?_
  show St p e below T45 m 32 #[rv a1, rv b8, iv (3:Int32)] [(.ref b45)] _
  refine XS.dup X45.here hx rfl (hb hby d42_32) rfl rfl ?_
  refine aN X45 hx hby d42_33 rfl rfl ?_
  refine iC X45 hx hby d42_34 ?_
  refine st49.trans ?_
  exact retA X49 hx Bd.returns rfl rfl (hb hby d42_38) hr
theorem d30_63 : dk cJ40_47 63 .areturn 1 := by decide +kernel
def r30_2Q (Z : State) (a1 : Addr) (k3 : ClassId) (a4 a5 a6 : Addr) (h0 : Heap) (n0 : Nat) : QT := fun v h L => ∃ (b12_0 b12_1 : Addr) (k12_0 : ClassId), v = some (.ref b12_0) ∧ Fr n0 L ∧ Keep h0 h [] ∧ h0.size ≤ b12_0 ∧ h0.size ≤ b12_1 ∧ b12_0 ≠ b12_1 ∧ xE17 Z h b12_0 ∧ xF18 Z h b12_0 (.ref b12_1) ∧ xF24 Z h b12_0 (.int (0:Int32)) ∧ Arv Z h b12_1 k12_0 (.object "java/lang/Object") (3:Int32) [(.ref a4), (.ref a5), (.ref a6)] .null ∧ xE19 Z h b12_1 ∧ Ovr Z k12_0 "java/lang/Object"
theorem r30_2 (hw : HW a0 Z) (a1 : Addr) (k3 : ClassId) (a4 a5 a6 : Addr) (O0 : Old Z n0 h0) (H7 : Arv Z h0 a1 k3 (.object "java/lang/Object") (3:Int32) [(.ref a4), (.ref a5), (.ref a6)] .null) (H8 : xE5 Z h0 a4) (H9 : xE19 Z h0 a1) (H10 : xE5 Z h0 a5) (H11 : xE5 Z h0 a6) :
    MF l y30 cJ40_47 2 (some (.object "java/util/List")) [] (rM 6 2 5 77) Z #[(.ref a1)] h0 (r30_2Q Z a1 k3 a4 a5 a6 h0 n0) := by
  refine own_in (pq pn15) #[rv a1, un] (fun _ => by first | (simp [entryFrame, mkF, argsToLocals, Value.category]; done) | rfl) ?_
  intro p e s m below meth c s₁ Bd hx hby hml hown hnm hZ e0 X0
  have N0 := Fr.nil n0
  obtain ⟨_, Ar2, _, S2, M2, _, _⟩ := id H7
  obtain ⟨T12, _, _, X12, hQ12, st12⟩ := cS X0 hx hZ hw hown (y := y42) 319 rfl 320 rfl 67 rfl 321 rfl (by decide) (W := 0) (r42_1 hw a1 k3 a4 a5 a6 O0 H7 H8 H9 H10 H11) (by decide) (by decide) e0 (g := (mkF m 60 #[rv a1, un] [(.ref a1)])) rfl (by rw [hml]; rfl) (argsL := [(.ref a1)]) (rest := []) (lenOf pd8 rfl) rfl wf (hb hby d30_60) rfl (by decide) (by decide)
  obtain ⟨b12_0, b12_1, k12_0, rfl, N12q, K12, lo12_1, lo12_2, nq12_3, f12_4, f12_5, f12_6, f12_7, f12_8, f12_9⟩ := hQ12
  have N12 := Fr.app N0 N12q
  have Kp_K12 : Keep h0 T12.heap [] := (Keep.refl h0 []).trans K12 all0
  have z13 : h0.size ≤ b12_0 := Nat.le_trans (Keep.refl h0 []).1 lo12_1
  have z14 : h0.size ≤ b12_1 := Nat.le_trans (Keep.refl h0 []).1 lo12_2
  refine fin (Q := r30_2Q Z a1 k3 a4 a5 a6 h0 n0) (rm := (rM 6 2 5 77)) Bd X12 rfl (some (.ref b12_0)) nofun ⟨b12_0, b12_1, k12_0, rfl, N12, Kp_K12, z13, z14, nq12_3, f12_4, f12_5, f12_6, f12_7, f12_8, f12_9⟩ (by decide) (by decide) fun fs hr => ?_
  show St p e below s₁ m 0 #[rv a1, un] [] _
  refine aN X0 hx hby d30_0 rfl rfl ?_
  refine X0.arraylength hx (by rw [e0]; exact Ar2.1) (State.isArrayOf_alike hZ.alike Ar2.2.1) (g := (mkF m 1 #[rv a1, un] [(.ref a1)])) rfl rfl (hb hby d30_1) _ ?_
  rw [len_of S2 M2]
  refine XS.tswOut X0.here hx rfl (pc0 := 2) (pc' := 59) rfl (hb hby d30_2) rfl (by decide) (by decide) (by decide) ?_
  refine aN X0 hx hby d30_59 rfl rfl ?_
  refine st12 _ ?_
  exact retA X12 hx Bd.returns rfl rfl (hb hby d30_63) hr
def r7_3Q (Z : State) (a1 a7 a10 : Addr) (k12 : ClassId) (a13 a14 a15 : Addr) (h0 : Heap) (n0 : Nat) : QT := fun v h L => ∃ (b24_0 b24_1 : Addr) (k24_0 : ClassId), v = some (.ref b24_0) ∧ Fr n0 L ∧ Keep h0 h [] ∧ h0.size ≤ b24_0 ∧ h0.size ≤ b24_1 ∧ b24_0 ≠ b24_1 ∧ xE17 Z h b24_0 ∧ xF18 Z h b24_0 (.ref b24_1) ∧ xF24 Z h b24_0 (.int (0:Int32)) ∧ Arv Z h b24_1 k24_0 (.object "java/lang/Object") (3:Int32) [(.ref a13), (.ref a14), (.ref a15)] .null ∧ xE19 Z h b24_1 ∧ Ovr Z k24_0 "java/lang/Object"
theorem r7_3 (hw : HW a0 Z) (a1 a7 a10 : Addr) (k12 : ClassId) (a13 a14 a15 : Addr) (O0 : Old Z n0 h0) (H3 : xE1 Z h0 a1) (H5 : xF3 Z h0 a1 (.int (3:Int32))) (H8 : xF2 Z h0 a1 (.ref a7)) (H9 : xE19 Z h0 a7) (H11 : Mi Z "[Ljava/lang/Object;" a10) (H16 : Arv Z h0 a7 k12 (.object "java/lang/Object") (10:Int32) [(.ref a13), (.ref a14), (.ref a15), .null, .null, .null, .null, .null, .null, .null] .null) (H17 : xE5 Z h0 a13) (H18 : xE5 Z h0 a14) (H19 : xE5 Z h0 a15) :
    MF l y7 cJ56_3 2 (some (.object "java/util/List")) [] (rM 7 3 8 90) Z #[(.ref a1)] h0 (r7_3Q Z a1 a7 a10 k12 a13 a14 a15 h0 n0) := by
  refine own_in (pq pn5) #[rv a1, un] (fun _ => by first | (simp [entryFrame, mkF, argsToLocals, Value.category]; done) | rfl) ?_
  intro p e s m below meth c s₁ Bd hx hby hml hown hnm hZ e0 X0
  have N0 := Fr.nil n0
  obtain ⟨_, X2, e2, st2⟩ := instNo X0 hx hZ hown (ow hw 69 rfl) e0 H3 (own_nsn (ow hw 70 rfl) (ow hw 223 rfl) (NS.step (ow hw 70 rfl) (NS.step (ow hw 71 rfl) (NS.step (ow hw 72 rfl) (own_nsr (ow hw 73 rfl) (ow hw 223 rfl) (by decide)) (by decide)) (by decide)) (by decide)) (by decide)) (g := (mkF m 1 #[rv a1, un] [(.ref a1)])) rfl rfl (hb hby d7_1)
  obtain ⟨_, X4, e4, st4⟩ := instNo X2 hx hZ hown (ow hw 74 rfl) e2 H3 (own_nsn (ow hw 70 rfl) (ow hw 324 rfl) (NS.step (ow hw 70 rfl) (NS.step (ow hw 71 rfl) (NS.step (ow hw 72 rfl) (own_nsr (ow hw 73 rfl) (ow hw 324 rfl) (by decide)) (by decide)) (by decide)) (by decide)) (by decide)) (g := (mkF m 8 #[rv a1, un] [(.ref a1)])) rfl rfl (hb hby d7_8)
  obtain ⟨_, _, _, X6, hQ6, st6⟩ := cI X4 hx hZ hw hown (x := y9) (y := y8) 75 rfl 76 rfl 77 rfl 78 rfl 79 rfl 80 rfl 81 rfl 82 rfl 83 rfl 10 rfl (by decide) (W := 0) (r8_3 hw a1 O0 H5) (by decide) (by decide) H3 e4 (g := (mkF m 32 #[rv a1, un] [(.ref a1)])) rfl (by rw [hml]; rfl) (argsL := []) (rest := []) (lenOf pd23 rfl) rfl wf (hb hby d7_32) rfl (by decide) (by decide)
  obtain ⟨rfl, N6q, e6⟩ := hQ6
  have N6 := Fr.app N0 N6q
  obtain ⟨T20, _, _, X20, hQ20, st20⟩ := cI X6 hx hZ hw hown (x := y29) (y := y25) 189 rfl 190 rfl 191 rfl 192 rfl 193 rfl 194 rfl 195 rfl 82 rfl 196 rfl 10 rfl (by decide) (W := 0) (r25_2 hw a1 a7 a10 k12 a13 a14 a15 O0 H8 H5 H9 H11 H16 H17 H18 H19) (by decide) (by decide) H3 e6 (g := (mkF m 45 #[rv a1, un] [(.ref a1)])) rfl (by rw [hml]; rfl) (argsL := []) (rest := []) (lenOf pd15 rfl) rfl wf (hb hby d7_45) rfl (by decide) (by decide)
  obtain ⟨b20_0, k20_0, rfl, N20q, K20, _, f20_2, f20_3, _⟩ := hQ20
  have N20 := Fr.app N6 N20q
  have O_K20 : Old Z n0 T20.heap := O0.keep K20 all0
  have Kp_K20 : Keep h0 T20.heap [] := (Keep.refl h0 []).trans K20 all0
  have f21 := (H17.keep K20)
  have f22 := (H18.keep K20)
  have f23 := (H19.keep K20)
  obtain ⟨T24, _, _, X24, hQ24, st24⟩ := cS X20 hx hZ hw hown (y := y30) 219 rfl 220 rfl 63 rfl 221 rfl (by decide) (W := 0) (r30_2 hw b20_0 k20_0 a13 a14 a15 O_K20 f20_2 f21 f20_3 f22 f23) (by decide) (by decide) rfl (g := (mkF m 50 #[rv a1, un] [(.ref b20_0)])) rfl (by rw [hml]; rfl) (argsL := [(.ref b20_0)]) (rest := []) (lenOf pd8 rfl) rfl wf (hb hby d7_50) rfl (by decide) (by decide)
  obtain ⟨b24_0, b24_1, k24_0, rfl, N24q, K24, lo24_1, lo24_2, nq24_3, f24_4, f24_5, f24_6, f24_7, f24_8, f24_9⟩ := hQ24
  have N24 := Fr.app N20 N24q
  have Kp_K24 : Keep h0 T24.heap [] := Kp_K20.trans K24 all0
  have z25 : h0.size ≤ b24_0 := Nat.le_trans Kp_K20.1 lo24_1
  have z26 : h0.size ≤ b24_1 := Nat.le_trans Kp_K20.1 lo24_2
  refine fin (Q := r7_3Q Z a1 a7 a10 k12 a13 a14 a15 h0 n0) (rm := (rM 7 3 8 90)) Bd X24 rfl (some (.ref b24_0)) nofun ⟨b24_0, b24_1, k24_0, rfl, N24, Kp_K24, z25, z26, nq24_3, f24_4, f24_5, f24_6, f24_7, f24_8, f24_9⟩ (by decide) (by decide) fun fs hr => ?_
  show St p e below s₁ m 0 #[rv a1, un] [] _
  refine aN X0 hx hby d7_0 rfl rfl ?_
  refine st2 _ ?_
  refine XS.ifNo X2.here hx rfl (hb hby d7_4) rfl ((if0 _ _).trans (teq (rfl : (0:Int32) = (0:Int32))).2) ?_
  refine aN X2 hx hby d7_7 rfl rfl ?_
  refine st4 _ ?_
  refine XS.ifYes X4.here hx rfl (pc0 := 11) (pc' := 31) rfl (hb hby d7_11) rfl ((if0 _ _).trans (teq (rfl : (0:Int32) = (0:Int32))).1) (by decide) (by decide) ?_
  refine aN X4 hx hby d7_31 rfl rfl ?_
  refine st6.trans ?_
  refine XS.ifYes X6.here hx rfl (pc0 := 37) (pc' := 44) rfl (hb hby d7_37) rfl ((if0 _ _).trans (teq (rfl : (0:Int32) = (0:Int32))).1) (by decide) (by decide) ?_
  refine aN X6 hx hby d7_44 rfl rfl ?_
  refine st20.trans ?_
  refine st24 _ ?_
  exact retA X24 hx Bd.returns rfl rfl (hb hby d7_53) hr
def r6_3Q (Z : State) (a1 a4 a7 : Addr) (k9 : ClassId) (a10 a11 a12 : Addr) (h0 : Heap) (n0 : Nat) : QT := fun v h L => ∃ (b17_0 b17_1 : Addr) (k17_0 : ClassId), v = some (.ref b17_0) ∧ Fr n0 L ∧ Keep h0 h [] ∧ h0.size ≤ b17_0 ∧ h0.size ≤ b17_1 ∧ b17_0 ≠ b17_1 ∧ xE17 Z h b17_0 ∧ xF18 Z h b17_0 (.ref b17_1) ∧ xF24 Z h b17_0 (.int (0:Int32)) ∧ Arv Z h b17_1 k17_0 (.object "java/lang/Object") (3:Int32) [(.ref a10), (.ref a11), (.ref a12)] .null ∧ xE19 Z h b17_1 ∧ Ovr Z k17_0 "java/lang/Object"
theorem r6_3 (hw : HW a0 Z) (a1 a4 a7 : Addr) (k9 : ClassId) (a10 a11 a12 : Addr) (O0 : Old Z n0 h0) (H2 : xE1 Z h0 a1) (H3 : xF3 Z h0 a1 (.int (3:Int32))) (H5 : xF2 Z h0 a1 (.ref a4)) (H6 : xE19 Z h0 a4) (H8 : Mi Z "[Ljava/lang/Object;" a7) (H13 : Arv Z h0 a4 k9 (.object "java/lang/Object") (10:Int32) [(.ref a10), (.ref a11), (.ref a12), .null, .null, .null, .null, .null, .null, .null] .null) (H14 : xE5 Z h0 a10) (H15 : xE5 Z h0 a11) (H16 : xE5 Z h0 a12) :
    MF l y6 jdk_40_method_48_code 1 (some (.object "java/util/List")) [] (rM 8 3 8 103) Z #[(.ref a1)] h0 (r6_3Q Z a1 a4 a7 k9 a10 a11 a12 h0 n0) := by
  refine own_in (pq pn15) #[rv a1] (fun _ => by first | (simp [entryFrame, mkF, argsToLocals, Value.category]; done) | rfl) ?_
  intro p e s m below meth c s₁ Bd hx hby hml hown hnm hZ e0 X0
  have N0 := Fr.nil n0
  obtain ⟨T17, _, _, X17, hQ17, st17⟩ := cS X0 hx hZ hw hown (y := y7) 65 rfl 66 rfl 67 rfl 68 rfl (by decide) (W := 0) (r7_3 hw a1 a4 a7 k9 a10 a11 a12 O0 H2 H3 H5 H6 H8 H13 H14 H15 H16) (by decide) (by decide) e0 (g := (mkF m 1 #[rv a1] [(.ref a1)])) rfl (by rw [hml]; rfl) (argsL := [(.ref a1)]) (rest := []) (lenOf pd5 rfl) rfl wf (hb hby d6_1) rfl (by decide) (by decide)
  obtain ⟨b17_0, b17_1, k17_0, rfl, N17q, K17, lo17_1, lo17_2, nq17_3, f17_4, f17_5, f17_6, f17_7, f17_8, f17_9⟩ := hQ17
  have N17 := Fr.app N0 N17q
  have Kp_K17 : Keep h0 T17.heap [] := (Keep.refl h0 []).trans K17 all0
  have z18 : h0.size ≤ b17_0 := Nat.le_trans (Keep.refl h0 []).1 lo17_1
  have z19 : h0.size ≤ b17_1 := Nat.le_trans (Keep.refl h0 []).1 lo17_2
  refine fin (Q := r6_3Q Z a1 a4 a7 k9 a10 a11 a12 h0 n0) (rm := (rM 8 3 8 103)) Bd X17 rfl (some (.ref b17_0)) nofun ⟨b17_0, b17_1, k17_0, rfl, N17, Kp_K17, z18, z19, nq17_3, f17_4, f17_5, f17_6, f17_7, f17_8, f17_9⟩ (by decide) (by decide) fun fs hr => ?_
  show St p e below s₁ m 0 #[rv a1] [] _
  refine aN X0 hx hby d6_0 rfl rfl ?_
  refine st17 _ ?_
  exact retA X17 hx Bd.returns rfl rfl (hb hby d6_4) hr
def r12_3Q (Z : State) (a1 a2 : Addr) (h0 : Heap) (n0 : Nat) : QT := fun v h L => v = none ∧ Fr n0 L ∧ Keep h0 h [a1] ∧ xF11 Z h a1 (.ref a2) ∧ xE12 Z h a1 ∧ xF13 Z h a1 (.int (-1:Int32)) ∧ xF14 Z h a1 (.int (3:Int32)) ∧ xF15 Z h a1 (.int (0:Int32))
theorem r12_3 (hw : HW a0 Z) (a1 a2 : Addr) (O0 : Old Z n0 h0) (H3 : xF11 Z h0 a1 .null) (H4 : xE12 Z h0 a1) (H6 : n0 ≤ a1) (H10 : xF13 Z h0 a1 (.int (0:Int32))) (H19 : xF0 Z h0 a2 (.int (3:Int32))) (H20 : a2 ≠ a1) (H23 : xF14 Z h0 a1 (.int (0:Int32))) (H28 : xF15 Z h0 a1 (.int (0:Int32))) :
    MF l y12 cJ49_1 2 none [] (rM 1 0 0 12) Z #[(.ref a1), (.ref a2)] h0 (r12_3Q Z a1 a2 h0 n0) := by
  refine own_in (pq pn7) #[rv a1, rv a2] (fun _ => by first | (simp [entryFrame, mkF, argsToLocals, Value.category]; done) | rfl) ?_
  intro p e s m below meth c s₁ Bd hx hby hml hown hnm hZ e0 X0
  have N0 := Fr.nil n0
  obtain ⟨_, h5, X5, e5, W5, st5⟩ := pF X0 hx hZ hown (ow hw 108 rfl) e0 H3 H4 (Or.inr ⟨(ow hw 109 rfl), rfl, hnm⟩) (ow hw 102 rfl) (ty := (.object "java/util/ArrayList")) (by decide) rfl rfl (g := (mkF m 2 #[rv a1, rv a2] [(.ref a2), (.ref a1)])) rfl rfl (hb hby d12_2)
  have Kp_W5 : Keep h0 h5 [a1] := (Keep.refl h0 [a1]).wr W5 (mI 0 rfl)
  have N7 := Fr.snoc X5 N0 H6
  have f8 := H3.same W5
  obtain ⟨_, X9, e9, st9⟩ := initO X5 hx hZ hown (ow hw 110 rfl) (ow hw 27 rfl) (ow hw 28 rfl) e5 (g := (mkF m 6 #[rv a1, rv a2] [(.ref a1)])) rfl (by rw [hml]; rfl) rfl (hb hby d12_6) (by decide) (W := 0) wf (by decide)
  have f11 := (H4.wr W5)
  have f12 := (H10.other W5 (Or.inr (sn2 hw)))
  obtain ⟨_, h13, X13, e13, W13, st13⟩ := pF X9 hx hZ hown (ow hw 111 rfl) e9 f12 f11 (Or.inl (ow hw 112 rfl)) (ow hw 102 rfl) (ty := .int) (by decide) rfl rfl (g := (mkF m 11 #[rv a1, rv a2] [(.int (-1:Int32)), (.ref a1)])) rfl rfl (hb hby d12_11)
  have Kp_W13 : Keep h0 h13 [a1] := Kp_W5.wr W13 (mI 0 rfl)
  have N14 := Fr.snoc X13 N7 H6
  have f15 := f12.same W13
  have f16 := (f11.wr W13)
  have f17 := (f8.other W13 (Or.inr (sn3 hw)))
  obtain ⟨_, X18, e18, st18⟩ := gF X13 hx hZ hown (ow hw 108 rfl) e13 f17 (g := (mkF m 16 #[rv a1, rv a2] [(.ref a1), (.ref a1)])) rfl rfl (hb hby d12_16)
  have f21 := ((H19.other W5 (Or.inl H20)).other W13 (Or.inl H20))
  obtain ⟨_, X22, e22, st22⟩ := getF X18 hx hZ hown (host := "") (Or.inl (ow hw 113 rfl)) (Via.of (ow hw 114 rfl)) e18 f21 (g := (mkF m 19 #[rv a1, rv a2] [(.ref a2), (.ref a1)])) rfl rfl (hb hby d12_19)
  have f24 := ((H23.other W5 (Or.inr (sn4 hw))).other W13 (Or.inr (sn5 hw)))
  obtain ⟨_, h25, X25, e25, W25, st25⟩ := pF X22 hx hZ hown (ow hw 115 rfl) e22 f24 f16 (Or.inl (ow hw 116 rfl)) (ow hw 102 rfl) (ty := .int) (by decide) rfl rfl (g := (mkF m 22 #[rv a1, rv a2] [(.int (3:Int32)), (.ref a1)])) rfl rfl (hb hby d12_22)
  have Kp_W25 : Keep h0 h25 [a1] := Kp_W13.wr W25 (mI 0 rfl)
  have N26 := Fr.snoc X25 N14 H6
  have f27 := f24.same W25
  have f29 := (f16.wr W25)
  have f30 := (((H28.other W5 (Or.inr (sn6 hw))).other W13 (Or.inr (sn7 hw))).other W25 (Or.inr (sn8 hw)))
  have f31 := (f17.other W25 (Or.inr (sn9 hw)))
  have f32 := (f15.other W25 (Or.inr (sn10 hw)))
  refine fin (Q := r12_3Q Z a1 a2 h0 n0) (rm := (rM 1 0 0 12)) Bd X25 e25 (none) (fun _ => rfl) ⟨rfl, N26, Kp_W25, f31, f29, f32, f27, f30⟩ (by decide) (by decide) fun fs hr => ?_
  show St p e below s₁ m 0 #[rv a1, rv a2] [] _
  refine aN X0 hx hby d12_0 rfl rfl ?_
  refine aN X0 hx hby d12_1 rfl rfl ?_
  refine st5 _ ?_
  refine aN X5 hx hby d12_5 rfl rfl ?_
  refine st9 _ ?_
  refine aN X9 hx hby d12_9 rfl rfl ?_
  refine iC X9 hx hby d12_10 ?_
  refine st13 _ ?_
  refine aN X13 hx hby d12_14 rfl rfl ?_
  refine aN X13 hx hby d12_15 rfl rfl ?_
  refine st18 _ ?_
  refine st22 _ ?_
  refine st25 _ ?_
  exact X25.returnOut hx Bd.returns (hb hby d12_25) hr
def r11_3Q (Z : State) (a1 : Addr) (h0 : Heap) (n0 : Nat) : QT := fun v h L => ∃ (b2 : Addr), v = some (.ref b2) ∧ Fr n0 L ∧ Keep h0 h [] ∧ h0.size ≤ b2 ∧ xE12 Z h b2 ∧ xF11 Z h b2 (.ref a1) ∧ xF13 Z h b2 (.int (-1:Int32)) ∧ xF14 Z h b2 (.int (3:Int32)) ∧ xF15 Z h b2 (.int (0:Int32))
theorem r11_3 (hw : HW a0 Z) (a1 : Addr) (O0 : Old Z n0 h0) (H6 : xF0 Z h0 a1 (.int (3:Int32))) (H8 : xE1 Z h0 a1) :
    MF l y11 cJ38_55 1 (some (.object "java/util/Iterator")) [] (rM 2 1 4 26) Z #[(.ref a1)] h0 (r11_3Q Z a1 h0 n0) := by
  refine own_in (pq pn10) #[rv a1] (fun _ => by first | (simp [entryFrame, mkF, argsToLocals, Value.category]; done) | rfl) ?_
  intro p e s m below meth c s₁ Bd hx hby hml hown hnm hZ e0 X0
  have N0 := Fr.nil n0
  obtain ⟨_, h2, X2, e2, E2, A2, D2, -, st2⟩ := newO X0 hx hZ hown (ow hw 101 rfl) (ow hw 102 rfl) (ow hw 103 rfl) e0 (g := (mkF m 0 #[rv a1] [])) rfl (hb hby d11_0) (by decide) (by decide)
  obtain ⟨b2, g2⟩ : ∃ z, z = h0.size := ⟨_, rfl⟩
  rw [← g2] at A2 D2 st2
  have O_E2 : Old Z n0 h2 := O0.ext E2
  have Kp_E2 : Keep h0 h2 [] := (Keep.refl h0 []).ext E2
  have f3 : xF11 Z h2 b2 .null := D2 (Or.inr (ow hw 109 rfl)) (ty := (.object "java/util/ArrayList")) (by decide)
  have g4 : n0 ≤ b2 := Nat.le_trans (Nat.le_trans (Nat.le_of_eq O0.1.symm) O0.2.1) (Nat.le_of_eq g2.symm)
  have f5 : xF13 Z h2 b2 (.int (0:Int32)) := D2 (Or.inl (ow hw 112 rfl)) (ty := .int) (by decide)
  have f7 := (H6.ext E2)
  have ne10 : a1 ≠ b2 := Nat.ne_of_lt (Nat.lt_of_lt_of_le H8.lt (Nat.le_of_eq g2.symm))
  have f11 : xF14 Z h2 b2 (.int (0:Int32)) := D2 (Or.inl (ow hw 116 rfl)) (ty := .int) (by decide)
  have f12 : xF15 Z h2 b2 (.int (0:Int32)) := D2 (Or.inl (ow hw 127 rfl)) (ty := .int) (by decide)
  obtain ⟨T13, _, _, X13, hQ13, st13⟩ := cP X2 hx hZ hw hown (y := y12) rfl 104 rfl 105 rfl 107 rfl 103 rfl (by decide) (W := 1) (r12_3 hw b2 a1 O_E2 f3 A2 g4 f5 f7 ne10 f11 f12) (by decide) (by decide) e2 (g := (mkF m 5 #[rv a1] [(.ref a1), (.ref b2), (.ref b2)])) rfl (by rw [hml]; rfl) (argsL := [(.ref a1)]) (rest := [(.ref b2)]) (lenOf pd10 rfl) rfl wf (hb hby d11_5) rfl (by decide) (by decide)
  obtain ⟨rfl, N13q, K13, f13_1, f13_2, f13_3, f13_4, f13_5⟩ := hQ13
  have N13 := Fr.app N0 N13q
  have z14 : h0.size ≤ b2 := Nat.le_trans (Keep.refl h0 []).1 (Nat.le_of_eq g2.symm)
  have Kp_K13 : Keep h0 T13.heap [] := Kp_E2.trans K13 (allS (Or.inr z14) all0)
  refine fin (Q := r11_3Q Z a1 h0 n0) (rm := (rM 2 1 4 26)) Bd X13 rfl (some (.ref b2)) nofun ⟨b2, rfl, N13, Kp_K13, z14, f13_2, f13_1, f13_3, f13_4, f13_5⟩ (by decide) (by decide) fun fs hr => ?_
  show St p e below s₁ m 0 #[rv a1] [] _
  refine st2 _ ?_
  refine XS.dup X2.here hx rfl (hb hby d11_3) rfl rfl ?_
  refine aN X2 hx hby d11_4 rfl rfl ?_
  refine st13.trans ?_
  exact retA X13 hx Bd.returns rfl rfl (hb hby d11_8) hr
def r14_5Q (Z : State) (a1 a4 : Addr) (h0 : Heap) (n0 : Nat) : QT := fun v h L => v = some (.int (1:Int32)) ∧ Fr n0 L ∧ h = h0
theorem r14_5 (hw : HW a0 Z) (a1 a4 : Addr) (O0 : Old Z n0 h0) (H2 : xF15 Z h0 a1 (.int (0:Int32))) (H5 : xF11 Z h0 a1 (.ref a4)) (H7 : xF3 Z h0 a4 (.int (3:Int32))) :
    MF l y14 cJ49_2 1 (some .boolean) [] (rM 0 0 0 0) Z #[(.ref a1)] h0 (r14_5Q Z a1 a4 h0 n0) := by
  refine own_in (pq pn7) #[rv a1] (fun _ => by first | (simp [entryFrame, mkF, argsToLocals, Value.category]; done) | rfl) ?_
  intro p e s m below meth c s₁ Bd hx hby hml hown hnm hZ e0 X0
  have N0 := Fr.nil n0
  obtain ⟨_, X3, e3, st3⟩ := gF X0 hx hZ hown (ow hw 126 rfl) e0 H2 (g := (mkF m 1 #[rv a1] [(.ref a1)])) rfl rfl (hb hby d14_1)
  obtain ⟨_, X6, e6, st6⟩ := gF X3 hx hZ hown (ow hw 108 rfl) e3 H5 (g := (mkF m 5 #[rv a1] [(.ref a1), (.int (0:Int32))])) rfl rfl (hb hby d14_5)
  obtain ⟨_, X8, e8, st8⟩ := getF X6 hx hZ hown (Or.inr (ow hw 128 rfl)) Via.refl e6 H7 (g := (mkF m 8 #[rv a1] [(.ref a4), (.int (0:Int32))])) rfl rfl (hb hby d14_8)
  refine fin (Q := r14_5Q Z a1 a4 h0 n0) (rm := (rM 0 0 0 0)) Bd X8 e8 (some (.int (1:Int32))) nofun ⟨rfl, N0, rfl⟩ (by decide) (by decide) fun fs hr => ?_
  show St p e below s₁ m 0 #[rv a1] [] _
  refine aN X0 hx hby d14_0 rfl rfl ?_
  refine st3 _ ?_
  refine aN X3 hx hby d14_4 rfl rfl ?_
  refine st6 _ ?_
  refine st8 _ ?_
  refine XS.icmpNo X8.here hx rfl (hb hby d14_11) rfl (feq (by decide : ¬ ((0:Int32) = (3:Int32)))).1 ?_
  refine iC X8 hx hby d14_14 ?_
  refine XS.goto X8.here hx rfl (pc0 := 15) (pc' := 19) rfl (hb hby d14_15) (by decide) (by decide) ?_
  exact retN X8 hx (t := .boolean) Bd.returns (by simp) (hb hby d14_19) hr
def r36_2Q (Z : State) (a1 a2 : Addr) (h0 : Heap) (n0 : Nat) : QT := fun v h L => v = none ∧ Fr n0 L ∧ h = h0
theorem r36_2 (hw : HW a0 Z) (a1 a2 : Addr) (O0 : Old Z n0 h0) (H3 : xF11 Z h0 a1 (.ref a2)) (H5 : xF0 Z h0 a2 (.int (3:Int32))) (H7 : xF14 Z h0 a1 (.int (3:Int32))) :
    MF l y36 cJ49_6 1 none [] (rM 0 0 0 0) Z #[(.ref a1)] h0 (r36_2Q Z a1 a2 h0 n0) := by
  refine own_in (pq pn7) #[rv a1] (fun _ => by first | (simp [entryFrame, mkF, argsToLocals, Value.category]; done) | rfl) ?_
  intro p e s m below meth c s₁ Bd hx hby hml hown hnm hZ e0 X0
  have N0 := Fr.nil n0
  obtain ⟨_, X4, e4, st4⟩ := gF X0 hx hZ hown (ow hw 108 rfl) e0 H3 (g := (mkF m 1 #[rv a1] [(.ref a1)])) rfl rfl (hb hby d36_1)
  obtain ⟨_, X6, e6, st6⟩ := getF X4 hx hZ hown (host := "") (Or.inl (ow hw 113 rfl)) (Via.of (ow hw 114 rfl)) e4 H5 (g := (mkF m 4 #[rv a1] [(.ref a2)])) rfl rfl (hb hby d36_4)
  obtain ⟨_, X8, e8, st8⟩ := gF X6 hx hZ hown (ow hw 115 rfl) e6 H7 (g := (mkF m 8 #[rv a1] [(.ref a1), (.int (3:Int32))])) rfl rfl (hb hby d36_8)
  refine fin (Q := r36_2Q Z a1 a2 h0 n0) (rm := (rM 0 0 0 0)) Bd X8 e8 (none) (fun _ => rfl) ⟨rfl, N0, rfl⟩ (by decide) (by decide) fun fs hr => ?_
  show St p e below s₁ m 0 #[rv a1] [] _
  refine aN X0 hx hby d36_0 rfl rfl ?_
  refine st4 _ ?_
  refine st6 _ ?_
  refine aN X6 hx hby d36_7 rfl rfl ?_
  refine st8 _ ?_
  refine XS.icmpYes X8.here hx rfl (pc0 := 11) (pc' := 22) rfl (hb hby d36_11) rfl (teq (rfl : (3:Int32) = (3:Int32))).1 (by decide) (by decide) ?_
  exact X8.returnOut hx Bd.returns (hb hby d36_22) hr
def r35_3Q (Z : State) (a1 a3 a14 : Addr) (k18 : ClassId) (a19 a20 a21 : Addr) (h0 : Heap) (n0 : Nat) : QT := fun v h L => v = some (.ref a19) ∧ Fr n0 L ∧ Keep h0 h [a1] ∧ xE12 Z h a1 ∧ xF11 Z h a1 (.ref a3) ∧ xF14 Z h a1 (.int (3:Int32)) ∧ xF15 Z h a1 (.int (1:Int32)) ∧ xF13 Z h a1 (.int (0:Int32))
theorem r35_3 (hw : HW a0 Z) (a1 a3 a14 : Addr) (k18 : ClassId) (a19 a20 a21 : Addr) (O0 : Old Z n0 h0) (H2 : xE12 Z h0 a1) (H4 : xF11 Z h0 a1 (.ref a3)) (H5 : xF0 Z h0 a3 (.int (3:Int32))) (H6 : xF14 Z h0 a1 (.int (3:Int32))) (H8 : xF15 Z h0 a1 (.int (0:Int32))) (H11 : xF3 Z h0 a3 (.int (3:Int32))) (H15 : xF2 Z h0 a3 (.ref a14)) (H22 : Arv Z h0 a14 k18 (.object "java/lang/Object") (10:Int32) [(.ref a19), (.ref a20), (.ref a21), .null, .null, .null, .null, .null, .null, .null] .null) (H24 : n0 ≤ a1) (H27 : xF13 Z h0 a1 (.int (-1:Int32))) (H34 : a14 ≠ a1) :
    MF l y35 cJ49_3 3 (some (.object "java/lang/Object")) [] (rM 1 0 0 12) Z #[(.ref a1)] h0 (r35_3Q Z a1 a3 a14 k18 a19 a20 a21 h0 n0) := by
  refine own_in (pq pn7) #[rv a1, un, un] (fun _ => by first | (simp [entryFrame, mkF, argsToLocals, Value.category]; done) | rfl) ?_
  intro p e s m below meth c s₁ Bd hx hby hml hown hnm hZ e0 X0
  have N0 := Fr.nil n0
  obtain ⟨_, _, _, X7, hQ7, st7⟩ := cV X0 hx hZ hw hown (y := y36) 259 rfl 260 rfl 262 rfl 261 rfl 263 rfl 103 rfl (by decide) (W := 0) (r36_2 hw a1 a3 O0 H4 H5 H6) (by decide) (by decide) H2 e0 (g := (mkF m 1 #[rv a1, un, un] [(.ref a1)])) rfl (by rw [hml]; rfl) (argsL := []) (rest := []) (lenOf pd22 rfl) rfl wf (hb hby d35_1) rfl (by decide) (by decide)
  obtain ⟨rfl, N7q, e7⟩ := hQ7
  have N7 := Fr.app N0 N7q
  obtain ⟨_, X9, e9, st9⟩ := gF X7 hx hZ hown (ow hw 126 rfl) e7 H8 (g := (mkF m 5 #[rv a1, un, un] [(.ref a1)])) rfl rfl (hb hby d35_5)
  obtain ⟨_, X10, e10, st10⟩ := gF X9 hx hZ hown (ow hw 108 rfl) e9 H4 (g := (mkF m 11 #[rv a1, iv (0:Int32), un] [(.ref a1), (.int (0:Int32))])) rfl rfl (hb hby d35_11)
  obtain ⟨_, X12, e12, st12⟩ := getF X10 hx hZ hown (Or.inr (ow hw 128 rfl)) Via.refl e10 H11 (g := (mkF m 14 #[rv a1, iv (0:Int32), un] [(.ref a3), (.int (0:Int32))])) rfl rfl (hb hby d35_14)
  obtain ⟨_, X13, e13, st13⟩ := gF X12 hx hZ hown (ow hw 108 rfl) e12 H4 (g := (mkF m 29 #[rv a1, iv (0:Int32), un] [(.ref a1)])) rfl rfl (hb hby d35_29)
  obtain ⟨_, X16, e16, st16⟩ := gF X13 hx hZ hown (ow hw 264 rfl) e13 H15 (g := (mkF m 32 #[rv a1, iv (0:Int32), un] [(.ref a3)])) rfl rfl (hb hby d35_32)
  obtain ⟨_, Ar17, _, S17, M17, _, _⟩ := id H22
  obtain ⟨T23, h23, X23, e23, W23, st23⟩ := pF X16 hx hZ hown (ow hw 126 rfl) e16 H8 H2 (Or.inl (ow hw 127 rfl)) (ow hw 102 rfl) (ty := .int) (by decide) rfl rfl (g := (mkF m 54 #[rv a1, iv (0:Int32), rv a14] [(.int (1:Int32)), (.ref a1)])) rfl rfl (hb hby d35_54)
  have Kp_W23 : Keep h0 h23 [a1] := (Keep.refl h0 [a1]).wr W23 (mI 0 rfl)
  have N25 := Fr.snoc X23 N7 H24
  have f26 := H8.same W23
  have f28 := (H2.wr W23)
  have f29 := (H27.other W23 (Or.inr (sn41 hw)))
  obtain ⟨_, h30, X30, e30, W30, st30⟩ := pF X23 hx hZ hown (ow hw 111 rfl) e23 f29 f28 (Or.inl (ow hw 112 rfl)) (ow hw 102 rfl) (ty := .int) (by decide) rfl rfl (g := (mkF m 61 #[rv a1, iv (0:Int32), rv a14] [(.int (0:Int32)), (.ref a1), (.int (0:Int32)), (.ref a14)])) rfl rfl (hb hby d35_61)
  have Kp_W30 : Keep h0 h30 [a1] := Kp_W23.wr W30 (mI 0 rfl)
  have N31 := Fr.snoc X30 N25 H24
  have f32 := f29.same W30
  have f35 := ((H22.other W23 H34).other W30 H34)
  obtain ⟨cl33, Ar33, _, S33, _, H33, _⟩ := id f35
  have hin33 : ¬ ((0:Int32) < 0 ∨ cl33.slots.size ≤ ((0:Int32)).toNatClampNeg) := inb_of S33 ⟨by decide, by decide⟩
  have f36 := (f28.wr W30)
  have f37 := ((H4.other W23 (Or.inr (sn42 hw))).other W30 (Or.inr (sn3 hw)))
  have f38 := ((H6.other W23 (Or.inr (sn43 hw))).other W30 (Or.inr (sn5 hw)))
  have f39 := (f26.other W30 (Or.inr (sn7 hw)))
  refine fin (Q := r35_3Q Z a1 a3 a14 k18 a19 a20 a21 h0 n0) (rm := (rM 1 0 0 12)) Bd X30 e30 (some (.ref a19)) nofun ⟨rfl, N31, Kp_W30, f36, f37, f38, f39, f32⟩ (by decide) (by decide) fun fs hr => ?_
  show St p e below s₁ m 0 #[rv a1, un, un] [] _
  refine aN X0 hx hby d35_0 rfl rfl ?_
  refine st7.trans ?_
  refine aN X7 hx hby d35_4 rfl rfl ?_
  refine st9 _ ?_
  refine XS.istoreN X9.here hx rfl (hb hby d35_8) rfl (l' := #[rv a1, iv (0:Int32), un]) rfl ?_
  refine iN X9 hx hby d35_9 rfl ?_
  refine aN X9 hx hby d35_10 rfl rfl ?_
  refine st10 _ ?_
  refine st12 _ ?_
  refine XS.icmpYes X12.here hx rfl (pc0 := 17) (pc' := 28) rfl (hb hby d35_17) rfl (tlt (by decide : (0:Int32) < (3:Int32))).1 (by decide) (by decide) ?_
  refine aN X12 hx hby d35_28 rfl rfl ?_
  refine st13 _ ?_
  refine st16 _ ?_
  refine XS.astoreN X16.here hx rfl (hb hby d35_35) rfl rfl (l' := #[rv a1, iv (0:Int32), rv a14]) rfl ?_
  refine iN X16 hx hby d35_36 rfl ?_
  refine aN X16 hx hby d35_37 rfl rfl ?_
  refine X16.arraylength hx (by rw [e16]; exact Ar17.1) (State.isArrayOf_alike hZ.alike Ar17.2.1) (g := (mkF m 38 #[rv a1, iv (0:Int32), rv a14] [(.ref a14), (.int (0:Int32))])) rfl rfl (hb hby d35_38) _ ?_
  rw [len_of S17 M17]
  refine XS.icmpYes X16.here hx rfl (pc0 := 39) (pc' := 50) rfl (hb hby d35_39) rfl (tlt (by decide : (0:Int32) < (10:Int32))).1 (by decide) (by decide) ?_
  refine aN X16 hx hby d35_50 rfl rfl ?_
  refine iN X16 hx hby d35_51 rfl ?_
  refine iC X16 hx hby d35_52 ?_
  refine XS.iadd X16.here hx rfl (hb hby d35_53) rfl ?_
  refine st23 _ ?_
  refine aN X23 hx hby d35_57 rfl rfl ?_
  refine aN X23 hx hby d35_58 rfl rfl ?_
  show St p e below T23 m 59 #[rv a1, iv (0:Int32), rv a14] [(.ref a1), (.ref a14)] _
  refine iN X23 hx hby d35_59 rfl ?_
  refine XS.dupX1 X23.here hx rfl (hb hby d35_60) rfl rfl rfl ?_
  refine st30 _ ?_
  refine X30.aaload hx (j := (0:Int32)) (v := (.ref a19)) (by rw [e30]; exact Ar33.1) (State.isArrayOf_alike hZ.alike Ar33.2.1) rfl Ar33.2.2 hin33 (Has.at H33 hin33 rfl) (g := (mkF m 64 #[rv a1, iv (0:Int32), rv a14] [(.int (0:Int32)), (.ref a14)])) rfl rfl (hb hby d35_64) _ ?_
  exact retA X30 hx Bd.returns rfl rfl (hb hby d35_65) hr
def r14_6Q (Z : State) (a1 a4 : Addr) (h0 : Heap) (n0 : Nat) : QT := fun v h L => v = some (.int (1:Int32)) ∧ Fr n0 L ∧ h = h0
theorem r14_6 (hw : HW a0 Z) (a1 a4 : Addr) (O0 : Old Z n0 h0) (H2 : xF15 Z h0 a1 (.int (1:Int32))) (H5 : xF11 Z h0 a1 (.ref a4)) (H7 : xF3 Z h0 a4 (.int (3:Int32))) :
    MF l y14 cJ49_2 1 (some .boolean) [] (rM 0 0 0 0) Z #[(.ref a1)] h0 (r14_6Q Z a1 a4 h0 n0) := by
  refine own_in (pq pn7) #[rv a1] (fun _ => by first | (simp [entryFrame, mkF, argsToLocals, Value.category]; done) | rfl) ?_
  intro p e s m below meth c s₁ Bd hx hby hml hown hnm hZ e0 X0
  have N0 := Fr.nil n0
  obtain ⟨_, X3, e3, st3⟩ := gF X0 hx hZ hown (ow hw 126 rfl) e0 H2 (g := (mkF m 1 #[rv a1] [(.ref a1)])) rfl rfl (hb hby d14_1)
  obtain ⟨_, X6, e6, st6⟩ := gF X3 hx hZ hown (ow hw 108 rfl) e3 H5 (g := (mkF m 5 #[rv a1] [(.ref a1), (.int (1:Int32))])) rfl rfl (hb hby d14_5)
  obtain ⟨_, X8, e8, st8⟩ := getF X6 hx hZ hown (Or.inr (ow hw 128 rfl)) Via.refl e6 H7 (g := (mkF m 8 #[rv a1] [(.ref a4), (.int (1:Int32))])) rfl rfl (hb hby d14_8)
  refine fin (Q := r14_6Q Z a1 a4 h0 n0) (rm := (rM 0 0 0 0)) Bd X8 e8 (some (.int (1:Int32))) nofun ⟨rfl, N0, rfl⟩ (by decide) (by decide) fun fs hr => ?_
  show St p e below s₁ m 0 #[rv a1] [] _
  refine aN X0 hx hby d14_0 rfl rfl ?_
  refine st3 _ ?_
  refine aN X3 hx hby d14_4 rfl rfl ?_
  refine st6 _ ?_
  refine st8 _ ?_
  refine XS.icmpNo X8.here hx rfl (hb hby d14_11) rfl (feq (by decide : ¬ ((1:Int32) = (3:Int32)))).1 ?_
  refine iC X8 hx hby d14_14 ?_
  refine XS.goto X8.here hx rfl (pc0 := 15) (pc' := 19) rfl (hb hby d14_15) (by decide) (by decide) ?_
  exact retN X8 hx (t := .boolean) Bd.returns (by simp) (hb hby d14_19) hr
def r35_4Q (Z : State) (a1 a3 a14 : Addr) (k18 : ClassId) (a19 a20 a21 : Addr) (h0 : Heap) (n0 : Nat) : QT := fun v h L => v = some (.ref a20) ∧ Fr n0 L ∧ Keep h0 h [a1] ∧ xE12 Z h a1 ∧ xF11 Z h a1 (.ref a3) ∧ xF14 Z h a1 (.int (3:Int32)) ∧ xF15 Z h a1 (.int (2:Int32)) ∧ xF13 Z h a1 (.int (1:Int32))
theorem r35_4 (hw : HW a0 Z) (a1 a3 a14 : Addr) (k18 : ClassId) (a19 a20 a21 : Addr) (O0 : Old Z n0 h0) (H2 : xE12 Z h0 a1) (H4 : xF11 Z h0 a1 (.ref a3)) (H5 : xF0 Z h0 a3 (.int (3:Int32))) (H6 : xF14 Z h0 a1 (.int (3:Int32))) (H8 : xF15 Z h0 a1 (.int (1:Int32))) (H11 : xF3 Z h0 a3 (.int (3:Int32))) (H15 : xF2 Z h0 a3 (.ref a14)) (H22 : Arv Z h0 a14 k18 (.object "java/lang/Object") (10:Int32) [(.ref a19), (.ref a20), (.ref a21), .null, .null, .null, .null, .null, .null, .null] .null) (H24 : n0 ≤ a1) (H27 : xF13 Z h0 a1 (.int (0:Int32))) (H34 : a14 ≠ a1) :
    MF l y35 cJ49_3 3 (some (.object "java/lang/Object")) [] (rM 1 0 0 12) Z #[(.ref a1)] h0 (r35_4Q Z a1 a3 a14 k18 a19 a20 a21 h0 n0) := by
  refine own_in (pq pn7) #[rv a1, un, un] (fun _ => by first | (simp [entryFrame, mkF, argsToLocals, Value.category]; done) | rfl) ?_
  intro p e s m below meth c s₁ Bd hx hby hml hown hnm hZ e0 X0
  have N0 := Fr.nil n0
  obtain ⟨_, _, _, X7, hQ7, st7⟩ := cV X0 hx hZ hw hown (y := y36) 259 rfl 260 rfl 262 rfl 261 rfl 263 rfl 103 rfl (by decide) (W := 0) (r36_2 hw a1 a3 O0 H4 H5 H6) (by decide) (by decide) H2 e0 (g := (mkF m 1 #[rv a1, un, un] [(.ref a1)])) rfl (by rw [hml]; rfl) (argsL := []) (rest := []) (lenOf pd22 rfl) rfl wf (hb hby d35_1) rfl (by decide) (by decide)
  obtain ⟨rfl, N7q, e7⟩ := hQ7
  have N7 := Fr.app N0 N7q
  obtain ⟨_, X9, e9, st9⟩ := gF X7 hx hZ hown (ow hw 126 rfl) e7 H8 (g := (mkF m 5 #[rv a1, un, un] [(.ref a1)])) rfl rfl (hb hby d35_5)
  obtain ⟨_, X10, e10, st10⟩ := gF X9 hx hZ hown (ow hw 108 rfl) e9 H4 (g := (mkF m 11 #[rv a1, iv (1:Int32), un] [(.ref a1), (.int (1:Int32))])) rfl rfl (hb hby d35_11)
  obtain ⟨_, X12, e12, st12⟩ := getF X10 hx hZ hown (Or.inr (ow hw 128 rfl)) Via.refl e10 H11 (g := (mkF m 14 #[rv a1, iv (1:Int32), un] [(.ref a3), (.int (1:Int32))])) rfl rfl (hb hby d35_14)
  obtain ⟨_, X13, e13, st13⟩ := gF X12 hx hZ hown (ow hw 108 rfl) e12 H4 (g := (mkF m 29 #[rv a1, iv (1:Int32), un] [(.ref a1)])) rfl rfl (hb hby d35_29)
  obtain ⟨_, X16, e16, st16⟩ := gF X13 hx hZ hown (ow hw 264 rfl) e13 H15 (g := (mkF m 32 #[rv a1, iv (1:Int32), un] [(.ref a3)])) rfl rfl (hb hby d35_32)
  obtain ⟨_, Ar17, _, S17, M17, _, _⟩ := id H22
  obtain ⟨T23, h23, X23, e23, W23, st23⟩ := pF X16 hx hZ hown (ow hw 126 rfl) e16 H8 H2 (Or.inl (ow hw 127 rfl)) (ow hw 102 rfl) (ty := .int) (by decide) rfl rfl (g := (mkF m 54 #[rv a1, iv (1:Int32), rv a14] [(.int (2:Int32)), (.ref a1)])) rfl rfl (hb hby d35_54)
  have Kp_W23 : Keep h0 h23 [a1] := (Keep.refl h0 [a1]).wr W23 (mI 0 rfl)
  have N25 := Fr.snoc X23 N7 H24
  have f26 := H8.same W23
  have f28 := (H2.wr W23)
  have f29 := (H27.other W23 (Or.inr (sn41 hw)))
  obtain ⟨_, h30, X30, e30, W30, st30⟩ := pF X23 hx hZ hown (ow hw 111 rfl) e23 f29 f28 (Or.inl (ow hw 112 rfl)) (ow hw 102 rfl) (ty := .int) (by decide) rfl rfl (g := (mkF m 61 #[rv a1, iv (1:Int32), rv a14] [(.int (1:Int32)), (.ref a1), (.int (1:Int32)), (.ref a14)])) rfl rfl (hb hby d35_61)
  have Kp_W30 : Keep h0 h30 [a1] := Kp_W23.wr W30 (mI 0 rfl)
  have N31 := Fr.snoc X30 N25 H24
  have f32 := f29.same W30
  have f35 := ((H22.other W23 H34).other W30 H34)
  obtain ⟨cl33, Ar33, _, S33, _, H33, _⟩ := id f35
  have hin33 : ¬ ((1:Int32) < 0 ∨ cl33.slots.size ≤ ((1:Int32)).toNatClampNeg) := inb_of S33 ⟨by decide, by decide⟩
  have f36 := (f28.wr W30)
  have f37 := ((H4.other W23 (Or.inr (sn42 hw))).other W30 (Or.inr (sn3 hw)))
  have f38 := ((H6.other W23 (Or.inr (sn43 hw))).other W30 (Or.inr (sn5 hw)))
  have f39 := (f26.other W30 (Or.inr (sn7 hw)))
  refine fin (Q := r35_4Q Z a1 a3 a14 k18 a19 a20 a21 h0 n0) (rm := (rM 1 0 0 12)) Bd X30 e30 (some (.ref a20)) nofun ⟨rfl, N31, Kp_W30, f36, f37, f38, f39, f32⟩ (by decide) (by decide) fun fs hr => ?_
  show St p e below s₁ m 0 #[rv a1, un, un] [] _
  refine aN X0 hx hby d35_0 rfl rfl ?_
  refine st7.trans ?_
  refine aN X7 hx hby d35_4 rfl rfl ?_
  refine st9 _ ?_
  refine XS.istoreN X9.here hx rfl (hb hby d35_8) rfl (l' := #[rv a1, iv (1:Int32), un]) rfl ?_
  refine iN X9 hx hby d35_9 rfl ?_
  refine aN X9 hx hby d35_10 rfl rfl ?_
  refine st10 _ ?_
  refine st12 _ ?_
  refine XS.icmpYes X12.here hx rfl (pc0 := 17) (pc' := 28) rfl (hb hby d35_17) rfl (tlt (by decide : (1:Int32) < (3:Int32))).1 (by decide) (by decide) ?_
  refine aN X12 hx hby d35_28 rfl rfl ?_
  refine st13 _ ?_
  refine st16 _ ?_
  refine XS.astoreN X16.here hx rfl (hb hby d35_35) rfl rfl (l' := #[rv a1, iv (1:Int32), rv a14]) rfl ?_
  refine iN X16 hx hby d35_36 rfl ?_
  refine aN X16 hx hby d35_37 rfl rfl ?_
  refine X16.arraylength hx (by rw [e16]; exact Ar17.1) (State.isArrayOf_alike hZ.alike Ar17.2.1) (g := (mkF m 38 #[rv a1, iv (1:Int32), rv a14] [(.ref a14), (.int (1:Int32))])) rfl rfl (hb hby d35_38) _ ?_
  rw [len_of S17 M17]
  refine XS.icmpYes X16.here hx rfl (pc0 := 39) (pc' := 50) rfl (hb hby d35_39) rfl (tlt (by decide : (1:Int32) < (10:Int32))).1 (by decide) (by decide) ?_
  refine aN X16 hx hby d35_50 rfl rfl ?_
  refine iN X16 hx hby d35_51 rfl ?_
  refine iC X16 hx hby d35_52 ?_
  refine XS.iadd X16.here hx rfl (hb hby d35_53) rfl ?_
  refine st23 _ ?_
  refine aN X23 hx hby d35_57 rfl rfl ?_
  refine aN X23 hx hby d35_58 rfl rfl ?_
  show St p e below T23 m 59 #[rv a1, iv (1:Int32), rv a14] [(.ref a1), (.ref a14)] _
  refine iN X23 hx hby d35_59 rfl ?_
  refine XS.dupX1 X23.here hx rfl (hb hby d35_60) rfl rfl rfl ?_
  refine st30 _ ?_
  refine X30.aaload hx (j := (1:Int32)) (v := (.ref a20)) (by rw [e30]; exact Ar33.1) (State.isArrayOf_alike hZ.alike Ar33.2.1) rfl Ar33.2.2 hin33 (Has.at H33 hin33 rfl) (g := (mkF m 64 #[rv a1, iv (1:Int32), rv a14] [(.int (1:Int32)), (.ref a14)])) rfl rfl (hb hby d35_64) _ ?_
  exact retA X30 hx Bd.returns rfl rfl (hb hby d35_65) hr
def r14_7Q (Z : State) (a1 a4 : Addr) (h0 : Heap) (n0 : Nat) : QT := fun v h L => v = some (.int (1:Int32)) ∧ Fr n0 L ∧ h = h0
theorem r14_7 (hw : HW a0 Z) (a1 a4 : Addr) (O0 : Old Z n0 h0) (H2 : xF15 Z h0 a1 (.int (2:Int32))) (H5 : xF11 Z h0 a1 (.ref a4)) (H7 : xF3 Z h0 a4 (.int (3:Int32))) :
    MF l y14 cJ49_2 1 (some .boolean) [] (rM 0 0 0 0) Z #[(.ref a1)] h0 (r14_7Q Z a1 a4 h0 n0) := by
  refine own_in (pq pn7) #[rv a1] (fun _ => by first | (simp [entryFrame, mkF, argsToLocals, Value.category]; done) | rfl) ?_
  intro p e s m below meth c s₁ Bd hx hby hml hown hnm hZ e0 X0
  have N0 := Fr.nil n0
  obtain ⟨_, X3, e3, st3⟩ := gF X0 hx hZ hown (ow hw 126 rfl) e0 H2 (g := (mkF m 1 #[rv a1] [(.ref a1)])) rfl rfl (hb hby d14_1)
  obtain ⟨_, X6, e6, st6⟩ := gF X3 hx hZ hown (ow hw 108 rfl) e3 H5 (g := (mkF m 5 #[rv a1] [(.ref a1), (.int (2:Int32))])) rfl rfl (hb hby d14_5)
  obtain ⟨_, X8, e8, st8⟩ := getF X6 hx hZ hown (Or.inr (ow hw 128 rfl)) Via.refl e6 H7 (g := (mkF m 8 #[rv a1] [(.ref a4), (.int (2:Int32))])) rfl rfl (hb hby d14_8)
  refine fin (Q := r14_7Q Z a1 a4 h0 n0) (rm := (rM 0 0 0 0)) Bd X8 e8 (some (.int (1:Int32))) nofun ⟨rfl, N0, rfl⟩ (by decide) (by decide) fun fs hr => ?_
  show St p e below s₁ m 0 #[rv a1] [] _
  refine aN X0 hx hby d14_0 rfl rfl ?_
  refine st3 _ ?_
  refine aN X3 hx hby d14_4 rfl rfl ?_
  refine st6 _ ?_
  refine st8 _ ?_
  refine XS.icmpNo X8.here hx rfl (hb hby d14_11) rfl (feq (by decide : ¬ ((2:Int32) = (3:Int32)))).1 ?_
  refine iC X8 hx hby d14_14 ?_
  refine XS.goto X8.here hx rfl (pc0 := 15) (pc' := 19) rfl (hb hby d14_15) (by decide) (by decide) ?_
  exact retN X8 hx (t := .boolean) Bd.returns (by simp) (hb hby d14_19) hr
def r35_5Q (Z : State) (a1 a3 a14 : Addr) (k18 : ClassId) (a19 a20 a21 : Addr) (h0 : Heap) (n0 : Nat) : QT := fun v h L => v = some (.ref a21) ∧ Fr n0 L ∧ Keep h0 h [a1] ∧ xE12 Z h a1 ∧ xF11 Z h a1 (.ref a3) ∧ xF14 Z h a1 (.int (3:Int32)) ∧ xF15 Z h a1 (.int (3:Int32)) ∧ xF13 Z h a1 (.int (2:Int32))
theorem r35_5 (hw : HW a0 Z) (a1 a3 a14 : Addr) (k18 : ClassId) (a19 a20 a21 : Addr) (O0 : Old Z n0 h0) (H2 : xE12 Z h0 a1) (H4 : xF11 Z h0 a1 (.ref a3)) (H5 : xF0 Z h0 a3 (.int (3:Int32))) (H6 : xF14 Z h0 a1 (.int (3:Int32))) (H8 : xF15 Z h0 a1 (.int (2:Int32))) (H11 : xF3 Z h0 a3 (.int (3:Int32))) (H15 : xF2 Z h0 a3 (.ref a14)) (H22 : Arv Z h0 a14 k18 (.object "java/lang/Object") (10:Int32) [(.ref a19), (.ref a20), (.ref a21), .null, .null, .null, .null, .null, .null, .null] .null) (H24 : n0 ≤ a1) (H27 : xF13 Z h0 a1 (.int (1:Int32))) (H34 : a14 ≠ a1) :
    MF l y35 cJ49_3 3 (some (.object "java/lang/Object")) [] (rM 1 0 0 12) Z #[(.ref a1)] h0 (r35_5Q Z a1 a3 a14 k18 a19 a20 a21 h0 n0) := by
  refine own_in (pq pn7) #[rv a1, un, un] (fun _ => by first | (simp [entryFrame, mkF, argsToLocals, Value.category]; done) | rfl) ?_
  intro p e s m below meth c s₁ Bd hx hby hml hown hnm hZ e0 X0
  have N0 := Fr.nil n0
  obtain ⟨_, _, _, X7, hQ7, st7⟩ := cV X0 hx hZ hw hown (y := y36) 259 rfl 260 rfl 262 rfl 261 rfl 263 rfl 103 rfl (by decide) (W := 0) (r36_2 hw a1 a3 O0 H4 H5 H6) (by decide) (by decide) H2 e0 (g := (mkF m 1 #[rv a1, un, un] [(.ref a1)])) rfl (by rw [hml]; rfl) (argsL := []) (rest := []) (lenOf pd22 rfl) rfl wf (hb hby d35_1) rfl (by decide) (by decide)
  obtain ⟨rfl, N7q, e7⟩ := hQ7
  have N7 := Fr.app N0 N7q
  obtain ⟨_, X9, e9, st9⟩ := gF X7 hx hZ hown (ow hw 126 rfl) e7 H8 (g := (mkF m 5 #[rv a1, un, un] [(.ref a1)])) rfl rfl (hb hby d35_5)
  obtain ⟨_, X10, e10, st10⟩ := gF X9 hx hZ hown (ow hw 108 rfl) e9 H4 (g := (mkF m 11 #[rv a1, iv (2:Int32), un] [(.ref a1), (.int (2:Int32))])) rfl rfl (hb hby d35_11)
  obtain ⟨_, X12, e12, st12⟩ := getF X10 hx hZ hown (Or.inr (ow hw 128 rfl)) Via.refl e10 H11 (g := (mkF m 14 #[rv a1, iv (2:Int32), un] [(.ref a3), (.int (2:Int32))])) rfl rfl (hb hby d35_14)
  obtain ⟨_, X13, e13, st13⟩ := gF X12 hx hZ hown (ow hw 108 rfl) e12 H4 (g := (mkF m 29 #[rv a1, iv (2:Int32), un] [(.ref a1)])) rfl rfl (hb hby d35_29)
  obtain ⟨_, X16, e16, st16⟩ := gF X13 hx hZ hown (ow hw 264 rfl) e13 H15 (g := (mkF m 32 #[rv a1, iv (2:Int32), un] [(.ref a3)])) rfl rfl (hb hby d35_32)
  obtain ⟨_, Ar17, _, S17, M17, _, _⟩ := id H22
  obtain ⟨T23, h23, X23, e23, W23, st23⟩ := pF X16 hx hZ hown (ow hw 126 rfl) e16 H8 H2 (Or.inl (ow hw 127 rfl)) (ow hw 102 rfl) (ty := .int) (by decide) rfl rfl (g := (mkF m 54 #[rv a1, iv (2:Int32), rv a14] [(.int (3:Int32)), (.ref a1)])) rfl rfl (hb hby d35_54)
  have Kp_W23 : Keep h0 h23 [a1] := (Keep.refl h0 [a1]).wr W23 (mI 0 rfl)
  have N25 := Fr.snoc X23 N7 H24
  have f26 := H8.same W23
  have f28 := (H2.wr W23)
  have f29 := (H27.other W23 (Or.inr (sn41 hw)))
  obtain ⟨_, h30, X30, e30, W30, st30⟩ := pF X23 hx hZ hown (ow hw 111 rfl) e23 f29 f28 (Or.inl (ow hw 112 rfl)) (ow hw 102 rfl) (ty := .int) (by decide) rfl rfl (g := (mkF m 61 #[rv a1, iv (2:Int32), rv a14] [(.int (2:Int32)), (.ref a1), (.int (2:Int32)), (.ref a14)])) rfl rfl (hb hby d35_61)
  have Kp_W30 : Keep h0 h30 [a1] := Kp_W23.wr W30 (mI 0 rfl)
  have N31 := Fr.snoc X30 N25 H24
  have f32 := f29.same W30
  have f35 := ((H22.other W23 H34).other W30 H34)
  obtain ⟨cl33, Ar33, _, S33, _, H33, _⟩ := id f35
  have hin33 : ¬ ((2:Int32) < 0 ∨ cl33.slots.size ≤ ((2:Int32)).toNatClampNeg) := inb_of S33 ⟨by decide, by decide⟩
  have f36 := (f28.wr W30)
  have f37 := ((H4.other W23 (Or.inr (sn42 hw))).other W30 (Or.inr (sn3 hw)))
  have f38 := ((H6.other W23 (Or.inr (sn43 hw))).other W30 (Or.inr (sn5 hw)))
  have f39 := (f26.other W30 (Or.inr (sn7 hw)))
  refine fin (Q := r35_5Q Z a1 a3 a14 k18 a19 a20 a21 h0 n0) (rm := (rM 1 0 0 12)) Bd X30 e30 (some (.ref a21)) nofun ⟨rfl, N31, Kp_W30, f36, f37, f38, f39, f32⟩ (by decide) (by decide) fun fs hr => ?_
  show St p e below s₁ m 0 #[rv a1, un, un] [] _
  refine aN X0 hx hby d35_0 rfl rfl ?_
  refine st7.trans ?_
  refine aN X7 hx hby d35_4 rfl rfl ?_
  refine st9 _ ?_
  refine XS.istoreN X9.here hx rfl (hb hby d35_8) rfl (l' := #[rv a1, iv (2:Int32), un]) rfl ?_
  refine iN X9 hx hby d35_9 rfl ?_
  refine aN X9 hx hby d35_10 rfl rfl ?_
  refine st10 _ ?_
  refine st12 _ ?_
  refine XS.icmpYes X12.here hx rfl (pc0 := 17) (pc' := 28) rfl (hb hby d35_17) rfl (tlt (by decide : (2:Int32) < (3:Int32))).1 (by decide) (by decide) ?_
  refine aN X12 hx hby d35_28 rfl rfl ?_
  refine st13 _ ?_
  refine st16 _ ?_
  refine XS.astoreN X16.here hx rfl (hb hby d35_35) rfl rfl (l' := #[rv a1, iv (2:Int32), rv a14]) rfl ?_
  refine iN X16 hx hby d35_36 rfl ?_
  refine aN X16 hx hby d35_37 rfl rfl ?_
  refine X16.arraylength hx (by rw [e16]; exact Ar17.1) (State.isArrayOf_alike hZ.alike Ar17.2.1) (g := (mkF m 38 #[rv a1, iv (2:Int32), rv a14] [(.ref a14), (.int (2:Int32))])) rfl rfl (hb hby d35_38) _ ?_
  rw [len_of S17 M17]
  refine XS.icmpYes X16.here hx rfl (pc0 := 39) (pc' := 50) rfl (hb hby d35_39) rfl (tlt (by decide : (2:Int32) < (10:Int32))).1 (by decide) (by decide) ?_
  refine aN X16 hx hby d35_50 rfl rfl ?_
  refine iN X16 hx hby d35_51 rfl ?_
  refine iC X16 hx hby d35_52 ?_
  refine XS.iadd X16.here hx rfl (hb hby d35_53) rfl ?_
  refine st23 _ ?_
  refine aN X23 hx hby d35_57 rfl rfl ?_
  refine aN X23 hx hby d35_58 rfl rfl ?_
  show St p e below T23 m 59 #[rv a1, iv (2:Int32), rv a14] [(.ref a1), (.ref a14)] _
  refine iN X23 hx hby d35_59 rfl ?_
  refine XS.dupX1 X23.here hx rfl (hb hby d35_60) rfl rfl rfl ?_
  refine st30 _ ?_
  refine X30.aaload hx (j := (2:Int32)) (v := (.ref a21)) (by rw [e30]; exact Ar33.1) (State.isArrayOf_alike hZ.alike Ar33.2.1) rfl Ar33.2.2 hin33 (Has.at H33 hin33 rfl) (g := (mkF m 64 #[rv a1, iv (2:Int32), rv a14] [(.int (2:Int32)), (.ref a14)])) rfl rfl (hb hby d35_64) _ ?_
  exact retA X30 hx Bd.returns rfl rfl (hb hby d35_65) hr
def r14_8Q (Z : State) (a1 a4 : Addr) (h0 : Heap) (n0 : Nat) : QT := fun v h L => v = some (.int (0:Int32)) ∧ Fr n0 L ∧ h = h0
theorem r14_8 (hw : HW a0 Z) (a1 a4 : Addr) (O0 : Old Z n0 h0) (H2 : xF15 Z h0 a1 (.int (3:Int32))) (H5 : xF11 Z h0 a1 (.ref a4)) (H7 : xF3 Z h0 a4 (.int (3:Int32))) :
    MF l y14 cJ49_2 1 (some .boolean) [] (rM 0 0 0 0) Z #[(.ref a1)] h0 (r14_8Q Z a1 a4 h0 n0) := by
  refine own_in (pq pn7) #[rv a1] (fun _ => by first | (simp [entryFrame, mkF, argsToLocals, Value.category]; done) | rfl) ?_
  intro p e s m below meth c s₁ Bd hx hby hml hown hnm hZ e0 X0
  have N0 := Fr.nil n0
  obtain ⟨_, X3, e3, st3⟩ := gF X0 hx hZ hown (ow hw 126 rfl) e0 H2 (g := (mkF m 1 #[rv a1] [(.ref a1)])) rfl rfl (hb hby d14_1)
  obtain ⟨_, X6, e6, st6⟩ := gF X3 hx hZ hown (ow hw 108 rfl) e3 H5 (g := (mkF m 5 #[rv a1] [(.ref a1), (.int (3:Int32))])) rfl rfl (hb hby d14_5)
  obtain ⟨_, X8, e8, st8⟩ := getF X6 hx hZ hown (Or.inr (ow hw 128 rfl)) Via.refl e6 H7 (g := (mkF m 8 #[rv a1] [(.ref a4), (.int (3:Int32))])) rfl rfl (hb hby d14_8)
  refine fin (Q := r14_8Q Z a1 a4 h0 n0) (rm := (rM 0 0 0 0)) Bd X8 e8 (some (.int (0:Int32))) nofun ⟨rfl, N0, rfl⟩ (by decide) (by decide) fun fs hr => ?_
  show St p e below s₁ m 0 #[rv a1] [] _
  refine aN X0 hx hby d14_0 rfl rfl ?_
  refine st3 _ ?_
  refine aN X3 hx hby d14_4 rfl rfl ?_
  refine st6 _ ?_
  refine st8 _ ?_
  refine XS.icmpYes X8.here hx rfl (pc0 := 11) (pc' := 18) rfl (hb hby d14_11) rfl (teq (rfl : (3:Int32) = (3:Int32))).1 (by decide) (by decide) ?_
  refine iC X8 hx hby d14_18 ?_
  exact retN X8 hx (t := .boolean) Bd.returns (by simp) (hb hby d14_19) hr
def r5_4Q (Z : State) (a1 : Addr) (p2:Int32) (a3 : Addr) (p4:Int32) (a5 a42 a47 : Addr) (k49 : ClassId) (a50 a51 a52 : Addr) (h0 : Heap) (n0 : Nat) : QT := fun v h L => ∃ (b62_0 b62_1 : Addr) (k62_0 : ClassId), v = none ∧ Fr n0 L ∧ Keep h0 h [a1] ∧ h0.size ≤ b62_0 ∧ h0.size ≤ b62_1 ∧ b62_0 ≠ b62_1 ∧ xE5 Z h a1 ∧ xF6 Z h a1 (.ref a3) ∧ xF10 Z h a1 (.ref b62_0) ∧ xF16 Z h a1 (.int (0:Int32)) ∧ xE17 Z h b62_0 ∧ xF18 Z h b62_0 (.ref b62_1) ∧ xF24 Z h b62_0 (.int (0:Int32)) ∧ Arv Z h b62_1 k62_0 (.object "java/lang/Object") (3:Int32) [(.ref a50), (.ref a51), (.ref a52)] .null ∧ xE19 Z h b62_1 ∧ Ovr Z k62_0 "java/lang/Object"
theorem r5_4 (hw : HW a0 Z) (a1 : Addr) (p2:Int32) (a3 : Addr) (p4:Int32) (a5 a42 a47 : Addr) (k49 : ClassId) (a50 a51 a52 : Addr) (O0 : Old Z n0 h0) (H7 : xF4 Z h0 a1 (.int (0:Int32))) (H8 : xE5 Z h0 a1) (H10 : n0 ≤ a1) (H13 : xF6 Z h0 a1 .null) (H19 : xF7 Z h0 a1 .null) (H25 : xF8 Z h0 a1 .null) (H31 : xF9 Z h0 a1 (.int (0:Int32))) (H37 : xE1 Z h0 a5) (H39 : xF3 Z h0 a5 (.int (3:Int32))) (H40 : a5 ≠ a1) (H43 : xF2 Z h0 a5 (.ref a42)) (H45 : xE19 Z h0 a42) (H48 : Mi Z "[Ljava/lang/Object;" a47) (H53 : Arv Z h0 a42 k49 (.object "java/lang/Object") (10:Int32) [(.ref a50), (.ref a51), (.ref a52), .null, .null, .null, .null, .null, .null, .null] .null) (H54 : a42 ≠ a1) (H56 : xE5 Z h0 a50) (H58 : xE5 Z h0 a51) (H60 : xE5 Z h0 a52) (H63 : xF10 Z h0 a1 .null) (H70 : xF0 Z h0 a5 (.int (3:Int32))) (H84 : xF16 Z h0 a50 (.int (0:Int32))) (H85 : a50 ≠ a1) (H98 : xF16 Z h0 a51 (.int (0:Int32))) (H99 : a51 ≠ a1) (H111 : xF16 Z h0 a52 (.int (0:Int32))) (H112 : a52 ≠ a1) (H118 : xF16 Z h0 a1 (.int (0:Int32))) :
    MF l y5 cP16_1 10 none [] (rM 9 4 12 116) Z #[(.ref a1), (.int p2), (.ref a3), .null, .null, (.int p4), (.ref a5)] h0 (r5_4Q Z a1 p2 a3 p4 a5 a42 a47 k49 a50 a51 a52 h0 n0) := by
  refine own_in (pq pn9) #[rv a1, iv p2, rv a3, .val .null, .val .null, iv p4, rv a5, un, un, un] (fun _ => by first | (simp [entryFrame, mkF, argsToLocals, Value.category]; done) | rfl) ?_
  intro p e s m below meth c s₁ Bd hx hby hml hown hnm hZ e0 X0
  have N0 := Fr.nil n0
  obtain ⟨_, X6, e6, st6⟩ := initO X0 hx hZ hown (ow hw 50 rfl) (ow hw 27 rfl) (ow hw 28 rfl) e0 (g := (mkF m 1 #[rv a1, iv p2, rv a3, .val .null, .val .null, iv p4, rv a5, un, un, un] [(.ref a1)])) rfl (by rw [hml]; rfl) rfl (hb hby d5_1) (by decide) (W := 0) wf (by decide)
  obtain ⟨_, h9, X9, e9, W9, st9⟩ := pF X6 hx hZ hown (ow hw 51 rfl) e6 H7 H8 (Or.inr ⟨(ow hw 52 rfl), rfl, hnm⟩) (ow hw 35 rfl) (ty := .int) (by decide) rfl rfl (g := (mkF m 6 #[rv a1, iv p2, rv a3, .val .null, .val .null, iv p4, rv a5, un, un, un] [(.int p2), (.ref a1)])) rfl rfl (hb hby d5_6)
  have O_W9 : Old Z n0 h9 := O0.wr W9 H10
  have Kp_W9 : Keep h0 h9 [a1] := (Keep.refl h0 [a1]).wr W9 (mI 0 rfl)
  have N11 := Fr.snoc X9 N0 H10
  have f14 := (H8.wr W9)
  have f15 := (H13.other W9 (Or.inr (sn11 hw)))
  obtain ⟨_, h16, X16, e16, W16, st16⟩ := pF X9 hx hZ hown (ow hw 53 rfl) e9 f15 f14 (Or.inr ⟨(ow hw 54 rfl), rfl, hnm⟩) (ow hw 35 rfl) (ty := (.object "tabula/engine/Concept$Kind")) (by decide) rfl rfl (g := (mkF m 11 #[rv a1, iv p2, rv a3, .val .null, .val .null, iv p4, rv a5, un, un, un] [(.ref a3), (.ref a1)])) rfl rfl (hb hby d5_11)
  have O_W16 : Old Z n0 h16 := O_W9.wr W16 H10
  have Kp_W16 : Keep h0 h16 [a1] := Kp_W9.wr W16 (mI 0 rfl)
  have N17 := Fr.snoc X16 N11 H10
  have f18 := f15.same W16
  have f20 := (f14.wr W16)
  have f21 := ((H19.other W9 (Or.inr (sn12 hw))).other W16 (Or.inr (sn13 hw)))
  obtain ⟨_, h22, X22, e22, W22, st22⟩ := pF X16 hx hZ hown (ow hw 55 rfl) e16 f21 f20 (Or.inr ⟨(ow hw 56 rfl), rfl, hnm⟩) (ow hw 35 rfl) (ty := (.object "java/lang/String")) (by decide) rfl rfl (g := (mkF m 16 #[rv a1, iv p2, rv a3, .val .null, .val .null, iv p4, rv a5, un, un, un] [.null, (.ref a1)])) rfl rfl (hb hby d5_16)
  have O_W22 : Old Z n0 h22 := O_W16.wr W22 H10
  have Kp_W22 : Keep h0 h22 [a1] := Kp_W16.wr W22 (mI 0 rfl)
  have N23 := Fr.snoc X22 N17 H10
  have f26 := (f20.wr W22)
  have f27 := (((H25.other W9 (Or.inr (sn14 hw))).other W16 (Or.inr (sn15 hw))).other W22 (Or.inr (sn16 hw)))
  obtain ⟨_, h28, X28, e28, W28, st28⟩ := pF X22 hx hZ hown (ow hw 57 rfl) e22 f27 f26 (Or.inr ⟨(ow hw 58 rfl), rfl, hnm⟩) (ow hw 35 rfl) (ty := (.object "tabula/engine/Role")) (by decide) rfl rfl (g := (mkF m 22 #[rv a1, iv p2, rv a3, .val .null, .val .null, iv p4, rv a5, un, un, un] [.null, (.ref a1)])) rfl rfl (hb hby d5_22)
  have O_W28 : Old Z n0 h28 := O_W22.wr W28 H10
  have Kp_W28 : Keep h0 h28 [a1] := Kp_W22.wr W28 (mI 0 rfl)
  have N29 := Fr.snoc X28 N23 H10
  have f32 := (f26.wr W28)
  have f33 := ((((H31.other W9 (Or.inr (sn17 hw))).other W16 (Or.inr (sn18 hw))).other W22 (Or.inr (sn19 hw))).other W28 (Or.inr (sn20 hw)))
  obtain ⟨_, h34, X34, e34, W34, st34⟩ := pF X28 hx hZ hown (ow hw 59 rfl) e28 f33 f32 (Or.inr ⟨(ow hw 60 rfl), rfl, hnm⟩) (ow hw 35 rfl) (ty := .int) (by decide) rfl rfl (g := (mkF m 28 #[rv a1, iv p2, rv a3, .val .null, .val .null, iv p4, rv a5, un, un, un] [(.int p4), (.ref a1)])) rfl rfl (hb hby d5_28)
  have O_W34 : Old Z n0 h34 := O_W28.wr W34 H10
  have Kp_W34 : Keep h0 h34 [a1] := Kp_W28.wr W34 (mI 0 rfl)
  have N35 := Fr.snoc X34 N29 H10
  have f38 := (((((H37.wr W9).wr W16).wr W22).wr W28).wr W34)
  have f41 := (((((H39.other W9 (Or.inl H40)).other W16 (Or.inl H40)).other W22 (Or.inl H40)).other W28 (Or.inl H40)).other W34 (Or.inl H40))
  have f44 := (((((H43.other W9 (Or.inl H40)).other W16 (Or.inl H40)).other W22 (Or.inl H40)).other W28 (Or.inl H40)).other W34 (Or.inl H40))
  have f46 := (((((H45.wr W9).wr W16).wr W22).wr W28).wr W34)
  have f55 := (((((H53.other W9 H54).other W16 H54).other W22 H54).other W28 H54).other W34 H54)
  have f57 := (((((H56.wr W9).wr W16).wr W22).wr W28).wr W34)
  have f59 := (((((H58.wr W9).wr W16).wr W22).wr W28).wr W34)
  have f61 := (((((H60.wr W9).wr W16).wr W22).wr W28).wr W34)
  obtain ⟨T62, _, _, X62, hQ62, st62⟩ := cS X34 hx hZ hw hown (y := y6) 61 rfl 62 rfl 63 rfl 64 rfl (by decide) (W := 1) (r6_3 hw a5 a42 a47 k49 a50 a51 a52 O_W34 f38 f41 f44 f46 H48 f55 f57 f59 f61) (by decide) (by decide) e34 (g := (mkF m 34 #[rv a1, iv p2, rv a3, .val .null, .val .null, iv p4, rv a5, un, un, un] [(.ref a5), (.ref a1)])) rfl (by rw [hml]; rfl) (argsL := [(.ref a5)]) (rest := [(.ref a1)]) (lenOf pd5 rfl) rfl wf (hb hby d5_34) rfl (by decide) (by decide)
  obtain ⟨b62_0, b62_1, k62_0, rfl, N62q, K62, lo62_1, lo62_2, nq62_3, f62_4, f62_5, f62_6, f62_7, f62_8, f62_9⟩ := hQ62
  have N62 := Fr.app N35 N62q
  have O_K62 : Old Z n0 T62.heap := O_W34.keep K62 all0
  have Kp_K62 : Keep h0 T62.heap [a1] := Kp_W34.trans K62 all0
  have f64 := ((f32.wr W34).keep K62)
  have f65 := ((((((H63.other W9 (Or.inr (sn21 hw))).other W16 (Or.inr (sn22 hw))).other W22 (Or.inr (sn23 hw))).other W28 (Or.inr (sn24 hw))).other W34 (Or.inr (sn25 hw))).keep K62 nin0)
  obtain ⟨T66, h66, X66, e66, W66, st66⟩ := pF X62 hx hZ hown (ow hw 90 rfl) rfl f65 f64 (Or.inr ⟨(ow hw 91 rfl), rfl, hnm⟩) (ow hw 35 rfl) (ty := (.object "java/util/List")) (by decide) rfl rfl (g := (mkF m 37 #[rv a1, iv p2, rv a3, .val .null, .val .null, iv p4, rv a5, un, un, un] [(.ref b62_0), (.ref a1)])) rfl rfl (hb hby d5_37)
  have O_W66 : Old Z n0 h66 := O_K62.wr W66 H10
  have Kp_W66 : Keep h0 h66 [a1] := Kp_K62.wr W66 (mI 0 rfl)
  have N67 := Fr.snoc X66 N62 H10
  have f68 := f65.same W66
  have f69 := ((f38.keep K62).wr W66)
  have f71 := (((((((H70.other W9 (Or.inl H40)).other W16 (Or.inl H40)).other W22 (Or.inl H40)).other W28 (Or.inl H40)).other W34 (Or.inl H40)).keep K62 nin0).other W66 (Or.inl H40))
  obtain ⟨T72, _, _, X72, hQ72, st72⟩ := cI X66 hx hZ hw hown (x := y13) (y := y11) 92 rfl 93 rfl 94 rfl 95 rfl 96 rfl 97 rfl 98 rfl 99 rfl 100 rfl 10 rfl (by decide) (W := 0) (r11_3 hw a5 O_W66 f71 f69) (by decide) (by decide) f69 e66 (g := (mkF m 62 #[rv a1, iv p2, rv a3, .val .null, .val .null, iv p4, rv a5, iv (0:Int32), un, un] [(.ref a5)])) rfl (by rw [hml]; rfl) (argsL := []) (rest := []) (lenOf pd13 rfl) rfl wf (hb hby d5_62) rfl (by decide) (by decide)
  obtain ⟨b72_0, rfl, N72q, K72, lo72_1, f72_2, f72_3, f72_4, f72_5, f72_6⟩ := hQ72
  have N72 := Fr.app N67 N72q
  have O_K72 : Old Z n0 T72.heap := O_W66.keep K72 all0
  have Kp_K72 : Keep h0 T72.heap [a1] := Kp_W66.trans K72 all0
  have f73 := (((f41.keep K62 nin0).other W66 (Or.inl H40)).keep K72 nin0)
  obtain ⟨_, _, _, X74, hQ74, st74⟩ := cI X72 hx hZ hw hown (x := y15) (y := y14) 117 rfl 118 rfl 119 rfl 120 rfl 121 rfl 122 rfl 123 rfl 124 rfl 125 rfl 103 rfl (by decide) (W := 0) (r14_5 hw b72_0 a5 O_K72 f72_6 f72_3 f73) (by decide) (by decide) f72_2 rfl (g := (mkF m 71 #[rv a1, iv p2, rv a3, .val .null, .val .null, iv p4, rv a5, iv (0:Int32), rv b72_0, un] [(.ref b72_0)])) rfl (by rw [hml]; rfl) (argsL := []) (rest := []) (lenOf pd23 rfl) rfl wf (hb hby d5_71) rfl (by decide) (by decide)
  obtain ⟨rfl, N74q, e74⟩ := hQ74
  have N74 := Fr.app N72 N74q
  have f75 := (f71.keep K72 nin0)
  have f76 := (((f44.keep K62 nin0).other W66 (Or.inl H40)).keep K72 nin0)
  have f77 := (((f55.keep K62 nin0).other W66 H54).keep K72 nin0)
  have g78 : n0 ≤ b72_0 := Nat.le_trans (Nat.le_trans (Nat.le_of_eq O_W66.1.symm) O_W66.2.1) lo72_1
  have ne79 : a42 ≠ b72_0 := Nat.ne_of_lt (Nat.lt_of_lt_of_le ((f46.keep K62).wr W66).lt lo72_1)
  obtain ⟨T80, _, _, X80, hQ80, st80⟩ := cI X74 hx hZ hw hown (x := y37) (y := y35) 251 rfl 252 rfl 253 rfl 254 rfl 255 rfl 256 rfl 257 rfl 124 rfl 258 rfl 103 rfl (by decide) (W := 0) (r35_3 hw b72_0 a5 a42 k49 a50 a51 a52 O_K72 f72_2 f72_3 f75 f72_5 f72_6 f73 f76 f77 g78 f72_4 ne79) (by decide) (by decide) f72_2 e74 (g := (mkF m 81 #[rv a1, iv p2, rv a3, .val .null, .val .null, iv p4, rv a5, iv (0:Int32), rv b72_0, un] [(.ref b72_0)])) rfl (by rw [hml]; rfl) (argsL := []) (rest := []) (lenOf pd19 rfl) rfl wf (hb hby d5_81) rfl (by decide) (by decide)
  obtain ⟨rfl, N80q, K80, f80_1, f80_2, f80_3, f80_4, f80_5⟩ := hQ80
  have N80 := Fr.app N74 N80q
  have z81 : h0.size ≤ b72_0 := Nat.le_trans Kp_W66.1 lo72_1
  have O_K80 : Old Z n0 T80.heap := O_K72.keep K80 (allS g78 all0)
  have Kp_K80 : Keep h0 T80.heap [a1] := Kp_K72.trans K80 (allS (Or.inr z81) all0)
  have f83 := ((((f57.keep K62).wr W66).keep K72).keep K80)
  obtain ⟨_, X82, e82, st82⟩ := castY X80 hx hZ hown (ow hw 265 rfl) rfl (Ins.self f83) (g := (mkF m 86 #[rv a1, iv p2, rv a3, .val .null, .val .null, iv p4, rv a5, iv (0:Int32), rv b72_0, un] [(.ref a50)])) rfl rfl (hb hby d5_86)
  have ne86 : a50 ≠ b72_0 := Nat.ne_of_lt (Nat.lt_of_lt_of_le (((((((H56.wr W9).wr W16).wr W22).wr W28).wr W34).keep K62).wr W66).lt lo72_1)
  have f87 := (((((((((H84.other W9 (Or.inl H85)).other W16 (Or.inl H85)).other W22 (Or.inl H85)).other W28 (Or.inl H85)).other W34 (Or.inl H85)).keep K62 nin0).other W66 (Or.inl H85)).keep K72 nin0).keep K80 (ninS ne86 nin0))
  obtain ⟨_, X88, e88, st88⟩ := gF X82 hx hZ hown (ow hw 129 rfl) e82 f87 (g := (mkF m 95 #[rv a1, iv p2, rv a3, .val .null, .val .null, iv p4, rv a5, iv (0:Int32), rv b72_0, rv a50] [(.ref a50), (.int (0:Int32))])) rfl rfl (hb hby d5_95)
  have ne89 : a5 ≠ b72_0 := Nat.ne_of_lt (Nat.lt_of_lt_of_le f69.lt lo72_1)
  have f90 := (f73.keep K80 (ninS ne89 nin0))
  obtain ⟨_, _, _, X91, hQ91, st91⟩ := cI X88 hx hZ hw hown (x := y15) (y := y14) 117 rfl 118 rfl 119 rfl 120 rfl 121 rfl 122 rfl 123 rfl 124 rfl 125 rfl 103 rfl (by decide) (W := 0) (r14_6 hw b72_0 a5 O_K80 f80_4 f80_2 f90) (by decide) (by decide) f80_1 e88 (g := (mkF m 71 #[rv a1, iv p2, rv a3, .val .null, .val .null, iv p4, rv a5, iv (0:Int32), rv b72_0, rv a50] [(.ref b72_0)])) rfl (by rw [hml]; rfl) (argsL := []) (rest := []) (lenOf pd23 rfl) rfl wf (hb hby d5_71) rfl (by decide) (by decide)
  obtain ⟨rfl, N91q, e91⟩ := hQ91
  have N91 := Fr.app N80 N91q
  have f92 := (f75.keep K80 (ninS ne89 nin0))
  have f93 := (f76.keep K80 (ninS ne89 nin0))
  have f94 := (f77.keep K80 (ninS ne79 nin0))
  obtain ⟨T95, _, _, X95, hQ95, st95⟩ := cI X91 hx hZ hw hown (x := y37) (y := y35) 251 rfl 252 rfl 253 rfl 254 rfl 255 rfl 256 rfl 257 rfl 124 rfl 258 rfl 103 rfl (by decide) (W := 0) (r35_4 hw b72_0 a5 a42 k49 a50 a51 a52 O_K80 f80_1 f80_2 f92 f80_3 f80_4 f90 f93 f94 g78 f80_5 ne79) (by decide) (by decide) f80_1 e91 (g := (mkF m 81 #[rv a1, iv p2, rv a3, .val .null, .val .null, iv p4, rv a5, iv (0:Int32), rv b72_0, rv a50] [(.ref b72_0)])) rfl (by rw [hml]; rfl) (argsL := []) (rest := []) (lenOf pd19 rfl) rfl wf (hb hby d5_81) rfl (by decide) (by decide)
  obtain ⟨rfl, N95q, K95, f95_1, f95_2, f95_3, f95_4, f95_5⟩ := hQ95
  have N95 := Fr.app N91 N95q
  have O_K95 : Old Z n0 T95.heap := O_K80.keep K95 (allS g78 all0)
  have Kp_K95 : Keep h0 T95.heap [a1] := Kp_K80.trans K95 (allS (Or.inr z81) all0)
  have f97 := (((((f59.keep K62).wr W66).keep K72).keep K80).keep K95)
  obtain ⟨T96, X96, e96, st96⟩ := castY X95 hx hZ hown (ow hw 265 rfl) rfl (Ins.self f97) (g := (mkF m 86 #[rv a1, iv p2, rv a3, .val .null, .val .null, iv p4, rv a5, iv (0:Int32), rv b72_0, rv a50] [(.ref a51)])) rfl rfl (hb hby d5_86)
  have ne100 : a51 ≠ b72_0 := Nat.ne_of_lt (Nat.lt_of_lt_of_le (((((((H58.wr W9).wr W16).wr W22).wr W28).wr W34).keep K62).wr W66).lt lo72_1)
  have f101 := ((((((((((H98.other W9 (Or.inl H99)).other W16 (Or.inl H99)).other W22 (Or.inl H99)).other W28 (Or.inl H99)).other W34 (Or.inl H99)).keep K62 nin0).other W66 (Or.inl H99)).keep K72 nin0).keep K80 (ninS ne100 nin0)).keep K95 (ninS ne100 nin0))
  obtain ⟨_, X102, e102, st102⟩ := gF X96 hx hZ hown (ow hw 129 rfl) e96 f101 (g := (mkF m 95 #[rv a1, iv p2, rv a3, .val .null, .val .null, iv p4, rv a5, iv (0:Int32), rv b72_0, rv a51] [(.ref a51), (.int (0:Int32))])) rfl rfl (hb hby d5_95)
  have f103 := (f90.keep K95 (ninS ne89 nin0))
  obtain ⟨_, _, _, X104, hQ104, st104⟩ := cI X102 hx hZ hw hown (x := y15) (y := y14) 117 rfl 118 rfl 119 rfl 120 rfl 121 rfl 122 rfl 123 rfl 124 rfl 125 rfl 103 rfl (by decide) (W := 0) (r14_7 hw b72_0 a5 O_K95 f95_4 f95_2 f103) (by decide) (by decide) f95_1 e102 (g := (mkF m 71 #[rv a1, iv p2, rv a3, .val .null, .val .null, iv p4, rv a5, iv (0:Int32), rv b72_0, rv a51] [(.ref b72_0)])) rfl (by rw [hml]; rfl) (argsL := []) (rest := []) (lenOf pd23 rfl) rfl wf (hb hby d5_71) rfl (by decide) (by decide)
  obtain ⟨rfl, N104q, e104⟩ := hQ104
  have N104 := Fr.app N95 N104q
  have f105 := (f92.keep K95 (ninS ne89 nin0))
  have f106 := (f93.keep K95 (ninS ne89 nin0))
  have f107 := (f94.keep K95 (ninS ne79 nin0))
  obtain ⟨T108, _, _, X108, hQ108, st108⟩ := cI X104 hx hZ hw hown (x := y37) (y := y35) 251 rfl 252 rfl 253 rfl 254 rfl 255 rfl 256 rfl 257 rfl 124 rfl 258 rfl 103 rfl (by decide) (W := 0) (r35_5 hw b72_0 a5 a42 k49 a50 a51 a52 O_K95 f95_1 f95_2 f105 f95_3 f95_4 f103 f106 f107 g78 f95_5 ne79) (by decide) (by decide) f95_1 e104 (g := (mkF m 81 #[rv a1, iv p2, rv a3, .val .null, .val .null, iv p4, rv a5, iv (0:Int32), rv b72_0, rv a51] [(.ref b72_0)])) rfl (by rw [hml]; rfl) (argsL := []) (rest := []) (lenOf pd19 rfl) rfl wf (hb hby d5_81) rfl (by decide) (by decide)
  obtain ⟨rfl, N108q, K108, f108_1, f108_2, _, f108_4, _⟩ := hQ108
  have N108 := Fr.app N104 N108q
  have O_K108 : Old Z n0 T108.heap := O_K95.keep K108 (allS g78 all0)
  have Kp_K108 : Keep h0 T108.heap [a1] := Kp_K95.trans K108 (allS (Or.inr z81) all0)
  have f110 := ((((((f61.keep K62).wr W66).keep K72).keep K80).keep K95).keep K108)
  obtain ⟨_, X109, e109, st109⟩ := castY X108 hx hZ hown (ow hw 265 rfl) rfl (Ins.self f110) (g := (mkF m 86 #[rv a1, iv p2, rv a3, .val .null, .val .null, iv p4, rv a5, iv (0:Int32), rv b72_0, rv a51] [(.ref a52)])) rfl rfl (hb hby d5_86)
  have ne113 : a52 ≠ b72_0 := Nat.ne_of_lt (Nat.lt_of_lt_of_le (((((((H60.wr W9).wr W16).wr W22).wr W28).wr W34).keep K62).wr W66).lt lo72_1)
  have f114 := (((((((((((H111.other W9 (Or.inl H112)).other W16 (Or.inl H112)).other W22 (Or.inl H112)).other W28 (Or.inl H112)).other W34 (Or.inl H112)).keep K62 nin0).other W66 (Or.inl H112)).keep K72 nin0).keep K80 (ninS ne113 nin0)).keep K95 (ninS ne113 nin0)).keep K108 (ninS ne113 nin0))
  obtain ⟨_, X115, e115, st115⟩ := gF X109 hx hZ hown (ow hw 129 rfl) e109 f114 (g := (mkF m 95 #[rv a1, iv p2, rv a3, .val .null, .val .null, iv p4, rv a5, iv (0:Int32), rv b72_0, rv a52] [(.ref a52), (.int (0:Int32))])) rfl rfl (hb hby d5_95)
  have f116 := (f103.keep K108 (ninS ne89 nin0))
  obtain ⟨_, _, _, X117, hQ117, st117⟩ := cI X115 hx hZ hw hown (x := y15) (y := y14) 117 rfl 118 rfl 119 rfl 120 rfl 121 rfl 122 rfl 123 rfl 124 rfl 125 rfl 103 rfl (by decide) (W := 0) (r14_8 hw b72_0 a5 O_K108 f108_4 f108_2 f116) (by decide) (by decide) f108_1 e115 (g := (mkF m 71 #[rv a1, iv p2, rv a3, .val .null, .val .null, iv p4, rv a5, iv (0:Int32), rv b72_0, rv a52] [(.ref b72_0)])) rfl (by rw [hml]; rfl) (argsL := []) (rest := []) (lenOf pd23 rfl) rfl wf (hb hby d5_71) rfl (by decide) (by decide)
  obtain ⟨rfl, N117q, e117⟩ := hQ117
  have N117 := Fr.app N108 N117q
  have f119 := (((((f64.wr W66).keep K72).keep K80).keep K95).keep K108)
  have ne120 : a1 ≠ b72_0 := Nat.ne_of_lt (Nat.lt_of_lt_of_le (((((((H8.wr W9).wr W16).wr W22).wr W28).wr W34).keep K62).wr W66).lt lo72_1)
  have f121 := (((((((((((H118.other W9 (Or.inr (sn26 hw))).other W16 (Or.inr (sn27 hw))).other W22 (Or.inr (sn28 hw))).other W28 (Or.inr (sn29 hw))).other W34 (Or.inr (sn30 hw))).keep K62 nin0).other W66 (Or.inr (sn31 hw))).keep K72 nin0).keep K80 (ninS ne120 nin0)).keep K95 (ninS ne120 nin0)).keep K108 (ninS ne120 nin0))
  obtain ⟨_, h122, X122, e122, W122, st122⟩ := pF X117 hx hZ hown (ow hw 129 rfl) e117 f121 f119 (Or.inr ⟨(ow hw 130 rfl), rfl, hnm⟩) (ow hw 35 rfl) (ty := .boolean) (by decide) rfl rfl (g := (mkF m 107 #[rv a1, iv p2, rv a3, .val .null, .val .null, iv p4, rv a5, iv (0:Int32), rv b72_0, rv a52] [(.int (0:Int32)), (.ref a1)])) rfl rfl (hb hby d5_107)
  have Kp_W122 : Keep h0 h122 [a1] := Kp_K108.wr W122 (mI 0 rfl)
  have N123 := Fr.snoc X122 N117 H10
  have f124 := f121.same W122
  have z125 : h0.size ≤ b62_0 := Nat.le_trans Kp_W34.1 lo62_1
  have z126 : h0.size ≤ b62_1 := Nat.le_trans Kp_W34.1 lo62_2
  have f127 := (f119.wr W122)
  have f128 := ((((((((((f18.other W22 (Or.inr (sn32 hw))).other W28 (Or.inr (sn33 hw))).other W34 (Or.inr (sn34 hw))).keep K62 nin0).other W66 (Or.inr (sn35 hw))).keep K72 nin0).keep K80 (ninS ne120 nin0)).keep K95 (ninS ne120 nin0)).keep K108 (ninS ne120 nin0)).other W122 (Or.inr (sn36 hw)))
  have f129 := (((((f68.keep K72 nin0).keep K80 (ninS ne120 nin0)).keep K95 (ninS ne120 nin0)).keep K108 (ninS ne120 nin0)).other W122 (Or.inr (sn37 hw)))
  have f130 := ((((((f62_4.wr W66).keep K72).keep K80).keep K95).keep K108).wr W122)
  have ne131 : a1 ≠ b62_0 := Nat.ne_of_lt (Nat.lt_of_lt_of_le (((((H8.wr W9).wr W16).wr W22).wr W28).wr W34).lt lo62_1)
  have ne132 : b62_0 ≠ b72_0 := Nat.ne_of_lt (Nat.lt_of_lt_of_le (f62_4.wr W66).lt lo72_1)
  have f133 := ((((((f62_5.other W66 (Or.inl (Ne.symm ne131))).keep K72 nin0).keep K80 (ninS ne132 nin0)).keep K95 (ninS ne132 nin0)).keep K108 (ninS ne132 nin0)).other W122 (Or.inl (Ne.symm ne131)))
  have f134 := ((((((f62_6.other W66 (Or.inl (Ne.symm ne131))).keep K72 nin0).keep K80 (ninS ne132 nin0)).keep K95 (ninS ne132 nin0)).keep K108 (ninS ne132 nin0)).other W122 (Or.inl (Ne.symm ne131)))
  have ne135 : a1 ≠ b62_1 := Nat.ne_of_lt (Nat.lt_of_lt_of_le (((((H8.wr W9).wr W16).wr W22).wr W28).wr W34).lt lo62_2)
  have ne136 : b62_1 ≠ b72_0 := Nat.ne_of_lt (Nat.lt_of_lt_of_le (f62_8.wr W66).lt lo72_1)
  have f137 := ((((((f62_7.other W66 (Ne.symm ne135)).keep K72 nin0).keep K80 (ninS ne136 nin0)).keep K95 (ninS ne136 nin0)).keep K108 (ninS ne136 nin0)).other W122 (Ne.symm ne135))
  have f138 := ((((((f62_8.wr W66).keep K72).keep K80).keep K95).keep K108).wr W122)
  have f139 := f62_9
  refine fin (Q := r5_4Q Z a1 p2 a3 p4 a5 a42 a47 k49 a50 a51 a52 h0 n0) (rm := (rM 9 4 12 116)) Bd X122 e122 (none) (fun _ => rfl) ⟨b62_0, b62_1, k62_0, rfl, N123, Kp_W122, z125, z126, nq62_3, f127, f128, f129, f124, f130, f133, f134, f137, f138, f139⟩ (by decide) (by decide) fun fs hr => ?_
  show St p e below s₁ m 0 #[rv a1, iv p2, rv a3, .val .null, .val .null, iv p4, rv a5, un, un, un] [] _
  refine aN X0 hx hby d5_0 rfl rfl ?_
  refine st6 _ ?_
  refine aN X6 hx hby d5_4 rfl rfl ?_
  refine iN X6 hx hby d5_5 rfl ?_
  refine st9 _ ?_
  refine aN X9 hx hby d5_9 rfl rfl ?_
  refine aN X9 hx hby d5_10 rfl rfl ?_
  refine st16 _ ?_
  refine aN X16 hx hby d5_14 rfl rfl ?_
  refine aN X16 hx hby d5_15 rfl rfl ?_
  refine st22 _ ?_
  refine aN X22 hx hby d5_19 rfl rfl ?_
  refine aL X22 hx hby d5_20 rfl rfl ?_
  refine st28 _ ?_
  refine aN X28 hx hby d5_25 rfl rfl ?_
  refine iL X28 hx hby d5_26 rfl ?_
  refine st34 _ ?_
  refine aN X34 hx hby d5_31 rfl rfl ?_
  refine aL X34 hx hby d5_32 rfl rfl ?_
  refine st62 _ ?_
  refine st66 _ ?_
  refine aL X66 hx hby d5_40 rfl rfl ?_
  refine XS.ifnullYes X66.here hx rfl (pc0 := 42) (pc' := 57) rfl (hb hby d5_42) rfl (by decide) (by decide) ?_
  refine iC X66 hx hby d5_57 ?_
  refine XS.istore X66.here hx rfl (hb hby d5_58) rfl (l' := #[rv a1, iv p2, rv a3, .val .null, .val .null, iv p4, rv a5, iv (0:Int32), un, un]) rfl ?_
  show St p e below T66 m 60 #[rv a1, iv p2, rv a3, .val .null, .val .null, iv p4, rv a5, iv (0:Int32), un, un] [] _
  refine aL X66 hx hby d5_60 rfl rfl ?_
  refine st72.trans ?_
  refine XS.astore X72.here hx rfl (hb hby d5_67) rfl rfl (l' := #[rv a1, iv p2, rv a3, .val .null, .val .null, iv p4, rv a5, iv (0:Int32), rv b72_0, un]) rfl ?_
  refine aL X72 hx hby d5_69 rfl rfl ?_
  refine st74.trans ?_
  refine XS.ifNo X74.here hx rfl (hb hby d5_76) rfl ((if0 _ _).trans (feq (by decide : ¬ ((1:Int32) = (0:Int32)))).1) ?_
  refine aL X74 hx hby d5_79 rfl rfl ?_
  refine st80.trans ?_
  refine st82 _ ?_
  refine XS.astore X82.here hx rfl (hb hby d5_89) rfl rfl (l' := #[rv a1, iv p2, rv a3, .val .null, .val .null, iv p4, rv a5, iv (0:Int32), rv b72_0, rv a50]) rfl ?_
  refine iL X82 hx hby d5_91 rfl ?_
  refine aL X82 hx hby d5_93 rfl rfl ?_
  refine st88 _ ?_
  refine XS.ior X88.here hx rfl (hb hby d5_98) rfl ?_
  refine XS.istore X88.here hx rfl (hb hby d5_99) rfl (l' := #[rv a1, iv p2, rv a3, .val .null, .val .null, iv p4, rv a5, iv (0:Int32), rv b72_0, rv a50]) rfl ?_
  refine XS.goto X88.here hx rfl (pc0 := 101) (pc' := 69) rfl (hb hby d5_101) (by decide) (by decide) ?_
  refine aL X88 hx hby d5_69 rfl rfl ?_
  refine st91.trans ?_
  refine XS.ifNo X91.here hx rfl (hb hby d5_76) rfl ((if0 _ _).trans (feq (by decide : ¬ ((1:Int32) = (0:Int32)))).1) ?_
  refine aL X91 hx hby d5_79 rfl rfl ?_
  refine st95.trans ?_
  refine st96 _ ?_
  refine XS.astore X96.here hx rfl (hb hby d5_89) rfl rfl (l' := #[rv a1, iv p2, rv a3, .val .null, .val .null, iv p4, rv a5, iv (0:Int32), rv b72_0, rv a51]) rfl ?_
  refine iL X96 hx hby d5_91 rfl ?_
  refine aL X96 hx hby d5_93 rfl rfl ?_
  show St p e below T96 m 95 #[rv a1, iv p2, rv a3, .val .null, .val .null, iv p4, rv a5, iv (0:Int32), rv b72_0, rv a51] [(.ref a51), (.int (0:Int32))] _
  refine st102 _ ?_
  refine XS.ior X102.here hx rfl (hb hby d5_98) rfl ?_
  refine XS.istore X102.here hx rfl (hb hby d5_99) rfl (l' := #[rv a1, iv p2, rv a3, .val .null, .val .null, iv p4, rv a5, iv (0:Int32), rv b72_0, rv a51]) rfl ?_
  refine XS.goto X102.here hx rfl (pc0 := 101) (pc' := 69) rfl (hb hby d5_101) (by decide) (by decide) ?_
  refine aL X102 hx hby d5_69 rfl rfl ?_
  refine st104.trans ?_
  refine XS.ifNo X104.here hx rfl (hb hby d5_76) rfl ((if0 _ _).trans (feq (by decide : ¬ ((1:Int32) = (0:Int32)))).1) ?_
  refine aL X104 hx hby d5_79 rfl rfl ?_
  refine st108.trans ?_
  refine st109 _ ?_
  refine XS.astore X109.here hx rfl (hb hby d5_89) rfl rfl (l' := #[rv a1, iv p2, rv a3, .val .null, .val .null, iv p4, rv a5, iv (0:Int32), rv b72_0, rv a52]) rfl ?_
  refine iL X109 hx hby d5_91 rfl ?_
  refine aL X109 hx hby d5_93 rfl rfl ?_
  refine st115 _ ?_
  refine XS.ior X115.here hx rfl (hb hby d5_98) rfl ?_
  refine XS.istore X115.here hx rfl (hb hby d5_99) rfl (l' := #[rv a1, iv p2, rv a3, .val .null, .val .null, iv p4, rv a5, iv (0:Int32), rv b72_0, rv a52]) rfl ?_
  refine XS.goto X115.here hx rfl (pc0 := 101) (pc' := 69) rfl (hb hby d5_101) (by decide) (by decide) ?_
  refine aL X115 hx hby d5_69 rfl rfl ?_
  refine st117.trans ?_
  refine XS.ifYes X117.here hx rfl (pc0 := 76) (pc' := 104) rfl (hb hby d5_76) rfl ((if0 _ _).trans (teq (rfl : (0:Int32) = (0:Int32))).1) (by decide) (by decide) ?_
  refine aN X117 hx hby d5_104 rfl rfl ?_
  refine iL X117 hx hby d5_105 rfl ?_
  refine st122 _ ?_
  exact X122.returnOut hx Bd.returns (hb hby d5_110) hr
theorem g1_19 (p1 p2 p3 p4:Int32) (a5 : Addr) (p6 p7:Int32) (a8 a9 a10 a11 a12 : Addr) (p13 p14:Int32) (a27 a32 : Addr) (k34 : ClassId) (a35 a36 a37 : Addr)
    (H0 : SG p l e R s m args below meth c T0 locs cells slots Z a0 h0 n0 5 20 10 138) (H22 : xE1 Z h0 a12) (H24 : xF3 Z h0 a12 (.int (3:Int32))) (H28 : xF2 Z h0 a12 (.ref a27)) (H30 : xE19 Z h0 a27) (H33 : Mi Z "[Ljava/lang/Object;" a32) (H38 : Arv Z h0 a27 k34 (.object "java/lang/Object") (10:Int32) [(.ref a35), (.ref a36), (.ref a37), .null, .null, .null, .null, .null, .null, .null] .null) (H41 : xE5 Z h0 a35) (H43 : xE5 Z h0 a36) (H45 : xE5 Z h0 a37) (H48 : xF0 Z h0 a12 (.int (3:Int32))) (H50 : xF16 Z h0 a35 (.int (0:Int32))) (H53 : xF16 Z h0 a36 (.int (0:Int32))) (H56 : xF16 Z h0 a37 (.int (0:Int32))) (H62 : Sta Z Z.heap "tabula/engine/Concept$Kind" "AND" "Ltabula/engine/Concept$Kind;" (.ref a5)) :
    ∃ (T' : State) (h' : Heap) (L' : List Loc) (b15 b60_0 b60_1 : Addr) (k60_0 : ClassId), Stand p l e R s m args below meth c T' L' (cells + 5) (slots + 20) ∧ T'.heap = h' ∧ Fr n0 L' ∧ Keep h0 h' [] ∧ h0.size ≤ b15 ∧ h0.size ≤ b60_0 ∧ h0.size ≤ b60_1 ∧ b15 ≠ b60_0 ∧ b15 ≠ b60_1 ∧ b60_0 ≠ b60_1 ∧ xE5 Z h' b15 ∧ xF6 Z h' b15 (.ref a5) ∧ xF10 Z h' b15 (.ref b60_0) ∧ xF16 Z h' b15 (.int (0:Int32)) ∧ xE17 Z h' b60_0 ∧ xF18 Z h' b60_0 (.ref b60_1) ∧ xF24 Z h' b60_0 (.int (0:Int32)) ∧ Arv Z h' b60_1 k60_0 (.object "java/lang/Object") (3:Int32) [(.ref a35), (.ref a36), (.ref a37)] .null ∧ xE19 Z h' b60_1 ∧ Ovr Z k60_0 "java/lang/Object" ∧
      ∀ target, St p e below T' m 298 #[iv p1, iv p2, iv p3, iv p4, rv a5, iv p6, iv p7, rv a8, rv a9, rv a10, rv a11, rv a12, iv p13, .val .null, .val .null, iv p14, rv b15, rv b60_0, un] [] target → St p e below T0 m 271 #[iv p1, iv p2, iv p3, iv p4, rv a5, iv p6, iv p7, rv a8, rv a9, rv a10, rv a11, rv a12, iv p13, .val .null, .val .null, iv p14, un, un, un] [] target := by
  obtain ⟨X0, hx, hZ, hw, hby, hml, hown, e0, O0, N0, rc, rs, rf, rl⟩ := H0
  obtain ⟨_, h15, X15, e15, E15, A15, D15, -, st15⟩ := newO X0 hx hZ hown (ow hw 34 rfl) (ow hw 35 rfl) (ow hw 36 rfl) e0 (g := (mkF m 271 #[iv p1, iv p2, iv p3, iv p4, rv a5, iv p6, iv p7, rv a8, rv a9, rv a10, rv a11, rv a12, iv p13, .val .null, .val .null, iv p14, un, un, un] [])) rfl (hb hby at_271) (by omega) (by omega)
  obtain ⟨b15, g15⟩ : ∃ z, z = h0.size := ⟨_, rfl⟩
  rw [← g15] at A15 D15 st15
  have O_E15 : Old Z n0 h15 := O0.ext E15
  have Kp_E15 : Keep h0 h15 [] := (Keep.refl h0 []).ext E15
  have f16 : xF4 Z h15 b15 (.int (0:Int32)) := D15 (Or.inr (ow hw 52 rfl)) (ty := .int) (by decide)
  have g17 : n0 ≤ b15 := Nat.le_trans (Nat.le_trans (Nat.le_of_eq O0.1.symm) O0.2.1) (Nat.le_of_eq g15.symm)
  have f18 : xF6 Z h15 b15 .null := D15 (Or.inr (ow hw 54 rfl)) (ty := (.object "tabula/engine/Concept$Kind")) (by decide)
  have f19 : xF7 Z h15 b15 .null := D15 (Or.inr (ow hw 56 rfl)) (ty := (.object "java/lang/String")) (by decide)
  have f20 : xF8 Z h15 b15 .null := D15 (Or.inr (ow hw 58 rfl)) (ty := (.object "tabula/engine/Role")) (by decide)
  have f21 : xF9 Z h15 b15 (.int (0:Int32)) := D15 (Or.inr (ow hw 60 rfl)) (ty := .int) (by decide)
  have f23 := (H22.ext E15)
  have f25 := (H24.ext E15)
  have ne26 : a12 ≠ b15 := Nat.ne_of_lt (Nat.lt_of_lt_of_le H22.lt (Nat.le_of_eq g15.symm))
  have f29 := (H28.ext E15)
  have f31 := (H30.ext E15)
  have f39 := (H38.ext E15)
  have ne40 : a27 ≠ b15 := Nat.ne_of_lt (Nat.lt_of_lt_of_le H30.lt (Nat.le_of_eq g15.symm))
  have f42 := (H41.ext E15)
  have f44 := (H43.ext E15)
  have f46 := (H45.ext E15)
  have f47 : xF10 Z h15 b15 .null := D15 (Or.inr (ow hw 91 rfl)) (ty := (.object "java/util/List")) (by decide)
  have f49 := (H48.ext E15)
  have f51 := (H50.ext E15)
  have ne52 : a35 ≠ b15 := Nat.ne_of_lt (Nat.lt_of_lt_of_le H41.lt (Nat.le_of_eq g15.symm))
  have f54 := (H53.ext E15)
  have ne55 : a36 ≠ b15 := Nat.ne_of_lt (Nat.lt_of_lt_of_le H43.lt (Nat.le_of_eq g15.symm))
  have f57 := (H56.ext E15)
  have ne58 : a37 ≠ b15 := Nat.ne_of_lt (Nat.lt_of_lt_of_le H45.lt (Nat.le_of_eq g15.symm))
  have f59 : xF16 Z h15 b15 (.int (0:Int32)) := D15 (Or.inr (ow hw 130 rfl)) (ty := .boolean) (by decide)
  obtain ⟨T60, _, _, X60, hQ60, st60⟩ := cP X15 hx hZ hw hown (y := y5) rfl 47 rfl 48 rfl 49 rfl 36 rfl (by decide) (W := 1) (r5_4 hw b15 (3:Int32) a5 p14 a12 a27 a32 k34 a35 a36 a37 O_E15 f16 A15 g17 f18 f19 f20 f21 f23 f25 ne26 f29 f31 H33 f39 ne40 f42 f44 f46 f47 f49 f51 ne52 f54 ne55 f57 ne58 f59) (by show 9 + 1 ≤ R.frames; omega) (by show 1 + (10 + 11) + 116 ≤ R.locals; omega) e15 (g := (mkF m 286 #[iv p1, iv p2, iv p3, iv p4, rv a5, iv p6, iv p7, rv a8, rv a9, rv a10, rv a11, rv a12, iv p13, .val .null, .val .null, iv p14, un, un, un] [(.ref a12), (.int p14), .null, .null, (.ref a5), (.int (3:Int32)), (.ref b15), (.ref b15)])) rfl (by rw [hml]; rfl) (argsL := [(.int (3:Int32)), (.ref a5), .null, .null, (.int p14), (.ref a12)]) (rest := [(.ref b15)]) (lenOf pd0 rfl) rfl wf (hb hby at_286) rfl (by show cells + 1 + 4 ≤ R.cells; omega) (by show slots + 8 + 12 ≤ R.slots; omega)
  obtain ⟨b60_0, b60_1, k60_0, rfl, N60q, K60, lo60_1, lo60_2, nq60_3, f60_4, f60_5, f60_6, f60_7, f60_8, f60_9, f60_10, f60_11, f60_12, f60_13⟩ := hQ60
  have N60 := Fr.app N0 N60q
  have z61 : h0.size ≤ b15 := Nat.le_trans (Keep.refl h0 []).1 (Nat.le_of_eq g15.symm)
  have O_K60 : Old Z n0 T60.heap := O_E15.keep K60 (allS g17 all0)
  have Kp_K60 : Keep h0 T60.heap [] := Kp_E15.trans K60 (allS (Or.inr z61) all0)
  replace X60 : Stand p l e R _ m args below meth c T60 _ (cells + 5) (slots + 20) := X60
  obtain ⟨T63, _, _, X63, hQ63, st63⟩ := cV X60 hx hZ hw hown (y := y17) 136 rfl 137 rfl 139 rfl 138 rfl 140 rfl 36 rfl (by decide) (W := 0) (r17_2 hw b15 a5 b60_0 O_K60 f60_5 H62 f60_6) (by show 0 + 1 ≤ R.frames; omega) (by show 0 + (1 + 11) + 0 ≤ R.locals; omega) f60_4 rfl (g := (mkF m 293 #[iv p1, iv p2, iv p3, iv p4, rv a5, iv p6, iv p7, rv a8, rv a9, rv a10, rv a11, rv a12, iv p13, .val .null, .val .null, iv p14, rv b15, un, un] [(.ref b15)])) rfl (by rw [hml]; rfl) (argsL := []) (rest := []) (lenOf pd20 rfl) rfl wf (hb hby at_293) rfl (by show cells + 5 + 0 ≤ R.cells; omega) (by show slots + 20 + 0 ≤ R.slots; omega)
  obtain ⟨rfl, N63q, e63⟩ := hQ63
  have N63 := Fr.app N60 N63q
  replace X63 : Stand p l e R _ m args below meth c T63 _ (cells + 5) (slots + 20) := X63
  have z64 : h0.size ≤ b60_0 := Nat.le_trans Kp_E15.1 lo60_1
  have z65 : h0.size ≤ b60_1 := Nat.le_trans Kp_E15.1 lo60_2
  have ne66 : b15 ≠ b60_0 := Nat.ne_of_lt (Nat.lt_of_lt_of_le A15.lt lo60_1)
  have ne67 : b15 ≠ b60_1 := Nat.ne_of_lt (Nat.lt_of_lt_of_le A15.lt lo60_2)
  refine ⟨T63, _, _, b15, b60_0, b60_1, k60_0, X63.more (by omega) (by omega), e63, N63, Kp_K60, z61, z64, z65, ne66, ne67, nq60_3, f60_4, f60_5, f60_6, f60_7, f60_8, f60_9, f60_10, f60_11, f60_12, f60_13, fun target kt => ?_⟩
  show St p e below T0 m 271 #[iv p1, iv p2, iv p3, iv p4, rv a5, iv p6, iv p7, rv a8, rv a9, rv a10, rv a11, rv a12, iv p13, .val .null, .val .null, iv p14, un, un, un] [] _
  refine st15 _ ?_
  refine XS.dup X15.here hx rfl (hb hby at_274) rfl rfl ?_
  refine iC X15 hx hby at_275 ?_
  refine aL X15 hx hby at_276 rfl rfl ?_
  refine aL X15 hx hby at_278 rfl rfl ?_
  refine aL X15 hx hby at_280 rfl rfl ?_
  refine iL X15 hx hby at_282 rfl ?_
  refine aL X15 hx hby at_284 rfl rfl ?_
  refine st60.trans ?_
  refine XS.astore X60.here hx rfl (hb hby at_289) rfl rfl (l' := #[iv p1, iv p2, iv p3, iv p4, rv a5, iv p6, iv p7, rv a8, rv a9, rv a10, rv a11, rv a12, iv p13, .val .null, .val .null, iv p14, rv b15, un, un]) rfl ?_
  refine aL X60 hx hby at_291 rfl rfl ?_
  refine st63.trans ?_
  refine XS.astore X63.here hx rfl (hb hby at_296) rfl rfl (l' := #[iv p1, iv p2, iv p3, iv p4, rv a5, iv p6, iv p7, rv a8, rv a9, rv a10, rv a11, rv a12, iv p13, .val .null, .val .null, iv p14, rv b15, rv b60_0, un]) rfl ?_
  exact kt
theorem d44_0 : dk jdk_45_method_3_code 0 (.aload_n 0) 1 := by decide +kernel
theorem d44_1 : dk jdk_45_method_3_code 1 (.getfield 7) 3 := by decide +kernel
theorem d44_4 : dk jdk_45_method_3_code 4 .arraylength 1 := by decide +kernel
theorem d44_5 : dk jdk_45_method_3_code 5 .ireturn 1 := by decide +kernel
abbrev y44 : MethodName := ⟨"java/util/ImmutableCollections$ListN", "size", "()I"⟩
def r44_1Q (Z : State) (a1 a2 : Addr) (k6 : ClassId) (a7 a8 a9 : Addr) (h0 : Heap) (n0 : Nat) : QT := fun v h L => v = some (.int (3:Int32)) ∧ Fr n0 L ∧ h = h0
theorem r44_1 (hw : HW a0 Z) (a1 a2 : Addr) (k6 : ClassId) (a7 a8 a9 : Addr) (O0 : Old Z n0 h0) (H3 : xF18 Z h0 a1 (.ref a2)) (H10 : Arv Z h0 a2 k6 (.object "java/lang/Object") (3:Int32) [(.ref a7), (.ref a8), (.ref a9)] .null) :
    MF l y44 jdk_45_method_3_code 1 (some .int) [] (rM 0 0 0 0) Z #[(.ref a1)] h0 (r44_1Q Z a1 a2 k6 a7 a8 a9 h0 n0) := by
  refine own_in (pq pn3) #[rv a1] (fun _ => by first | (simp [entryFrame, mkF, argsToLocals, Value.category]; done) | rfl) ?_
  intro p e s m below meth c s₁ Bd hx hby hml hown hnm hZ e0 X0
  have N0 := Fr.nil n0
  obtain ⟨_, X4, e4, st4⟩ := gF X0 hx hZ hown (ow hw 156 rfl) e0 H3 (g := (mkF m 1 #[rv a1] [(.ref a1)])) rfl rfl (hb hby d44_1)
  obtain ⟨_, Ar5, _, S5, M5, _, _⟩ := id H10
  refine fin (Q := r44_1Q Z a1 a2 k6 a7 a8 a9 h0 n0) (rm := (rM 0 0 0 0)) Bd X4 e4 (some (.int (3:Int32))) nofun ⟨rfl, N0, rfl⟩ (by decide) (by decide) fun fs hr => ?_
  show St p e below s₁ m 0 #[rv a1] [] _
  refine aN X0 hx hby d44_0 rfl rfl ?_
  refine st4 _ ?_
  refine X4.arraylength hx (by rw [e4]; exact Ar5.1) (State.isArrayOf_alike hZ.alike Ar5.2.1) (g := (mkF m 4 #[rv a1] [(.ref a2)])) rfl rfl (hb hby d44_4) _ ?_
  rw [len_of S5 M5]
  exact retI X4 hx Bd.returns (hb hby d44_5) hr
theorem d45_0 : dk jdk_45_method_4_code 0 (.aload_n 0) 1 := by decide +kernel
theorem d45_1 : dk jdk_45_method_4_code 1 (.getfield 7) 3 := by decide +kernel
theorem d45_4 : dk jdk_45_method_4_code 4 (.iload_n 1) 1 := by decide +kernel
theorem d45_5 : dk jdk_45_method_4_code 5 .aaload 1 := by decide +kernel
theorem d45_6 : dk jdk_45_method_4_code 6 .areturn 1 := by decide +kernel
abbrev y45 : MethodName := ⟨"java/util/ImmutableCollections$ListN", "get", "(I)Ljava/lang/Object;"⟩
def r45_1Q (Z : State) (a1 a2 : Addr) (k6 : ClassId) (a7 a8 a9 : Addr) (h0 : Heap) (n0 : Nat) : QT := fun v h L => v = some (.ref a7) ∧ Fr n0 L ∧ h = h0
theorem r45_1 (hw : HW a0 Z) (a1 a2 : Addr) (k6 : ClassId) (a7 a8 a9 : Addr) (O0 : Old Z n0 h0) (H3 : xF18 Z h0 a1 (.ref a2)) (H10 : Arv Z h0 a2 k6 (.object "java/lang/Object") (3:Int32) [(.ref a7), (.ref a8), (.ref a9)] .null) :
    MF l y45 jdk_45_method_4_code 2 (some (.object "java/lang/Object")) [] (rM 0 0 0 0) Z #[(.ref a1), (.int (0:Int32))] h0 (r45_1Q Z a1 a2 k6 a7 a8 a9 h0 n0) := by
  refine own_in (pq pn3) #[rv a1, iv (0:Int32)] (fun _ => by first | (simp [entryFrame, mkF, argsToLocals, Value.category]; done) | rfl) ?_
  intro p e s m below meth c s₁ Bd hx hby hml hown hnm hZ e0 X0
  have N0 := Fr.nil n0
  obtain ⟨_, X4, e4, st4⟩ := gF X0 hx hZ hown (ow hw 156 rfl) e0 H3 (g := (mkF m 1 #[rv a1, iv (0:Int32)] [(.ref a1)])) rfl rfl (hb hby d45_1)
  obtain ⟨cl5, Ar5, _, S5, _, H5, _⟩ := id H10
  have hin5 : ¬ ((0:Int32) < 0 ∨ cl5.slots.size ≤ ((0:Int32)).toNatClampNeg) := inb_of S5 ⟨by decide, by decide⟩
  refine fin (Q := r45_1Q Z a1 a2 k6 a7 a8 a9 h0 n0) (rm := (rM 0 0 0 0)) Bd X4 e4 (some (.ref a7)) nofun ⟨rfl, N0, rfl⟩ (by decide) (by decide) fun fs hr => ?_
  show St p e below s₁ m 0 #[rv a1, iv (0:Int32)] [] _
  refine aN X0 hx hby d45_0 rfl rfl ?_
  refine st4 _ ?_
  refine iN X4 hx hby d45_4 rfl ?_
  refine X4.aaload hx (j := (0:Int32)) (v := (.ref a7)) (by rw [e4]; exact Ar5.1) (State.isArrayOf_alike hZ.alike Ar5.2.1) rfl Ar5.2.2 hin5 (Has.at H5 hin5 rfl) (g := (mkF m 5 #[rv a1, iv (0:Int32)] [(.int (0:Int32)), (.ref a2)])) rfl rfl (hb hby d45_5) _ ?_
  exact retA X4 hx Bd.returns rfl rfl (hb hby d45_6) hr
def r45_2Q (Z : State) (a1 a2 : Addr) (k6 : ClassId) (a7 a8 a9 : Addr) (h0 : Heap) (n0 : Nat) : QT := fun v h L => v = some (.ref a8) ∧ Fr n0 L ∧ h = h0
theorem r45_2 (hw : HW a0 Z) (a1 a2 : Addr) (k6 : ClassId) (a7 a8 a9 : Addr) (O0 : Old Z n0 h0) (H3 : xF18 Z h0 a1 (.ref a2)) (H10 : Arv Z h0 a2 k6 (.object "java/lang/Object") (3:Int32) [(.ref a7), (.ref a8), (.ref a9)] .null) :
    MF l y45 jdk_45_method_4_code 2 (some (.object "java/lang/Object")) [] (rM 0 0 0 0) Z #[(.ref a1), (.int (1:Int32))] h0 (r45_2Q Z a1 a2 k6 a7 a8 a9 h0 n0) := by
  refine own_in (pq pn3) #[rv a1, iv (1:Int32)] (fun _ => by first | (simp [entryFrame, mkF, argsToLocals, Value.category]; done) | rfl) ?_
  intro p e s m below meth c s₁ Bd hx hby hml hown hnm hZ e0 X0
  have N0 := Fr.nil n0
  obtain ⟨_, X4, e4, st4⟩ := gF X0 hx hZ hown (ow hw 156 rfl) e0 H3 (g := (mkF m 1 #[rv a1, iv (1:Int32)] [(.ref a1)])) rfl rfl (hb hby d45_1)
  obtain ⟨cl5, Ar5, _, S5, _, H5, _⟩ := id H10
  have hin5 : ¬ ((1:Int32) < 0 ∨ cl5.slots.size ≤ ((1:Int32)).toNatClampNeg) := inb_of S5 ⟨by decide, by decide⟩
  refine fin (Q := r45_2Q Z a1 a2 k6 a7 a8 a9 h0 n0) (rm := (rM 0 0 0 0)) Bd X4 e4 (some (.ref a8)) nofun ⟨rfl, N0, rfl⟩ (by decide) (by decide) fun fs hr => ?_
  show St p e below s₁ m 0 #[rv a1, iv (1:Int32)] [] _
  refine aN X0 hx hby d45_0 rfl rfl ?_
  refine st4 _ ?_
  refine iN X4 hx hby d45_4 rfl ?_
  refine X4.aaload hx (j := (1:Int32)) (v := (.ref a8)) (by rw [e4]; exact Ar5.1) (State.isArrayOf_alike hZ.alike Ar5.2.1) rfl Ar5.2.2 hin5 (Has.at H5 hin5 rfl) (g := (mkF m 5 #[rv a1, iv (1:Int32)] [(.int (1:Int32)), (.ref a2)])) rfl rfl (hb hby d45_5) _ ?_
  exact retA X4 hx Bd.returns rfl rfl (hb hby d45_6) hr
def r45_3Q (Z : State) (a1 a2 : Addr) (k6 : ClassId) (a7 a8 a9 : Addr) (h0 : Heap) (n0 : Nat) : QT := fun v h L => v = some (.ref a9) ∧ Fr n0 L ∧ h = h0
theorem r45_3 (hw : HW a0 Z) (a1 a2 : Addr) (k6 : ClassId) (a7 a8 a9 : Addr) (O0 : Old Z n0 h0) (H3 : xF18 Z h0 a1 (.ref a2)) (H10 : Arv Z h0 a2 k6 (.object "java/lang/Object") (3:Int32) [(.ref a7), (.ref a8), (.ref a9)] .null) :
    MF l y45 jdk_45_method_4_code 2 (some (.object "java/lang/Object")) [] (rM 0 0 0 0) Z #[(.ref a1), (.int (2:Int32))] h0 (r45_3Q Z a1 a2 k6 a7 a8 a9 h0 n0) := by
  refine own_in (pq pn3) #[rv a1, iv (2:Int32)] (fun _ => by first | (simp [entryFrame, mkF, argsToLocals, Value.category]; done) | rfl) ?_
  intro p e s m below meth c s₁ Bd hx hby hml hown hnm hZ e0 X0
  have N0 := Fr.nil n0
  obtain ⟨_, X4, e4, st4⟩ := gF X0 hx hZ hown (ow hw 156 rfl) e0 H3 (g := (mkF m 1 #[rv a1, iv (2:Int32)] [(.ref a1)])) rfl rfl (hb hby d45_1)
  obtain ⟨cl5, Ar5, _, S5, _, H5, _⟩ := id H10
  have hin5 : ¬ ((2:Int32) < 0 ∨ cl5.slots.size ≤ ((2:Int32)).toNatClampNeg) := inb_of S5 ⟨by decide, by decide⟩
  refine fin (Q := r45_3Q Z a1 a2 k6 a7 a8 a9 h0 n0) (rm := (rM 0 0 0 0)) Bd X4 e4 (some (.ref a9)) nofun ⟨rfl, N0, rfl⟩ (by decide) (by decide) fun fs hr => ?_
  show St p e below s₁ m 0 #[rv a1, iv (2:Int32)] [] _
  refine aN X0 hx hby d45_0 rfl rfl ?_
  refine st4 _ ?_
  refine iN X4 hx hby d45_4 rfl ?_
  refine X4.aaload hx (j := (2:Int32)) (v := (.ref a9)) (by rw [e4]; exact Ar5.1) (State.isArrayOf_alike hZ.alike Ar5.2.1) rfl Ar5.2.2 hin5 (Has.at H5 hin5 rfl) (g := (mkF m 5 #[rv a1, iv (2:Int32)] [(.int (2:Int32)), (.ref a2)])) rfl rfl (hb hby d45_5) _ ?_
  exact retA X4 hx Bd.returns rfl rfl (hb hby d45_6) hr
theorem g1_20 (p1 p2 p3 p4:Int32) (a5 : Addr) (p6 p7:Int32) (a8 a9 a10 a11 a12 : Addr) (p13 p14:Int32) (a15 a16 a19 : Addr) (k21 : ClassId)
    (H0 : SG p l e R s m args below meth c T0 locs cells slots Z a0 h0 n0 0 0 1 13) (hc17 : ¬ (p6 = (0:Int32))) (H18 : xE17 Z h0 a16) (H20 : xF18 Z h0 a16 (.ref a19)) (H22 : Arv Z h0 a19 k21 (.object "java/lang/Object") (3:Int32) [(.ref a9), (.ref a10), (.ref a11)] .null) (hc24 : (3:Int32) = p13) (hc27 : p13 = (3:Int32)) :
    ∃ (T' : State) (L' : List Loc), Stand p l e R s m args below meth c T' L' (cells + 0) (slots + 0) ∧ T'.heap = h0 ∧ Fr n0 L' ∧
      ∀ target, St p e below T' m 391 #[iv p1, iv p2, iv p3, iv p4, rv a5, iv p6, iv p7, rv a8, rv a9, rv a10, rv a11, rv a12, iv p13, .val .null, .val .null, iv p14, rv a15, rv a16, iv (1:Int32)] [(.int (1:Int32))] target → St p e below T0 m 298 #[iv p1, iv p2, iv p3, iv p4, rv a5, iv p6, iv p7, rv a8, rv a9, rv a10, rv a11, rv a12, iv p13, .val .null, .val .null, iv p14, rv a15, rv a16, un] [] target := by
  obtain ⟨X0, hx, hZ, hw, hby, hml, hown, e0, O0, N0, rc, rs, rf, rl⟩ := H0
  obtain ⟨T23, _, _, X23, hQ23, st23⟩ := cI X0 hx hZ hw hown (x := y39) (y := y44) 267 rfl 268 rfl 269 rfl 335 rfl 336 rfl 337 rfl 338 rfl 153 rfl 339 rfl 154 rfl (by decide) (W := 0) (r44_1 hw a16 a19 k21 a9 a10 a11 O0 H20 H22) (by show 0 + 1 ≤ R.frames; omega) (by show 0 + (1 + 11) + 0 ≤ R.locals; omega) H18 e0 (g := (mkF m 313 #[iv p1, iv p2, iv p3, iv p4, rv a5, iv p6, iv p7, rv a8, rv a9, rv a10, rv a11, rv a12, iv p13, .val .null, .val .null, iv p14, rv a15, rv a16, un] [(.ref a16)])) rfl (by rw [hml]; rfl) (argsL := []) (rest := []) (lenOf pd24 rfl) rfl wf (hb hby at_313) rfl (by show cells + 0 + 0 ≤ R.cells; omega) (by show slots + 0 + 0 ≤ R.slots; omega)
  obtain ⟨rfl, N23q, e23⟩ := hQ23
  have N23 := Fr.app N0 N23q
  replace X23 : Stand p l e R _ m args below meth c T23 _ (cells + 0) (slots + 0) := X23
  obtain ⟨T25, _, _, X25, hQ25, st25⟩ := cI X23 hx hZ hw hown (x := y41) (y := y45) 277 rfl 278 rfl 279 rfl 340 rfl 341 rfl 342 rfl 343 rfl 153 rfl 344 rfl 154 rfl (by decide) (W := 0) (r45_1 hw a16 a19 k21 a9 a10 a11 O0 H20 H22) (by show 0 + 1 ≤ R.frames; omega) (by show 0 + (2 + 11) + 0 ≤ R.locals; omega) H18 e23 (g := (mkF m 328 #[iv p1, iv p2, iv p3, iv p4, rv a5, iv p6, iv p7, rv a8, rv a9, rv a10, rv a11, rv a12, iv p13, .val .null, .val .null, iv p14, rv a15, rv a16, un] [(.int (0:Int32)), (.ref a16)])) rfl (by rw [hml]; rfl) (argsL := [(.int (0:Int32))]) (rest := []) (lenOf pd17 rfl) rfl wf (hb hby at_328) rfl (by show cells + 0 + 0 ≤ R.cells; omega) (by show slots + 0 + 0 ≤ R.slots; omega)
  obtain ⟨rfl, N25q, e25⟩ := hQ25
  have N25 := Fr.app N23 N25q
  replace X25 : Stand p l e R _ m args below meth c T25 _ (cells + 0) (slots + 0) := X25
  obtain ⟨T26, _, _, X26, hQ26, st26⟩ := cI X25 hx hZ hw hown (x := y41) (y := y45) 277 rfl 278 rfl 279 rfl 340 rfl 341 rfl 342 rfl 343 rfl 153 rfl 344 rfl 154 rfl (by decide) (W := 0) (r45_2 hw a16 a19 k21 a9 a10 a11 O0 H20 H22) (by show 0 + 1 ≤ R.frames; omega) (by show 0 + (2 + 11) + 0 ≤ R.locals; omega) H18 e25 (g := (mkF m 341 #[iv p1, iv p2, iv p3, iv p4, rv a5, iv p6, iv p7, rv a8, rv a9, rv a10, rv a11, rv a12, iv p13, .val .null, .val .null, iv p14, rv a15, rv a16, un] [(.int (1:Int32)), (.ref a16)])) rfl (by rw [hml]; rfl) (argsL := [(.int (1:Int32))]) (rest := []) (lenOf pd17 rfl) rfl wf (hb hby at_341) rfl (by show cells + 0 + 0 ≤ R.cells; omega) (by show slots + 0 + 0 ≤ R.slots; omega)
  obtain ⟨rfl, N26q, e26⟩ := hQ26
  have N26 := Fr.app N25 N26q
  replace X26 : Stand p l e R _ m args below meth c T26 _ (cells + 0) (slots + 0) := X26
  obtain ⟨T28, _, _, X28, hQ28, st28⟩ := cI X26 hx hZ hw hown (x := y41) (y := y45) 277 rfl 278 rfl 279 rfl 340 rfl 341 rfl 342 rfl 343 rfl 153 rfl 344 rfl 154 rfl (by decide) (W := 0) (r45_3 hw a16 a19 k21 a9 a10 a11 O0 H20 H22) (by show 0 + 1 ≤ R.frames; omega) (by show 0 + (2 + 11) + 0 ≤ R.locals; omega) H18 e26 (g := (mkF m 372 #[iv p1, iv p2, iv p3, iv p4, rv a5, iv p6, iv p7, rv a8, rv a9, rv a10, rv a11, rv a12, iv p13, .val .null, .val .null, iv p14, rv a15, rv a16, iv (1:Int32)] [(.int (2:Int32)), (.ref a16)])) rfl (by rw [hml]; rfl) (argsL := [(.int (2:Int32))]) (rest := []) (lenOf pd17 rfl) rfl wf (hb hby at_372) rfl (by show cells + 0 + 0 ≤ R.cells; omega) (by show slots + 0 + 0 ≤ R.slots; omega)
  obtain ⟨rfl, N28q, e28⟩ := hQ28
  have N28 := Fr.app N26 N28q
  replace X28 : Stand p l e R _ m args below meth c T28 _ (cells + 0) (slots + 0) := X28
  refine ⟨T28, _, X28.more (by omega) (by omega), e28, N28, fun target kt => ?_⟩
  show St p e below T0 m 298 #[iv p1, iv p2, iv p3, iv p4, rv a5, iv p6, iv p7, rv a8, rv a9, rv a10, rv a11, rv a12, iv p13, .val .null, .val .null, iv p14, rv a15, rv a16, un] [] _
  refine iL X0 hx hby at_298 rfl ?_
  refine XS.ifYes X0.here hx rfl (pc0 := 300) (pc' := 311) rfl (hb hby at_300) rfl ((if0 _ _).trans (feq hc17).2) (by decide) (by decide) ?_
  refine aL X0 hx hby at_311 rfl rfl ?_
  refine st23.trans ?_
  refine iL X23 hx hby at_318 rfl ?_
  refine XS.icmpYes X23.here hx rfl (pc0 := 320) (pc' := 325) rfl (hb hby at_320) rfl (teq hc24).1 (by decide) (by decide) ?_
  refine aL X23 hx hby at_325 rfl rfl ?_
  refine iC X23 hx hby at_327 ?_
  refine st25.trans ?_
  refine aL X25 hx hby at_333 rfl rfl ?_
  refine Jvm.RoadKit.acmp (g := (mkF m 335 #[iv p1, iv p2, iv p3, iv p4, rv a5, iv p6, iv p7, rv a8, rv a9, rv a10, rv a11, rv a12, iv p13, .val .null, .val .null, iv p14, rv a15, rv a16, un] [(.ref a9), (.ref a9)])) X25 hx rfl rfl rfl (pc0 := 335) (pc' := 338) (same := true) rfl (hb hby at_335) rfl (decide_eq_true rfl) (by decide) (by decide) ?_
  refine aL X25 hx hby at_338 rfl rfl ?_
  refine iC X25 hx hby at_340 ?_
  refine st26.trans ?_
  refine aL X26 hx hby at_346 rfl rfl ?_
  refine Jvm.RoadKit.acmp (g := (mkF m 348 #[iv p1, iv p2, iv p3, iv p4, rv a5, iv p6, iv p7, rv a8, rv a9, rv a10, rv a11, rv a12, iv p13, .val .null, .val .null, iv p14, rv a15, rv a16, un] [(.ref a10), (.ref a10)])) X26 hx rfl rfl rfl (pc0 := 348) (pc' := 351) (same := true) rfl (hb hby at_348) rfl (decide_eq_true rfl) (by decide) (by decide) ?_
  refine iC X26 hx hby at_351 ?_
  refine XS.goto X26.here hx rfl (pc0 := 352) (pc' := 356) rfl (hb hby at_352) (by decide) (by decide) ?_
  refine XS.istore X26.here hx rfl (hb hby at_356) rfl (l' := #[iv p1, iv p2, iv p3, iv p4, rv a5, iv p6, iv p7, rv a8, rv a9, rv a10, rv a11, rv a12, iv p13, .val .null, .val .null, iv p14, rv a15, rv a16, iv (1:Int32)]) rfl ?_
  refine iL X26 hx hby at_358 rfl ?_
  refine iC X26 hx hby at_360 ?_
  refine XS.icmpNo X26.here hx rfl (hb hby at_361) rfl (teq hc27).2 ?_
  refine iL X26 hx hby at_364 rfl ?_
  refine XS.ifNo X26.here hx rfl (hb hby at_366) rfl ((if0 _ _).trans (feq (by decide : ¬ ((1:Int32) = (0:Int32)))).1) ?_
  refine aL X26 hx hby at_369 rfl rfl ?_
  show St p e below T26 m 371 #[iv p1, iv p2, iv p3, iv p4, rv a5, iv p6, iv p7, rv a8, rv a9, rv a10, rv a11, rv a12, iv p13, .val .null, .val .null, iv p14, rv a15, rv a16, iv (1:Int32)] [(.ref a16)] _
  refine iC X26 hx hby at_371 ?_
  refine st28.trans ?_
  refine aL X28 hx hby at_377 rfl rfl ?_
  refine Jvm.RoadKit.acmp (g := (mkF m 379 #[iv p1, iv p2, iv p3, iv p4, rv a5, iv p6, iv p7, rv a8, rv a9, rv a10, rv a11, rv a12, iv p13, .val .null, .val .null, iv p14, rv a15, rv a16, iv (1:Int32)] [(.ref a11), (.ref a11)])) X28 hx rfl rfl rfl (pc0 := 379) (pc' := 382) (same := true) rfl (hb hby at_379) rfl (decide_eq_true rfl) (by decide) (by decide) ?_
  refine iC X28 hx hby at_382 ?_
  refine XS.goto X28.here hx rfl (pc0 := 383) (pc' := 387) rfl (hb hby at_383) (by decide) (by decide) ?_
  refine XS.istore X28.here hx rfl (hb hby at_387) rfl (l' := #[iv p1, iv p2, iv p3, iv p4, rv a5, iv p6, iv p7, rv a8, rv a9, rv a10, rv a11, rv a12, iv p13, .val .null, .val .null, iv p14, rv a15, rv a16, iv (1:Int32)]) rfl ?_
  refine iL X28 hx hby at_389 rfl ?_
  exact kt
theorem law_6 (l : Launch) (Z : State) (a0 : Array Value) (hw : HW a0 Z) (ws : List Jvm.Cond) (w0 w1 w2 w3 w4 w5 w6 w7 w8 w9 w10 w11 w12 w13 w14 : Addr) (k_w10 k_w11 k_w13 : ClassId) (wMir : Addr) (B : Base Z w0 w1 w2 w3 w4 w5 w6 w7 w8 w9 w10 w11 w12 w13 w14 k_w10 k_w11 k_w13 wMir) (i0 i1 i2:Int32) (h0 : Heap) (n0 : Nat) (O0 : Old Z n0 h0) (pin0 : ((i0 &&& (2147483647:Int32)) % (10:Int32)) = (4:Int32)) (pin1 : (i1 &&& (1:Int32)) = (1:Int32)) :
    MetFree l x (head1 (Jvm.Cond.code x code maxLocals ret :: ws) room_1) (fun a U => a = #[(.int i0), (.int i1), (.int i2)] ∧ Z.Warmed39 U.vm ∧ U.heap = h0) (fun _ _ _ _ _ => True) (fun _ U o U' => ∃ v L, o = .returned v ∧ lawQ n0 v U'.heap L ∧ ReturnedEndW U o U' L room_1.cells room_1.slots) := by
  refine own_in (pq pn4) #[iv i0, iv i1, iv i2, un, un, un, un, un, un, un, un, un, un, un, un, un, un, un, un] (fun _ => by first | (simp [entryFrame, mkF, argsToLocals, Value.category, maxLocals]; done) | rfl) ?_
  intro p e s m below meth c s₁ Bd hx hby hml hown hnm hZ e0 X0
  have N0 := Fr.nil n0
  skip
  obtain ⟨_, _, _, X1, hQ1, st1⟩ := cS X0 hx hZ hw hown (y := y0) 1 rfl 2 rfl 3 rfl 4 rfl (by decide) (W := 0) (r0_5 hw w2 O0 (B.1.2.2.2.2.1)) (by decide) (by decide) e0 (g := (mkF m 9 #[iv i0, iv i1, iv i2, iv (4:Int32), un, un, un, un, un, un, un, un, un, un, un, un, un, un, un] [(.int (4:Int32))])) rfl (by rw [hml]; rfl) (argsL := [(.int (4:Int32))]) (rest := []) (lenOf pd9 rfl) rfl wf (hb hby at_9) rfl (by decide) (by decide)
  obtain ⟨rfl, N1q, e1⟩ := hQ1
  have N1 := Fr.app N0 N1q
  obtain ⟨_, _, X2, e2, N2, st2⟩ := g1_14 i0 i1 i2 (4:Int32) w2 ⟨X1, hx, hZ, hw, hby, hml, hown, e1, O0, N1, by decide, by decide, by decide, by decide⟩ (by decide) (by decide)
  obtain ⟨_, h3, _, vm3, b3_0, b3_1, b3_2, b3_3, b3_4, X3, e3, hSq3, N3, K3, _, _, _, _, lo3_5, _, _, _, _, _, _, nq3_12, _, nq3_14, nq3_15, _, _, _, _, f3_20, _, _, f3_23, f3_24, _, _, f3_27, f3_28, _, _, f3_31, f3_32, f3_33, f3_34, f3_35, st3⟩ := g1_2 i0 i1 i2 (4:Int32) w2 (1:Int32) (0:Int32) w11 w1 w12 ⟨X2, hx, hZ, hw, hby, hml, hown, e2, O0, N2, by decide, by decide, by decide, by decide⟩ (B.2.1.2.2.2.2.2.2.2.2.2.2.1) (B.1.2.2.1) (B.2.2.1.1)
  obtain ⟨Y3, hS3, hZ3, hown3⟩ := rebS (s := s) (vm0 := s.vm) (State.WarmedH.since (State.WarmedH.refl s) 0) (Nat.zero_le _) X3 hSq3 K3.1 hZ hown
  have O_K3 : Old Z n0 h3 := O0.keep K3 all0
  have g4 : n0 ≤ b3_4 := Nat.le_trans (Nat.le_trans (Nat.le_of_eq O0.1.symm) O0.2.1) lo3_5
  obtain ⟨_, h5, _, b5_0, k5_0, X5, e5, N5, K5, _, f5_2, f5_3, f5_4, f5_5, f5_6, f5_7, _, st5⟩ := g1_18 i0 i1 i2 (4:Int32) w2 (1:Int32) (0:Int32) b3_0 b3_1 b3_2 b3_3 b3_4 (0:Int32) w11 k_w11 ⟨Y3, hx, hZ3, hw, hby, hml, hown3, e3, O_K3, N3, by decide, by decide, by decide, by decide⟩ (by decide) pin1 f3_32 f3_33 g4 f3_34 f3_35 (B.2.2.2.1.2.2.2.2.2.2.2.1) (B.2.1.2.2.2.2.2.2.2.2.2.2.1) f3_20 f3_24 f3_28
  have O_K5 : Old Z n0 h5 := O_K3.keep K5 (allS g4 all0)
  obtain ⟨_, _, X7, e7, N7, st7⟩ := g1_4 i0 i1 i2 (4:Int32) w2 (1:Int32) (0:Int32) b3_0 b3_1 b3_2 b3_3 b3_4 (3:Int32) ⟨X5, hx, hZ3, hw, hby, hml, hown3, e5, O_K5, N5, by decide, by decide, by decide, by decide⟩ (by decide)
  obtain ⟨_, _, X8, e8, N8, st8⟩ := g1_5 i0 i1 i2 (4:Int32) w2 (1:Int32) (0:Int32) b3_0 b3_1 b3_2 b3_3 b3_4 (3:Int32) ⟨X7, hx, hZ3, hw, hby, hml, hown3, e7, O_K5, N7, by decide, by decide, by decide, by decide⟩ (by decide) (by decide)
  obtain ⟨_, _, X9, e9, N9, st9⟩ := g1_6 i0 i1 i2 (4:Int32) w2 (1:Int32) (0:Int32) b3_0 b3_1 b3_2 b3_3 b3_4 (3:Int32) ⟨X8, hx, hZ3, hw, hby, hml, hown3, e8, O_K5, N8, by decide, by decide, by decide, by decide⟩ (by decide) (by decide) (by decide) (by decide)
  have f10 := (f3_20.keep K5)
  have f11 := (f3_24.keep K5)
  have f12 := (f3_28.keep K5)
  have f13 := (f3_23.keep K5 (ninS nq3_12 nin0))
  have f14 := (f3_27.keep K5 (ninS nq3_14 nin0))
  have f15 := (f3_31.keep K5 (ninS nq3_15 nin0))
  obtain ⟨_, h16, _, b16_0, b16_1, b16_2, k16_0, X16, e16, N16, K16, _, _, _, _, _, _, _, _, _, _, f16_11, f16_12, _, f16_14, _, _, st16⟩ := g1_19 i0 i1 i2 (4:Int32) w2 (1:Int32) (0:Int32) b3_0 b3_1 b3_2 b3_3 b3_4 (3:Int32) (0:Int32) b5_0 wMir k5_0 b3_1 b3_2 b3_3 ⟨X9, hx, hZ3, hw, hby, hml, hown3, e9, O_K5, N9, by decide, by decide, by decide, by decide⟩ f5_2 f5_5 f5_4 f5_7 (B.2.2.2.2.2.2.2.2.2.2.2.2.2.2.2) f5_6 f10 f11 f12 f5_3 f13 f14 f15 (B.1.2.2.2.2.1)
  have O_K16 : Old Z n0 h16 := O_K5.keep K16 all0
  obtain ⟨T17, _, X17, e17, N17, st17⟩ := g1_20 i0 i1 i2 (4:Int32) w2 (1:Int32) (0:Int32) b3_0 b3_1 b3_2 b3_3 b3_4 (3:Int32) (0:Int32) b16_0 b16_1 b16_2 k16_0 ⟨X16, hx, hZ3, hw, hby, hml, hown3, e16, O_K16, N16, by decide, by decide, by decide, by decide⟩ (by decide) f16_11 f16_12 f16_14 (by decide) (by decide)
  obtain ⟨_, hr, hrun, hended, hE⟩ := Stand.leaveW (s := s) (vm₁ := vm3) X17 hS3 (by rw [e17]; exact (Nat.le_trans (Nat.le_trans (Nat.le_refl _) K5.1) K16.1)) (v := some (.int (1:Int32))) (fun h => by rw [Bd.returns] at h; cases h)
  refine ⟨_, _, ?_, hrun, hended, _, _, rfl, ?_, hE.1, hE.2.1, hE.2.2.1, hE.2.2.2.mono (by decide) (by decide)⟩
  · show St p e below s₁ m 0 #[iv i0, iv i1, iv i2, un, un, un, un, un, un, un, un, un, un, un, un, un, un, un, un] [] _
    refine iN X0 hx hby at_0 rfl ?_
    refine X0.ldcInt hx hown (mo hZ hw 0 rfl) (g := (mkF m 1 #[iv i0, iv i1, iv i2, un, un, un, un, un, un, un, un, un, un, un, un, un, un, un, un] [(.int i0)])) rfl (hb hby at_1) _ ?_
    refine XS.iand X0.here hx rfl (hb hby at_3) rfl ?_
    refine XS.bipush X0.here hx rfl (hb hby at_4) ?_
    refine Jvm.RoadKit.iremM (g := (mkF m 6 #[iv i0, iv i1, iv i2, un, un, un, un, un, un, un, un, un, un, un, un, un, un, un, un] [(.int (10:Int32)), (.int (i0 &&& (2147483647:Int32)))])) X0 hx rfl (hb hby at_6) rfl (by decide : ¬ ((10:Int32) = (0:Int32))) ?_
    show St p e below s₁ m 7 #[iv i0, iv i1, iv i2, un, un, un, un, un, un, un, un, un, un, un, un, un, un, un, un] [(.int ((i0 &&& (2147483647:Int32)) % (10:Int32)))] _
    rw [pin0]
    refine XS.istoreN X0.here hx rfl (hb hby at_7) rfl (l' := #[iv i0, iv i1, iv i2, iv (4:Int32), un, un, un, un, un, un, un, un, un, un, un, un, un, un, un]) rfl ?_
    refine iN X0 hx hby at_8 rfl ?_
    refine st1 _ ?_
    refine XS.astore X1.here hx rfl (hb hby at_12) rfl rfl (l' := #[iv i0, iv i1, iv i2, iv (4:Int32), rv w2, un, un, un, un, un, un, un, un, un, un, un, un, un, un]) rfl ?_
    refine st2 _ ?_
    refine st3 _ ?_
    refine st5 _ ?_
    refine st7 _ ?_
    refine st8 _ ?_
    refine st9 _ ?_
    refine st16 _ ?_
    refine st17 _ ?_
    exact retN X17 hx (t := .boolean) Bd.returns (by simp) (hb hby at_391) hr
  · show lawQ n0 _ T17.heap _
    rw [e17]
    exact ⟨rfl, N17⟩
theorem d0_44 : dk method_2_code 44 (.iload_n 0) 1 := by decide +kernel
theorem d0_45 : dk method_2_code 45 (.iconst 5) 1 := by decide +kernel
theorem d0_46 : dk method_2_code 46 (.if_icmp .ne 7) 3 := by decide +kernel
theorem d0_49 : dk method_2_code 49 (.getstatic 25) 3 := by decide +kernel
theorem d0_52 : dk method_2_code 52 .areturn 1 := by decide +kernel
def r0_6Q (Z : State) (a1 : Addr) (h0 : Heap) (n0 : Nat) : QT := fun v h L => v = some (.ref a1) ∧ Fr n0 L ∧ h = h0
theorem r0_6 (hw : HW a0 Z) (a1 : Addr) (O0 : Old Z n0 h0) (H2 : Sta Z Z.heap "tabula/engine/Concept$Kind" "OR" "Ltabula/engine/Concept$Kind;" (.ref a1)) :
    MF l y0 method_2_code 1 (some (.object "tabula/engine/Concept$Kind")) [] (rM 0 0 0 0) Z #[(.int (5:Int32))] h0 (r0_6Q Z a1 h0 n0) := by
  refine own_in (pq pn4) #[iv (5:Int32)] (fun _ => by first | (simp [entryFrame, mkF, argsToLocals, Value.category]; done) | rfl) ?_
  intro p e s m below meth c s₁ Bd hx hby hml hown hnm hZ e0 X0
  have N0 := Fr.nil n0
  obtain ⟨_, X3, e3, st3⟩ := getS2 X0 hx hZ hown (host := "") (Or.inl (ow hw 285 rfl)) Via.refl e0 (H2.ext O0.2) (g := (mkF m 49 #[iv (5:Int32)] [])) rfl (hb hby d0_49)
  refine fin (Q := r0_6Q Z a1 h0 n0) (rm := (rM 0 0 0 0)) Bd X3 e3 (some (.ref a1)) nofun ⟨rfl, N0, rfl⟩ (by decide) (by decide) fun fs hr => ?_
  show St p e below s₁ m 0 #[iv (5:Int32)] [] _
  refine iN X0 hx hby d0_0 rfl ?_
  refine XS.ifYes X0.here hx rfl (pc0 := 1) (pc' := 8) rfl (hb hby d0_1) rfl ((if0 _ _).trans (feq (by decide : ¬ ((5:Int32) = (0:Int32)))).2) (by decide) (by decide) ?_
  refine iN X0 hx hby d0_8 rfl ?_
  refine iC X0 hx hby d0_9 ?_
  refine XS.icmpYes X0.here hx rfl (pc0 := 10) (pc' := 17) rfl (hb hby d0_10) rfl (feq (by decide : ¬ ((5:Int32) = (1:Int32)))).2 (by decide) (by decide) ?_
  refine iN X0 hx hby d0_17 rfl ?_
  refine iC X0 hx hby d0_18 ?_
  refine XS.icmpYes X0.here hx rfl (pc0 := 19) (pc' := 26) rfl (hb hby d0_19) rfl (feq (by decide : ¬ ((5:Int32) = (2:Int32)))).2 (by decide) (by decide) ?_
  refine iN X0 hx hby d0_26 rfl ?_
  refine iC X0 hx hby d0_27 ?_
  refine XS.icmpYes X0.here hx rfl (pc0 := 28) (pc' := 35) rfl (hb hby d0_28) rfl (feq (by decide : ¬ ((5:Int32) = (3:Int32)))).2 (by decide) (by decide) ?_
  refine iN X0 hx hby d0_35 rfl ?_
  refine iC X0 hx hby d0_36 ?_
  refine XS.icmpYes X0.here hx rfl (pc0 := 37) (pc' := 44) rfl (hb hby d0_37) rfl (feq (by decide : ¬ ((5:Int32) = (4:Int32)))).2 (by decide) (by decide) ?_
  refine iN X0 hx hby d0_44 rfl ?_
  refine iC X0 hx hby d0_45 ?_
  refine XS.icmpNo X0.here hx rfl (hb hby d0_46) rfl (teq (rfl : (5:Int32) = (5:Int32))).2 ?_
  refine st3 _ ?_
  exact retA X3 hx Bd.returns rfl rfl (hb hby d0_52) hr
theorem g1_21 (p1 p2 p3 p4:Int32) (a5 : Addr)
    (H0 : SG p l e R s m args below meth c T0 locs cells slots Z a0 h0 n0 0 0 0 0) (hc6 : ¬ (p4 = (4:Int32))) (hc7 : p4 = (5:Int32)) (hc8 : p4 < (6:Int32)) :
    ∃ (T' : State) (L' : List Loc), Stand p l e R s m args below meth c T' L' (cells + 0) (slots + 0) ∧ T'.heap = h0 ∧ Fr n0 L' ∧
      ∀ target, St p e below T' m 44 #[iv p1, iv p2, iv p3, iv p4, rv a5, iv (1:Int32), iv (0:Int32), un, un, un, un, un, un, un, un, un, un, un, un] [] target → St p e below T0 m 14 #[iv p1, iv p2, iv p3, iv p4, rv a5, un, un, un, un, un, un, un, un, un, un, un, un, un, un] [] target := by
  obtain ⟨X0, hx, hZ, hw, hby, hml, hown, e0, O0, N0, rc, rs, rf, rl⟩ := H0
  refine ⟨T0, _, X0.more (by omega) (by omega), e0, N0, fun target kt => ?_⟩
  show St p e below T0 m 14 #[iv p1, iv p2, iv p3, iv p4, rv a5, un, un, un, un, un, un, un, un, un, un, un, un, un, un] [] _
  refine iN X0 hx hby at_14 rfl ?_
  refine iC X0 hx hby at_15 ?_
  refine XS.icmpNo X0.here hx rfl (hb hby at_16) rfl (feq hc6).1 ?_
  refine iN X0 hx hby at_19 rfl ?_
  refine iC X0 hx hby at_20 ?_
  refine XS.icmpNo X0.here hx rfl (hb hby at_21) rfl (teq hc7).2 ?_
  refine iC X0 hx hby at_24 ?_
  refine XS.goto X0.here hx rfl (pc0 := 25) (pc' := 29) rfl (hb hby at_25) (by decide) (by decide) ?_
  refine XS.istore X0.here hx rfl (hb hby at_29) rfl (l' := #[iv p1, iv p2, iv p3, iv p4, rv a5, iv (1:Int32), un, un, un, un, un, un, un, un, un, un, un, un, un]) rfl ?_
  refine iN X0 hx hby at_31 rfl ?_
  refine XS.bipush X0.here hx rfl (hb hby at_32) ?_
  refine XS.icmpYes X0.here hx rfl (pc0 := 34) (pc' := 41) rfl (hb hby at_34) rfl (tlt hc8).1 (by decide) (by decide) ?_
  refine iC X0 hx hby at_41 ?_
  refine XS.istore X0.here hx rfl (hb hby at_42) rfl (l' := #[iv p1, iv p2, iv p3, iv p4, rv a5, iv (1:Int32), iv (0:Int32), un, un, un, un, un, un, un, un, un, un, un, un]) rfl ?_
  exact kt
def r17_3Q (Z : State) (a1 a2 a5 a12 : Addr) (h0 : Heap) (n0 : Nat) : QT := fun v h L => v = some (.ref a12) ∧ Fr n0 L ∧ h = h0
theorem r17_3 (hw : HW a0 Z) (a1 a2 a5 a12 : Addr) (O0 : Old Z n0 h0) (H3 : xF6 Z h0 a1 (.ref a2)) (H6 : Sta Z Z.heap "tabula/engine/Concept$Kind" "AND" "Ltabula/engine/Concept$Kind;" (.ref a5)) (H8 : a2 ≠ a5) (H10 : Sta Z Z.heap "tabula/engine/Concept$Kind" "OR" "Ltabula/engine/Concept$Kind;" (.ref a2)) (H13 : xF10 Z h0 a1 (.ref a12)) :
    MF l y17 cP16_8 1 (some (.object "java/util/List")) [] (rM 0 0 0 0) Z #[(.ref a1)] h0 (r17_3Q Z a1 a2 a5 a12 h0 n0) := by
  refine own_in (pq pn9) #[rv a1] (fun _ => by first | (simp [entryFrame, mkF, argsToLocals, Value.category]; done) | rfl) ?_
  intro p e s m below meth c s₁ Bd hx hby hml hown hnm hZ e0 X0
  have N0 := Fr.nil n0
  obtain ⟨_, X4, e4, st4⟩ := gF X0 hx hZ hown (ow hw 53 rfl) e0 H3 (g := (mkF m 1 #[rv a1] [(.ref a1)])) rfl rfl (hb hby d17_1)
  obtain ⟨_, X7, e7, st7⟩ := getS2 X4 hx hZ hown (host := "") (Or.inl (ow hw 141 rfl)) Via.refl e4 (H6.ext O0.2) (g := (mkF m 4 #[rv a1] [(.ref a2)])) rfl (hb hby d17_4)
  obtain ⟨_, X9, e9, st9⟩ := gF X7 hx hZ hown (ow hw 53 rfl) e7 H3 (g := (mkF m 11 #[rv a1] [(.ref a1)])) rfl rfl (hb hby d17_11)
  obtain ⟨_, X11, e11, st11⟩ := getS2 X9 hx hZ hown (host := "") (Or.inl (ow hw 143 rfl)) Via.refl e9 (H10.ext O0.2) (g := (mkF m 14 #[rv a1] [(.ref a2)])) rfl (hb hby d17_14)
  obtain ⟨_, X14, e14, st14⟩ := gF X11 hx hZ hown (ow hw 90 rfl) e11 H13 (g := (mkF m 21 #[rv a1] [(.ref a1)])) rfl rfl (hb hby d17_21)
  refine fin (Q := r17_3Q Z a1 a2 a5 a12 h0 n0) (rm := (rM 0 0 0 0)) Bd X14 e14 (some (.ref a12)) nofun ⟨rfl, N0, rfl⟩ (by decide) (by decide) fun fs hr => ?_
  show St p e below s₁ m 0 #[rv a1] [] _
  refine aN X0 hx hby d17_0 rfl rfl ?_
  refine st4 _ ?_
  refine st7 _ ?_
  refine Jvm.RoadKit.acmp (g := (mkF m 7 #[rv a1] [(.ref a5), (.ref a2)])) X7 hx rfl rfl rfl (pc0 := 7) (pc' := 10) (same := false) rfl (hb hby d17_7) rfl (decide_eq_false fun q => H8 (Value.ref.inj q)) (by decide) (by decide) ?_
  refine aN X7 hx hby d17_10 rfl rfl ?_
  refine st9 _ ?_
  refine st11 _ ?_
  refine Jvm.RoadKit.acmp (g := (mkF m 17 #[rv a1] [(.ref a2), (.ref a2)])) X11 hx rfl rfl rfl (pc0 := 17) (pc' := 20) (same := true) rfl (hb hby d17_17) rfl (decide_eq_true rfl) (by decide) (by decide) ?_
  refine aN X11 hx hby d17_20 rfl rfl ?_
  refine st14 _ ?_
  refine XS.goto X14.here hx rfl (pc0 := 24) (pc' := 30) rfl (hb hby d17_24) (by decide) (by decide) ?_
  exact retA X14 hx Bd.returns rfl rfl (hb hby d17_30) hr
theorem g1_22 (p1 p2 p3 p4:Int32) (a5 : Addr) (p6 p7:Int32) (a8 a9 a10 a11 a12 : Addr) (p13 p14:Int32) (a27 a32 : Addr) (k34 : ClassId) (a35 a36 a56 : Addr)
    (H0 : SG p l e R s m args below meth c T0 locs cells slots Z a0 h0 n0 4 16 9 124) (H22 : xE1 Z h0 a12) (H24 : xF3 Z h0 a12 (.int (2:Int32))) (H28 : xF2 Z h0 a12 (.ref a27)) (H30 : xE19 Z h0 a27) (H33 : Mi Z "[Ljava/lang/Object;" a32) (H37 : Arv Z h0 a27 k34 (.object "java/lang/Object") (10:Int32) [(.ref a35), (.ref a36), .null, .null, .null, .null, .null, .null, .null, .null] .null) (H40 : xE5 Z h0 a35) (H42 : xE5 Z h0 a36) (H45 : xF0 Z h0 a12 (.int (2:Int32))) (H47 : xF16 Z h0 a35 (.int (0:Int32))) (H50 : xF16 Z h0 a36 (.int (0:Int32))) (H57 : Sta Z Z.heap "tabula/engine/Concept$Kind" "AND" "Ltabula/engine/Concept$Kind;" (.ref a56)) (H58 : a5 ≠ a56) (H59 : Sta Z Z.heap "tabula/engine/Concept$Kind" "OR" "Ltabula/engine/Concept$Kind;" (.ref a5)) :
    ∃ (T' : State) (h' : Heap) (L' : List Loc) (b15 b54_0 : Addr), Stand p l e R s m args below meth c T' L' (cells + 4) (slots + 16) ∧ T'.heap = h' ∧ Fr n0 L' ∧ Keep h0 h' [] ∧ h0.size ≤ b15 ∧ h0.size ≤ b54_0 ∧ b15 ≠ b54_0 ∧ xE5 Z h' b15 ∧ xF6 Z h' b15 (.ref a5) ∧ xF10 Z h' b15 (.ref b54_0) ∧ xF16 Z h' b15 (.int (0:Int32)) ∧ xE21 Z h' b54_0 ∧ xF20 Z h' b54_0 (.ref a35) ∧ xF22 Z h' b54_0 (.ref a36) ∧
      ∀ target, St p e below T' m 298 #[iv p1, iv p2, iv p3, iv p4, rv a5, iv p6, iv p7, rv a8, rv a9, rv a10, rv a11, rv a12, iv p13, .val .null, .val .null, iv p14, rv b15, rv b54_0, un] [] target → St p e below T0 m 271 #[iv p1, iv p2, iv p3, iv p4, rv a5, iv p6, iv p7, rv a8, rv a9, rv a10, rv a11, rv a12, iv p13, .val .null, .val .null, iv p14, un, un, un] [] target := by
  obtain ⟨X0, hx, hZ, hw, hby, hml, hown, e0, O0, N0, rc, rs, rf, rl⟩ := H0
  obtain ⟨_, h15, X15, e15, E15, A15, D15, -, st15⟩ := newO X0 hx hZ hown (ow hw 34 rfl) (ow hw 35 rfl) (ow hw 36 rfl) e0 (g := (mkF m 271 #[iv p1, iv p2, iv p3, iv p4, rv a5, iv p6, iv p7, rv a8, rv a9, rv a10, rv a11, rv a12, iv p13, .val .null, .val .null, iv p14, un, un, un] [])) rfl (hb hby at_271) (by omega) (by omega)
  obtain ⟨b15, g15⟩ : ∃ z, z = h0.size := ⟨_, rfl⟩
  rw [← g15] at A15 D15 st15
  have O_E15 : Old Z n0 h15 := O0.ext E15
  have Kp_E15 : Keep h0 h15 [] := (Keep.refl h0 []).ext E15
  have f16 : xF4 Z h15 b15 (.int (0:Int32)) := D15 (Or.inr (ow hw 52 rfl)) (ty := .int) (by decide)
  have g17 : n0 ≤ b15 := Nat.le_trans (Nat.le_trans (Nat.le_of_eq O0.1.symm) O0.2.1) (Nat.le_of_eq g15.symm)
  have f18 : xF6 Z h15 b15 .null := D15 (Or.inr (ow hw 54 rfl)) (ty := (.object "tabula/engine/Concept$Kind")) (by decide)
  have f19 : xF7 Z h15 b15 .null := D15 (Or.inr (ow hw 56 rfl)) (ty := (.object "java/lang/String")) (by decide)
  have f20 : xF8 Z h15 b15 .null := D15 (Or.inr (ow hw 58 rfl)) (ty := (.object "tabula/engine/Role")) (by decide)
  have f21 : xF9 Z h15 b15 (.int (0:Int32)) := D15 (Or.inr (ow hw 60 rfl)) (ty := .int) (by decide)
  have f23 := (H22.ext E15)
  have f25 := (H24.ext E15)
  have ne26 : a12 ≠ b15 := Nat.ne_of_lt (Nat.lt_of_lt_of_le H22.lt (Nat.le_of_eq g15.symm))
  have f29 := (H28.ext E15)
  have f31 := (H30.ext E15)
  have f38 := (H37.ext E15)
  have ne39 : a27 ≠ b15 := Nat.ne_of_lt (Nat.lt_of_lt_of_le H30.lt (Nat.le_of_eq g15.symm))
  have f41 := (H40.ext E15)
  have f43 := (H42.ext E15)
  have f44 : xF10 Z h15 b15 .null := D15 (Or.inr (ow hw 91 rfl)) (ty := (.object "java/util/List")) (by decide)
  have f46 := (H45.ext E15)
  have f48 := (H47.ext E15)
  have ne49 : a35 ≠ b15 := Nat.ne_of_lt (Nat.lt_of_lt_of_le H40.lt (Nat.le_of_eq g15.symm))
  have f51 := (H50.ext E15)
  have ne52 : a36 ≠ b15 := Nat.ne_of_lt (Nat.lt_of_lt_of_le H42.lt (Nat.le_of_eq g15.symm))
  have f53 : xF16 Z h15 b15 (.int (0:Int32)) := D15 (Or.inr (ow hw 130 rfl)) (ty := .boolean) (by decide)
  obtain ⟨T54, _, _, X54, hQ54, st54⟩ := cP X15 hx hZ hw hown (y := y5) rfl 47 rfl 48 rfl 49 rfl 36 rfl (by decide) (W := 1) (r5_3 hw b15 (3:Int32) a5 p14 a12 a27 a32 k34 a35 a36 O_E15 f16 A15 g17 f18 f19 f20 f21 f23 f25 ne26 f29 f31 H33 f38 ne39 f41 f43 f44 f46 f48 ne49 f51 ne52 f53) (by show 8 + 1 ≤ R.frames; omega) (by show 1 + (10 + 11) + 102 ≤ R.locals; omega) e15 (g := (mkF m 286 #[iv p1, iv p2, iv p3, iv p4, rv a5, iv p6, iv p7, rv a8, rv a9, rv a10, rv a11, rv a12, iv p13, .val .null, .val .null, iv p14, un, un, un] [(.ref a12), (.int p14), .null, .null, (.ref a5), (.int (3:Int32)), (.ref b15), (.ref b15)])) rfl (by rw [hml]; rfl) (argsL := [(.int (3:Int32)), (.ref a5), .null, .null, (.int p14), (.ref a12)]) (rest := [(.ref b15)]) (lenOf pd0 rfl) rfl wf (hb hby at_286) rfl (by show cells + 1 + 3 ≤ R.cells; omega) (by show slots + 8 + 8 ≤ R.slots; omega)
  obtain ⟨b54_0, rfl, N54q, K54, lo54_1, f54_2, f54_3, f54_4, f54_5, f54_6, f54_7, f54_8⟩ := hQ54
  have N54 := Fr.app N0 N54q
  have z55 : h0.size ≤ b15 := Nat.le_trans (Keep.refl h0 []).1 (Nat.le_of_eq g15.symm)
  have O_K54 : Old Z n0 T54.heap := O_E15.keep K54 (allS g17 all0)
  have Kp_K54 : Keep h0 T54.heap [] := Kp_E15.trans K54 (allS (Or.inr z55) all0)
  replace X54 : Stand p l e R _ m args below meth c T54 _ (cells + 4) (slots + 16) := X54
  obtain ⟨T60, _, _, X60, hQ60, st60⟩ := cV X54 hx hZ hw hown (y := y17) 136 rfl 137 rfl 139 rfl 138 rfl 140 rfl 36 rfl (by decide) (W := 0) (r17_3 hw b15 a5 a56 b54_0 O_K54 f54_3 H57 H58 H59 f54_4) (by show 0 + 1 ≤ R.frames; omega) (by show 0 + (1 + 11) + 0 ≤ R.locals; omega) f54_2 rfl (g := (mkF m 293 #[iv p1, iv p2, iv p3, iv p4, rv a5, iv p6, iv p7, rv a8, rv a9, rv a10, rv a11, rv a12, iv p13, .val .null, .val .null, iv p14, rv b15, un, un] [(.ref b15)])) rfl (by rw [hml]; rfl) (argsL := []) (rest := []) (lenOf pd20 rfl) rfl wf (hb hby at_293) rfl (by show cells + 4 + 0 ≤ R.cells; omega) (by show slots + 16 + 0 ≤ R.slots; omega)
  obtain ⟨rfl, N60q, e60⟩ := hQ60
  have N60 := Fr.app N54 N60q
  replace X60 : Stand p l e R _ m args below meth c T60 _ (cells + 4) (slots + 16) := X60
  have z61 : h0.size ≤ b54_0 := Nat.le_trans Kp_E15.1 lo54_1
  have ne62 : b15 ≠ b54_0 := Nat.ne_of_lt (Nat.lt_of_lt_of_le A15.lt lo54_1)
  refine ⟨T60, _, _, b15, b54_0, X60.more (by omega) (by omega), e60, N60, Kp_K54, z55, z61, ne62, f54_2, f54_3, f54_4, f54_5, f54_6, f54_7, f54_8, fun target kt => ?_⟩
  show St p e below T0 m 271 #[iv p1, iv p2, iv p3, iv p4, rv a5, iv p6, iv p7, rv a8, rv a9, rv a10, rv a11, rv a12, iv p13, .val .null, .val .null, iv p14, un, un, un] [] _
  refine st15 _ ?_
  refine XS.dup X15.here hx rfl (hb hby at_274) rfl rfl ?_
  refine iC X15 hx hby at_275 ?_
  refine aL X15 hx hby at_276 rfl rfl ?_
  refine aL X15 hx hby at_278 rfl rfl ?_
  refine aL X15 hx hby at_280 rfl rfl ?_
  refine iL X15 hx hby at_282 rfl ?_
  refine aL X15 hx hby at_284 rfl rfl ?_
  refine st54.trans ?_
  refine XS.astore X54.here hx rfl (hb hby at_289) rfl rfl (l' := #[iv p1, iv p2, iv p3, iv p4, rv a5, iv p6, iv p7, rv a8, rv a9, rv a10, rv a11, rv a12, iv p13, .val .null, .val .null, iv p14, rv b15, un, un]) rfl ?_
  refine aL X54 hx hby at_291 rfl rfl ?_
  refine st60.trans ?_
  refine XS.astore X60.here hx rfl (hb hby at_296) rfl rfl (l' := #[iv p1, iv p2, iv p3, iv p4, rv a5, iv p6, iv p7, rv a8, rv a9, rv a10, rv a11, rv a12, iv p13, .val .null, .val .null, iv p14, rv b15, rv b54_0, un]) rfl ?_
  exact kt
theorem law_7 (l : Launch) (Z : State) (a0 : Array Value) (hw : HW a0 Z) (ws : List Jvm.Cond) (w0 w1 w2 w3 w4 w5 w6 w7 w8 w9 w10 w11 w12 w13 w14 : Addr) (k_w10 k_w11 k_w13 : ClassId) (wMir : Addr) (B : Base Z w0 w1 w2 w3 w4 w5 w6 w7 w8 w9 w10 w11 w12 w13 w14 k_w10 k_w11 k_w13 wMir) (i0 i1 i2:Int32) (h0 : Heap) (n0 : Nat) (O0 : Old Z n0 h0) (pin0 : ((i0 &&& (2147483647:Int32)) % (10:Int32)) = (5:Int32)) (pin1 : (i1 &&& (1:Int32)) = (0:Int32)) :
    MetFree l x (head1 (Jvm.Cond.code x code maxLocals ret :: ws) room_1) (fun a U => a = #[(.int i0), (.int i1), (.int i2)] ∧ Z.Warmed39 U.vm ∧ U.heap = h0) (fun _ _ _ _ _ => True) (fun _ U o U' => ∃ v L, o = .returned v ∧ lawQ n0 v U'.heap L ∧ ReturnedEndW U o U' L room_1.cells room_1.slots) := by
  refine own_in (pq pn4) #[iv i0, iv i1, iv i2, un, un, un, un, un, un, un, un, un, un, un, un, un, un, un, un] (fun _ => by first | (simp [entryFrame, mkF, argsToLocals, Value.category, maxLocals]; done) | rfl) ?_
  intro p e s m below meth c s₁ Bd hx hby hml hown hnm hZ e0 X0
  have N0 := Fr.nil n0
  skip
  obtain ⟨_, _, _, X1, hQ1, st1⟩ := cS X0 hx hZ hw hown (y := y0) 1 rfl 2 rfl 3 rfl 4 rfl (by decide) (W := 0) (r0_6 hw w3 O0 (B.1.2.2.2.2.2.2.1)) (by decide) (by decide) e0 (g := (mkF m 9 #[iv i0, iv i1, iv i2, iv (5:Int32), un, un, un, un, un, un, un, un, un, un, un, un, un, un, un] [(.int (5:Int32))])) rfl (by rw [hml]; rfl) (argsL := [(.int (5:Int32))]) (rest := []) (lenOf pd9 rfl) rfl wf (hb hby at_9) rfl (by decide) (by decide)
  obtain ⟨rfl, N1q, e1⟩ := hQ1
  have N1 := Fr.app N0 N1q
  obtain ⟨_, _, X2, e2, N2, st2⟩ := g1_21 i0 i1 i2 (5:Int32) w3 ⟨X1, hx, hZ, hw, hby, hml, hown, e1, O0, N1, by decide, by decide, by decide, by decide⟩ (by decide) (by decide) (by decide)
  obtain ⟨_, h3, _, vm3, b3_0, b3_1, b3_2, b3_3, b3_4, X3, e3, hSq3, N3, K3, _, _, lo3_3, _, lo3_5, _, _, _, _, _, _, nq3_12, _, nq3_14, _, _, _, _, _, f3_20, _, _, f3_23, f3_24, _, _, f3_27, _, _, _, _, f3_32, f3_33, f3_34, f3_35, st3⟩ := g1_2 i0 i1 i2 (5:Int32) w3 (1:Int32) (0:Int32) w11 w1 w12 ⟨X2, hx, hZ, hw, hby, hml, hown, e2, O0, N2, by decide, by decide, by decide, by decide⟩ (B.2.1.2.2.2.2.2.2.2.2.2.2.1) (B.1.2.2.1) (B.2.2.1.1)
  obtain ⟨Y3, hS3, hZ3, hown3⟩ := rebS (s := s) (vm0 := s.vm) (State.WarmedH.since (State.WarmedH.refl s) 0) (Nat.zero_le _) X3 hSq3 K3.1 hZ hown
  have O_K3 : Old Z n0 h3 := O0.keep K3 all0
  have g4 : n0 ≤ b3_4 := Nat.le_trans (Nat.le_trans (Nat.le_of_eq O0.1.symm) O0.2.1) lo3_5
  obtain ⟨_, h5, _, b5_0, k5_0, X5, e5, N5, K5, _, f5_2, f5_3, f5_4, f5_5, f5_6, f5_7, _, st5⟩ := g1_15 i0 i1 i2 (5:Int32) w3 (1:Int32) (0:Int32) b3_0 b3_1 b3_2 b3_3 b3_4 (0:Int32) w11 k_w11 ⟨Y3, hx, hZ3, hw, hby, hml, hown3, e3, O_K3, N3, by decide, by decide, by decide, by decide⟩ (by decide) pin1 f3_32 f3_33 g4 f3_34 f3_35 (B.2.2.2.1.2.2.2.2.2.2.2.1) (B.2.1.2.2.2.2.2.2.2.2.2.2.1) f3_20 f3_24
  have O_K5 : Old Z n0 h5 := O_K3.keep K5 (allS g4 all0)
  obtain ⟨_, _, X7, e7, N7, st7⟩ := g1_4 i0 i1 i2 (5:Int32) w3 (1:Int32) (0:Int32) b3_0 b3_1 b3_2 b3_3 b3_4 (2:Int32) ⟨X5, hx, hZ3, hw, hby, hml, hown3, e5, O_K5, N5, by decide, by decide, by decide, by decide⟩ (by decide)
  obtain ⟨_, _, X8, e8, N8, st8⟩ := g1_5 i0 i1 i2 (5:Int32) w3 (1:Int32) (0:Int32) b3_0 b3_1 b3_2 b3_3 b3_4 (2:Int32) ⟨X7, hx, hZ3, hw, hby, hml, hown3, e7, O_K5, N7, by decide, by decide, by decide, by decide⟩ (by decide) (by decide)
  obtain ⟨_, _, X9, e9, N9, st9⟩ := g1_6 i0 i1 i2 (5:Int32) w3 (1:Int32) (0:Int32) b3_0 b3_1 b3_2 b3_3 b3_4 (2:Int32) ⟨X8, hx, hZ3, hw, hby, hml, hown3, e8, O_K5, N8, by decide, by decide, by decide, by decide⟩ (by decide) (by decide) (by decide) (by decide)
  have f10 := (f3_20.keep K5)
  have f11 := (f3_24.keep K5)
  have f12 := (f3_23.keep K5 (ninS nq3_12 nin0))
  have f13 := (f3_27.keep K5 (ninS nq3_14 nin0))
  obtain ⟨_, h14, _, b14_0, b14_1, X14, e14, N14, K14, _, _, _, _, _, _, _, f14_8, f14_9, f14_10, st14⟩ := g1_22 i0 i1 i2 (5:Int32) w3 (1:Int32) (0:Int32) b3_0 b3_1 b3_2 b3_3 b3_4 (2:Int32) (0:Int32) b5_0 wMir k5_0 b3_1 b3_2 w2 ⟨X9, hx, hZ3, hw, hby, hml, hown3, e9, O_K5, N9, by decide, by decide, by decide, by decide⟩ f5_2 f5_5 f5_4 f5_7 (B.2.2.2.2.2.2.2.2.2.2.2.2.2.2.2) f5_6 f10 f11 f5_3 f12 f13 (B.1.2.2.2.2.1) (Ne.symm B.2.2.2.2.2.2.1.1) (B.1.2.2.2.2.2.2.1)
  have O_K14 : Old Z n0 h14 := O_K5.keep K14 all0
  have g15 : n0 ≤ b3_2 := Nat.le_trans (Nat.le_trans (Nat.le_of_eq O0.1.symm) O0.2.1) lo3_3
  obtain ⟨T16, _, X16, e16, N16, st16⟩ := g1_17 i0 i1 i2 (5:Int32) w3 (1:Int32) (0:Int32) b3_0 b3_1 b3_2 b3_3 b3_4 (2:Int32) (0:Int32) b14_0 b14_1 w14 ⟨X14, hx, hZ3, hw, hby, hml, hown3, e14, O_K14, N14, by decide, by decide, by decide, by decide⟩ (by decide) f14_8 f14_10 (B.2.2.1.2.2.2.2.1) (B.2.2.1.2.2.2.2.2.1) g15 (by decide) f14_9 (by decide)
  obtain ⟨_, hr, hrun, hended, hE⟩ := Stand.leaveW (s := s) (vm₁ := vm3) X16 hS3 (by rw [e16]; exact (Nat.le_trans (Nat.le_trans (Nat.le_refl _) K5.1) K14.1)) (v := some (.int (1:Int32))) (fun h => by rw [Bd.returns] at h; cases h)
  refine ⟨_, _, ?_, hrun, hended, _, _, rfl, ?_, hE.1, hE.2.1, hE.2.2.1, hE.2.2.2.mono (by decide) (by decide)⟩
  · show St p e below s₁ m 0 #[iv i0, iv i1, iv i2, un, un, un, un, un, un, un, un, un, un, un, un, un, un, un, un] [] _
    refine iN X0 hx hby at_0 rfl ?_
    refine X0.ldcInt hx hown (mo hZ hw 0 rfl) (g := (mkF m 1 #[iv i0, iv i1, iv i2, un, un, un, un, un, un, un, un, un, un, un, un, un, un, un, un] [(.int i0)])) rfl (hb hby at_1) _ ?_
    refine XS.iand X0.here hx rfl (hb hby at_3) rfl ?_
    refine XS.bipush X0.here hx rfl (hb hby at_4) ?_
    refine Jvm.RoadKit.iremM (g := (mkF m 6 #[iv i0, iv i1, iv i2, un, un, un, un, un, un, un, un, un, un, un, un, un, un, un, un] [(.int (10:Int32)), (.int (i0 &&& (2147483647:Int32)))])) X0 hx rfl (hb hby at_6) rfl (by decide : ¬ ((10:Int32) = (0:Int32))) ?_
    show St p e below s₁ m 7 #[iv i0, iv i1, iv i2, un, un, un, un, un, un, un, un, un, un, un, un, un, un, un, un] [(.int ((i0 &&& (2147483647:Int32)) % (10:Int32)))] _
    rw [pin0]
    refine XS.istoreN X0.here hx rfl (hb hby at_7) rfl (l' := #[iv i0, iv i1, iv i2, iv (5:Int32), un, un, un, un, un, un, un, un, un, un, un, un, un, un, un]) rfl ?_
    refine iN X0 hx hby at_8 rfl ?_
    refine st1 _ ?_
    refine XS.astore X1.here hx rfl (hb hby at_12) rfl rfl (l' := #[iv i0, iv i1, iv i2, iv (5:Int32), rv w3, un, un, un, un, un, un, un, un, un, un, un, un, un, un]) rfl ?_
    refine st2 _ ?_
    refine st3 _ ?_
    refine st5 _ ?_
    refine st7 _ ?_
    refine st8 _ ?_
    refine st9 _ ?_
    refine st14 _ ?_
    refine st16 _ ?_
    exact retN X16 hx (t := .boolean) Bd.returns (by simp) (hb hby at_391) hr
  · show lawQ n0 _ T16.heap _
    rw [e16]
    exact ⟨rfl, N16⟩
theorem g1_23 (p1 p2 p3 p4:Int32) (a5 : Addr) (p6 p7:Int32) (a8 a9 a10 a11 a12 : Addr) (p13 p14:Int32) (a27 a32 : Addr) (k34 : ClassId) (a35 a36 a37 a62 : Addr)
    (H0 : SG p l e R s m args below meth c T0 locs cells slots Z a0 h0 n0 5 20 10 138) (H22 : xE1 Z h0 a12) (H24 : xF3 Z h0 a12 (.int (3:Int32))) (H28 : xF2 Z h0 a12 (.ref a27)) (H30 : xE19 Z h0 a27) (H33 : Mi Z "[Ljava/lang/Object;" a32) (H38 : Arv Z h0 a27 k34 (.object "java/lang/Object") (10:Int32) [(.ref a35), (.ref a36), (.ref a37), .null, .null, .null, .null, .null, .null, .null] .null) (H41 : xE5 Z h0 a35) (H43 : xE5 Z h0 a36) (H45 : xE5 Z h0 a37) (H48 : xF0 Z h0 a12 (.int (3:Int32))) (H50 : xF16 Z h0 a35 (.int (0:Int32))) (H53 : xF16 Z h0 a36 (.int (0:Int32))) (H56 : xF16 Z h0 a37 (.int (0:Int32))) (H63 : Sta Z Z.heap "tabula/engine/Concept$Kind" "AND" "Ltabula/engine/Concept$Kind;" (.ref a62)) (H64 : a5 ≠ a62) (H65 : Sta Z Z.heap "tabula/engine/Concept$Kind" "OR" "Ltabula/engine/Concept$Kind;" (.ref a5)) :
    ∃ (T' : State) (h' : Heap) (L' : List Loc) (b15 b60_0 b60_1 : Addr) (k60_0 : ClassId), Stand p l e R s m args below meth c T' L' (cells + 5) (slots + 20) ∧ T'.heap = h' ∧ Fr n0 L' ∧ Keep h0 h' [] ∧ h0.size ≤ b15 ∧ h0.size ≤ b60_0 ∧ h0.size ≤ b60_1 ∧ b15 ≠ b60_0 ∧ b15 ≠ b60_1 ∧ b60_0 ≠ b60_1 ∧ xE5 Z h' b15 ∧ xF6 Z h' b15 (.ref a5) ∧ xF10 Z h' b15 (.ref b60_0) ∧ xF16 Z h' b15 (.int (0:Int32)) ∧ xE17 Z h' b60_0 ∧ xF18 Z h' b60_0 (.ref b60_1) ∧ xF24 Z h' b60_0 (.int (0:Int32)) ∧ Arv Z h' b60_1 k60_0 (.object "java/lang/Object") (3:Int32) [(.ref a35), (.ref a36), (.ref a37)] .null ∧ xE19 Z h' b60_1 ∧ Ovr Z k60_0 "java/lang/Object" ∧
      ∀ target, St p e below T' m 298 #[iv p1, iv p2, iv p3, iv p4, rv a5, iv p6, iv p7, rv a8, rv a9, rv a10, rv a11, rv a12, iv p13, .val .null, .val .null, iv p14, rv b15, rv b60_0, un] [] target → St p e below T0 m 271 #[iv p1, iv p2, iv p3, iv p4, rv a5, iv p6, iv p7, rv a8, rv a9, rv a10, rv a11, rv a12, iv p13, .val .null, .val .null, iv p14, un, un, un] [] target := by
  obtain ⟨X0, hx, hZ, hw, hby, hml, hown, e0, O0, N0, rc, rs, rf, rl⟩ := H0
  obtain ⟨_, h15, X15, e15, E15, A15, D15, -, st15⟩ := newO X0 hx hZ hown (ow hw 34 rfl) (ow hw 35 rfl) (ow hw 36 rfl) e0 (g := (mkF m 271 #[iv p1, iv p2, iv p3, iv p4, rv a5, iv p6, iv p7, rv a8, rv a9, rv a10, rv a11, rv a12, iv p13, .val .null, .val .null, iv p14, un, un, un] [])) rfl (hb hby at_271) (by omega) (by omega)
  obtain ⟨b15, g15⟩ : ∃ z, z = h0.size := ⟨_, rfl⟩
  rw [← g15] at A15 D15 st15
  have O_E15 : Old Z n0 h15 := O0.ext E15
  have Kp_E15 : Keep h0 h15 [] := (Keep.refl h0 []).ext E15
  have f16 : xF4 Z h15 b15 (.int (0:Int32)) := D15 (Or.inr (ow hw 52 rfl)) (ty := .int) (by decide)
  have g17 : n0 ≤ b15 := Nat.le_trans (Nat.le_trans (Nat.le_of_eq O0.1.symm) O0.2.1) (Nat.le_of_eq g15.symm)
  have f18 : xF6 Z h15 b15 .null := D15 (Or.inr (ow hw 54 rfl)) (ty := (.object "tabula/engine/Concept$Kind")) (by decide)
  have f19 : xF7 Z h15 b15 .null := D15 (Or.inr (ow hw 56 rfl)) (ty := (.object "java/lang/String")) (by decide)
  have f20 : xF8 Z h15 b15 .null := D15 (Or.inr (ow hw 58 rfl)) (ty := (.object "tabula/engine/Role")) (by decide)
  have f21 : xF9 Z h15 b15 (.int (0:Int32)) := D15 (Or.inr (ow hw 60 rfl)) (ty := .int) (by decide)
  have f23 := (H22.ext E15)
  have f25 := (H24.ext E15)
  have ne26 : a12 ≠ b15 := Nat.ne_of_lt (Nat.lt_of_lt_of_le H22.lt (Nat.le_of_eq g15.symm))
  have f29 := (H28.ext E15)
  have f31 := (H30.ext E15)
  have f39 := (H38.ext E15)
  have ne40 : a27 ≠ b15 := Nat.ne_of_lt (Nat.lt_of_lt_of_le H30.lt (Nat.le_of_eq g15.symm))
  have f42 := (H41.ext E15)
  have f44 := (H43.ext E15)
  have f46 := (H45.ext E15)
  have f47 : xF10 Z h15 b15 .null := D15 (Or.inr (ow hw 91 rfl)) (ty := (.object "java/util/List")) (by decide)
  have f49 := (H48.ext E15)
  have f51 := (H50.ext E15)
  have ne52 : a35 ≠ b15 := Nat.ne_of_lt (Nat.lt_of_lt_of_le H41.lt (Nat.le_of_eq g15.symm))
  have f54 := (H53.ext E15)
  have ne55 : a36 ≠ b15 := Nat.ne_of_lt (Nat.lt_of_lt_of_le H43.lt (Nat.le_of_eq g15.symm))
  have f57 := (H56.ext E15)
  have ne58 : a37 ≠ b15 := Nat.ne_of_lt (Nat.lt_of_lt_of_le H45.lt (Nat.le_of_eq g15.symm))
  have f59 : xF16 Z h15 b15 (.int (0:Int32)) := D15 (Or.inr (ow hw 130 rfl)) (ty := .boolean) (by decide)
  obtain ⟨T60, _, _, X60, hQ60, st60⟩ := cP X15 hx hZ hw hown (y := y5) rfl 47 rfl 48 rfl 49 rfl 36 rfl (by decide) (W := 1) (r5_4 hw b15 (3:Int32) a5 p14 a12 a27 a32 k34 a35 a36 a37 O_E15 f16 A15 g17 f18 f19 f20 f21 f23 f25 ne26 f29 f31 H33 f39 ne40 f42 f44 f46 f47 f49 f51 ne52 f54 ne55 f57 ne58 f59) (by show 9 + 1 ≤ R.frames; omega) (by show 1 + (10 + 11) + 116 ≤ R.locals; omega) e15 (g := (mkF m 286 #[iv p1, iv p2, iv p3, iv p4, rv a5, iv p6, iv p7, rv a8, rv a9, rv a10, rv a11, rv a12, iv p13, .val .null, .val .null, iv p14, un, un, un] [(.ref a12), (.int p14), .null, .null, (.ref a5), (.int (3:Int32)), (.ref b15), (.ref b15)])) rfl (by rw [hml]; rfl) (argsL := [(.int (3:Int32)), (.ref a5), .null, .null, (.int p14), (.ref a12)]) (rest := [(.ref b15)]) (lenOf pd0 rfl) rfl wf (hb hby at_286) rfl (by show cells + 1 + 4 ≤ R.cells; omega) (by show slots + 8 + 12 ≤ R.slots; omega)
  obtain ⟨b60_0, b60_1, k60_0, rfl, N60q, K60, lo60_1, lo60_2, nq60_3, f60_4, f60_5, f60_6, f60_7, f60_8, f60_9, f60_10, f60_11, f60_12, f60_13⟩ := hQ60
  have N60 := Fr.app N0 N60q
  have z61 : h0.size ≤ b15 := Nat.le_trans (Keep.refl h0 []).1 (Nat.le_of_eq g15.symm)
  have O_K60 : Old Z n0 T60.heap := O_E15.keep K60 (allS g17 all0)
  have Kp_K60 : Keep h0 T60.heap [] := Kp_E15.trans K60 (allS (Or.inr z61) all0)
  replace X60 : Stand p l e R _ m args below meth c T60 _ (cells + 5) (slots + 20) := X60
  obtain ⟨T66, _, _, X66, hQ66, st66⟩ := cV X60 hx hZ hw hown (y := y17) 136 rfl 137 rfl 139 rfl 138 rfl 140 rfl 36 rfl (by decide) (W := 0) (r17_3 hw b15 a5 a62 b60_0 O_K60 f60_5 H63 H64 H65 f60_6) (by show 0 + 1 ≤ R.frames; omega) (by show 0 + (1 + 11) + 0 ≤ R.locals; omega) f60_4 rfl (g := (mkF m 293 #[iv p1, iv p2, iv p3, iv p4, rv a5, iv p6, iv p7, rv a8, rv a9, rv a10, rv a11, rv a12, iv p13, .val .null, .val .null, iv p14, rv b15, un, un] [(.ref b15)])) rfl (by rw [hml]; rfl) (argsL := []) (rest := []) (lenOf pd20 rfl) rfl wf (hb hby at_293) rfl (by show cells + 5 + 0 ≤ R.cells; omega) (by show slots + 20 + 0 ≤ R.slots; omega)
  obtain ⟨rfl, N66q, e66⟩ := hQ66
  have N66 := Fr.app N60 N66q
  replace X66 : Stand p l e R _ m args below meth c T66 _ (cells + 5) (slots + 20) := X66
  have z67 : h0.size ≤ b60_0 := Nat.le_trans Kp_E15.1 lo60_1
  have z68 : h0.size ≤ b60_1 := Nat.le_trans Kp_E15.1 lo60_2
  have ne69 : b15 ≠ b60_0 := Nat.ne_of_lt (Nat.lt_of_lt_of_le A15.lt lo60_1)
  have ne70 : b15 ≠ b60_1 := Nat.ne_of_lt (Nat.lt_of_lt_of_le A15.lt lo60_2)
  refine ⟨T66, _, _, b15, b60_0, b60_1, k60_0, X66.more (by omega) (by omega), e66, N66, Kp_K60, z61, z67, z68, ne69, ne70, nq60_3, f60_4, f60_5, f60_6, f60_7, f60_8, f60_9, f60_10, f60_11, f60_12, f60_13, fun target kt => ?_⟩
  show St p e below T0 m 271 #[iv p1, iv p2, iv p3, iv p4, rv a5, iv p6, iv p7, rv a8, rv a9, rv a10, rv a11, rv a12, iv p13, .val .null, .val .null, iv p14, un, un, un] [] _
  refine st15 _ ?_
  refine XS.dup X15.here hx rfl (hb hby at_274) rfl rfl ?_
  refine iC X15 hx hby at_275 ?_
  refine aL X15 hx hby at_276 rfl rfl ?_
  refine aL X15 hx hby at_278 rfl rfl ?_
  refine aL X15 hx hby at_280 rfl rfl ?_
  refine iL X15 hx hby at_282 rfl ?_
  refine aL X15 hx hby at_284 rfl rfl ?_
  refine st60.trans ?_
  refine XS.astore X60.here hx rfl (hb hby at_289) rfl rfl (l' := #[iv p1, iv p2, iv p3, iv p4, rv a5, iv p6, iv p7, rv a8, rv a9, rv a10, rv a11, rv a12, iv p13, .val .null, .val .null, iv p14, rv b15, un, un]) rfl ?_
  refine aL X60 hx hby at_291 rfl rfl ?_
  refine st66.trans ?_
  refine XS.astore X66.here hx rfl (hb hby at_296) rfl rfl (l' := #[iv p1, iv p2, iv p3, iv p4, rv a5, iv p6, iv p7, rv a8, rv a9, rv a10, rv a11, rv a12, iv p13, .val .null, .val .null, iv p14, rv b15, rv b60_0, un]) rfl ?_
  exact kt
theorem law_8 (l : Launch) (Z : State) (a0 : Array Value) (hw : HW a0 Z) (ws : List Jvm.Cond) (w0 w1 w2 w3 w4 w5 w6 w7 w8 w9 w10 w11 w12 w13 w14 : Addr) (k_w10 k_w11 k_w13 : ClassId) (wMir : Addr) (B : Base Z w0 w1 w2 w3 w4 w5 w6 w7 w8 w9 w10 w11 w12 w13 w14 k_w10 k_w11 k_w13 wMir) (i0 i1 i2:Int32) (h0 : Heap) (n0 : Nat) (O0 : Old Z n0 h0) (pin0 : ((i0 &&& (2147483647:Int32)) % (10:Int32)) = (5:Int32)) (pin1 : (i1 &&& (1:Int32)) = (1:Int32)) :
    MetFree l x (head1 (Jvm.Cond.code x code maxLocals ret :: ws) room_1) (fun a U => a = #[(.int i0), (.int i1), (.int i2)] ∧ Z.Warmed39 U.vm ∧ U.heap = h0) (fun _ _ _ _ _ => True) (fun _ U o U' => ∃ v L, o = .returned v ∧ lawQ n0 v U'.heap L ∧ ReturnedEndW U o U' L room_1.cells room_1.slots) := by
  refine own_in (pq pn4) #[iv i0, iv i1, iv i2, un, un, un, un, un, un, un, un, un, un, un, un, un, un, un, un] (fun _ => by first | (simp [entryFrame, mkF, argsToLocals, Value.category, maxLocals]; done) | rfl) ?_
  intro p e s m below meth c s₁ Bd hx hby hml hown hnm hZ e0 X0
  have N0 := Fr.nil n0
  skip
  obtain ⟨_, _, _, X1, hQ1, st1⟩ := cS X0 hx hZ hw hown (y := y0) 1 rfl 2 rfl 3 rfl 4 rfl (by decide) (W := 0) (r0_6 hw w3 O0 (B.1.2.2.2.2.2.2.1)) (by decide) (by decide) e0 (g := (mkF m 9 #[iv i0, iv i1, iv i2, iv (5:Int32), un, un, un, un, un, un, un, un, un, un, un, un, un, un, un] [(.int (5:Int32))])) rfl (by rw [hml]; rfl) (argsL := [(.int (5:Int32))]) (rest := []) (lenOf pd9 rfl) rfl wf (hb hby at_9) rfl (by decide) (by decide)
  obtain ⟨rfl, N1q, e1⟩ := hQ1
  have N1 := Fr.app N0 N1q
  obtain ⟨_, _, X2, e2, N2, st2⟩ := g1_21 i0 i1 i2 (5:Int32) w3 ⟨X1, hx, hZ, hw, hby, hml, hown, e1, O0, N1, by decide, by decide, by decide, by decide⟩ (by decide) (by decide) (by decide)
  obtain ⟨_, h3, _, vm3, b3_0, b3_1, b3_2, b3_3, b3_4, X3, e3, hSq3, N3, K3, _, _, _, _, lo3_5, _, _, _, _, _, _, nq3_12, _, nq3_14, nq3_15, _, _, _, _, f3_20, _, _, f3_23, f3_24, _, _, f3_27, f3_28, _, _, f3_31, f3_32, f3_33, f3_34, f3_35, st3⟩ := g1_2 i0 i1 i2 (5:Int32) w3 (1:Int32) (0:Int32) w11 w1 w12 ⟨X2, hx, hZ, hw, hby, hml, hown, e2, O0, N2, by decide, by decide, by decide, by decide⟩ (B.2.1.2.2.2.2.2.2.2.2.2.2.1) (B.1.2.2.1) (B.2.2.1.1)
  obtain ⟨Y3, hS3, hZ3, hown3⟩ := rebS (s := s) (vm0 := s.vm) (State.WarmedH.since (State.WarmedH.refl s) 0) (Nat.zero_le _) X3 hSq3 K3.1 hZ hown
  have O_K3 : Old Z n0 h3 := O0.keep K3 all0
  have g4 : n0 ≤ b3_4 := Nat.le_trans (Nat.le_trans (Nat.le_of_eq O0.1.symm) O0.2.1) lo3_5
  obtain ⟨_, h5, _, b5_0, k5_0, X5, e5, N5, K5, _, f5_2, f5_3, f5_4, f5_5, f5_6, f5_7, _, st5⟩ := g1_18 i0 i1 i2 (5:Int32) w3 (1:Int32) (0:Int32) b3_0 b3_1 b3_2 b3_3 b3_4 (0:Int32) w11 k_w11 ⟨Y3, hx, hZ3, hw, hby, hml, hown3, e3, O_K3, N3, by decide, by decide, by decide, by decide⟩ (by decide) pin1 f3_32 f3_33 g4 f3_34 f3_35 (B.2.2.2.1.2.2.2.2.2.2.2.1) (B.2.1.2.2.2.2.2.2.2.2.2.2.1) f3_20 f3_24 f3_28
  have O_K5 : Old Z n0 h5 := O_K3.keep K5 (allS g4 all0)
  obtain ⟨_, _, X7, e7, N7, st7⟩ := g1_4 i0 i1 i2 (5:Int32) w3 (1:Int32) (0:Int32) b3_0 b3_1 b3_2 b3_3 b3_4 (3:Int32) ⟨X5, hx, hZ3, hw, hby, hml, hown3, e5, O_K5, N5, by decide, by decide, by decide, by decide⟩ (by decide)
  obtain ⟨_, _, X8, e8, N8, st8⟩ := g1_5 i0 i1 i2 (5:Int32) w3 (1:Int32) (0:Int32) b3_0 b3_1 b3_2 b3_3 b3_4 (3:Int32) ⟨X7, hx, hZ3, hw, hby, hml, hown3, e7, O_K5, N7, by decide, by decide, by decide, by decide⟩ (by decide) (by decide)
  obtain ⟨_, _, X9, e9, N9, st9⟩ := g1_6 i0 i1 i2 (5:Int32) w3 (1:Int32) (0:Int32) b3_0 b3_1 b3_2 b3_3 b3_4 (3:Int32) ⟨X8, hx, hZ3, hw, hby, hml, hown3, e8, O_K5, N8, by decide, by decide, by decide, by decide⟩ (by decide) (by decide) (by decide) (by decide)
  have f10 := (f3_20.keep K5)
  have f11 := (f3_24.keep K5)
  have f12 := (f3_28.keep K5)
  have f13 := (f3_23.keep K5 (ninS nq3_12 nin0))
  have f14 := (f3_27.keep K5 (ninS nq3_14 nin0))
  have f15 := (f3_31.keep K5 (ninS nq3_15 nin0))
  obtain ⟨_, h16, _, b16_0, b16_1, b16_2, k16_0, X16, e16, N16, K16, _, _, _, _, _, _, _, _, _, _, f16_11, f16_12, _, f16_14, _, _, st16⟩ := g1_23 i0 i1 i2 (5:Int32) w3 (1:Int32) (0:Int32) b3_0 b3_1 b3_2 b3_3 b3_4 (3:Int32) (0:Int32) b5_0 wMir k5_0 b3_1 b3_2 b3_3 w2 ⟨X9, hx, hZ3, hw, hby, hml, hown3, e9, O_K5, N9, by decide, by decide, by decide, by decide⟩ f5_2 f5_5 f5_4 f5_7 (B.2.2.2.2.2.2.2.2.2.2.2.2.2.2.2) f5_6 f10 f11 f12 f5_3 f13 f14 f15 (B.1.2.2.2.2.1) (Ne.symm B.2.2.2.2.2.2.1.1) (B.1.2.2.2.2.2.2.1)
  have O_K16 : Old Z n0 h16 := O_K5.keep K16 all0
  obtain ⟨T17, _, X17, e17, N17, st17⟩ := g1_20 i0 i1 i2 (5:Int32) w3 (1:Int32) (0:Int32) b3_0 b3_1 b3_2 b3_3 b3_4 (3:Int32) (0:Int32) b16_0 b16_1 b16_2 k16_0 ⟨X16, hx, hZ3, hw, hby, hml, hown3, e16, O_K16, N16, by decide, by decide, by decide, by decide⟩ (by decide) f16_11 f16_12 f16_14 (by decide) (by decide)
  obtain ⟨_, hr, hrun, hended, hE⟩ := Stand.leaveW (s := s) (vm₁ := vm3) X17 hS3 (by rw [e17]; exact (Nat.le_trans (Nat.le_trans (Nat.le_refl _) K5.1) K16.1)) (v := some (.int (1:Int32))) (fun h => by rw [Bd.returns] at h; cases h)
  refine ⟨_, _, ?_, hrun, hended, _, _, rfl, ?_, hE.1, hE.2.1, hE.2.2.1, hE.2.2.2.mono (by decide) (by decide)⟩
  · show St p e below s₁ m 0 #[iv i0, iv i1, iv i2, un, un, un, un, un, un, un, un, un, un, un, un, un, un, un, un] [] _
    refine iN X0 hx hby at_0 rfl ?_
    refine X0.ldcInt hx hown (mo hZ hw 0 rfl) (g := (mkF m 1 #[iv i0, iv i1, iv i2, un, un, un, un, un, un, un, un, un, un, un, un, un, un, un, un] [(.int i0)])) rfl (hb hby at_1) _ ?_
    refine XS.iand X0.here hx rfl (hb hby at_3) rfl ?_
    refine XS.bipush X0.here hx rfl (hb hby at_4) ?_
    refine Jvm.RoadKit.iremM (g := (mkF m 6 #[iv i0, iv i1, iv i2, un, un, un, un, un, un, un, un, un, un, un, un, un, un, un, un] [(.int (10:Int32)), (.int (i0 &&& (2147483647:Int32)))])) X0 hx rfl (hb hby at_6) rfl (by decide : ¬ ((10:Int32) = (0:Int32))) ?_
    show St p e below s₁ m 7 #[iv i0, iv i1, iv i2, un, un, un, un, un, un, un, un, un, un, un, un, un, un, un, un] [(.int ((i0 &&& (2147483647:Int32)) % (10:Int32)))] _
    rw [pin0]
    refine XS.istoreN X0.here hx rfl (hb hby at_7) rfl (l' := #[iv i0, iv i1, iv i2, iv (5:Int32), un, un, un, un, un, un, un, un, un, un, un, un, un, un, un]) rfl ?_
    refine iN X0 hx hby at_8 rfl ?_
    refine st1 _ ?_
    refine XS.astore X1.here hx rfl (hb hby at_12) rfl rfl (l' := #[iv i0, iv i1, iv i2, iv (5:Int32), rv w3, un, un, un, un, un, un, un, un, un, un, un, un, un, un]) rfl ?_
    refine st2 _ ?_
    refine st3 _ ?_
    refine st5 _ ?_
    refine st7 _ ?_
    refine st8 _ ?_
    refine st9 _ ?_
    refine st16 _ ?_
    refine st17 _ ?_
    exact retN X17 hx (t := .boolean) Bd.returns (by simp) (hb hby at_391) hr
  · show lawQ n0 _ T17.heap _
    rw [e17]
    exact ⟨rfl, N17⟩
theorem d0_53 : dk method_2_code 53 (.iload_n 0) 1 := by decide +kernel
theorem d0_54 : dk method_2_code 54 (.bipush 6) 2 := by decide +kernel
theorem d0_56 : dk method_2_code 56 (.if_icmp .ne 7) 3 := by decide +kernel
theorem d0_59 : dk method_2_code 59 (.getstatic 28) 3 := by decide +kernel
theorem d0_62 : dk method_2_code 62 .areturn 1 := by decide +kernel
def r0_7Q (Z : State) (a1 : Addr) (h0 : Heap) (n0 : Nat) : QT := fun v h L => v = some (.ref a1) ∧ Fr n0 L ∧ h = h0
theorem r0_7 (hw : HW a0 Z) (a1 : Addr) (O0 : Old Z n0 h0) (H2 : Sta Z Z.heap "tabula/engine/Concept$Kind" "SOME" "Ltabula/engine/Concept$Kind;" (.ref a1)) :
    MF l y0 method_2_code 1 (some (.object "tabula/engine/Concept$Kind")) [] (rM 0 0 0 0) Z #[(.int (6:Int32))] h0 (r0_7Q Z a1 h0 n0) := by
  refine own_in (pq pn4) #[iv (6:Int32)] (fun _ => by first | (simp [entryFrame, mkF, argsToLocals, Value.category]; done) | rfl) ?_
  intro p e s m below meth c s₁ Bd hx hby hml hown hnm hZ e0 X0
  have N0 := Fr.nil n0
  obtain ⟨_, X3, e3, st3⟩ := getS2 X0 hx hZ hown (host := "") (Or.inl (ow hw 348 rfl)) Via.refl e0 (H2.ext O0.2) (g := (mkF m 59 #[iv (6:Int32)] [])) rfl (hb hby d0_59)
  refine fin (Q := r0_7Q Z a1 h0 n0) (rm := (rM 0 0 0 0)) Bd X3 e3 (some (.ref a1)) nofun ⟨rfl, N0, rfl⟩ (by decide) (by decide) fun fs hr => ?_
  show St p e below s₁ m 0 #[iv (6:Int32)] [] _
  refine iN X0 hx hby d0_0 rfl ?_
  refine XS.ifYes X0.here hx rfl (pc0 := 1) (pc' := 8) rfl (hb hby d0_1) rfl ((if0 _ _).trans (feq (by decide : ¬ ((6:Int32) = (0:Int32)))).2) (by decide) (by decide) ?_
  refine iN X0 hx hby d0_8 rfl ?_
  refine iC X0 hx hby d0_9 ?_
  refine XS.icmpYes X0.here hx rfl (pc0 := 10) (pc' := 17) rfl (hb hby d0_10) rfl (feq (by decide : ¬ ((6:Int32) = (1:Int32)))).2 (by decide) (by decide) ?_
  refine iN X0 hx hby d0_17 rfl ?_
  refine iC X0 hx hby d0_18 ?_
  refine XS.icmpYes X0.here hx rfl (pc0 := 19) (pc' := 26) rfl (hb hby d0_19) rfl (feq (by decide : ¬ ((6:Int32) = (2:Int32)))).2 (by decide) (by decide) ?_
  refine iN X0 hx hby d0_26 rfl ?_
  refine iC X0 hx hby d0_27 ?_
  refine XS.icmpYes X0.here hx rfl (pc0 := 28) (pc' := 35) rfl (hb hby d0_28) rfl (feq (by decide : ¬ ((6:Int32) = (3:Int32)))).2 (by decide) (by decide) ?_
  refine iN X0 hx hby d0_35 rfl ?_
  refine iC X0 hx hby d0_36 ?_
  refine XS.icmpYes X0.here hx rfl (pc0 := 37) (pc' := 44) rfl (hb hby d0_37) rfl (feq (by decide : ¬ ((6:Int32) = (4:Int32)))).2 (by decide) (by decide) ?_
  refine iN X0 hx hby d0_44 rfl ?_
  refine iC X0 hx hby d0_45 ?_
  refine XS.icmpYes X0.here hx rfl (pc0 := 46) (pc' := 53) rfl (hb hby d0_46) rfl (feq (by decide : ¬ ((6:Int32) = (5:Int32)))).2 (by decide) (by decide) ?_
  refine iN X0 hx hby d0_53 rfl ?_
  refine XS.bipush X0.here hx rfl (hb hby d0_54) ?_
  refine XS.icmpNo X0.here hx rfl (hb hby d0_56) rfl (teq (rfl : (6:Int32) = (6:Int32))).2 ?_
  refine st3 _ ?_
  exact retA X3 hx Bd.returns rfl rfl (hb hby d0_62) hr
theorem g1_24 (p1 p2 p3 p4:Int32) (a5 : Addr)
    (H0 : SG p l e R s m args below meth c T0 locs cells slots Z a0 h0 n0 0 0 0 0) (hc6 : ¬ (p4 = (4:Int32))) (hc7 : ¬ (p4 = (5:Int32))) (hc8 : ¬ (p4 < (6:Int32))) :
    ∃ (T' : State) (L' : List Loc), Stand p l e R s m args below meth c T' L' (cells + 0) (slots + 0) ∧ T'.heap = h0 ∧ Fr n0 L' ∧
      ∀ target, St p e below T' m 44 #[iv p1, iv p2, iv p3, iv p4, rv a5, iv (0:Int32), iv (1:Int32), un, un, un, un, un, un, un, un, un, un, un, un] [] target → St p e below T0 m 14 #[iv p1, iv p2, iv p3, iv p4, rv a5, un, un, un, un, un, un, un, un, un, un, un, un, un, un] [] target := by
  obtain ⟨X0, hx, hZ, hw, hby, hml, hown, e0, O0, N0, rc, rs, rf, rl⟩ := H0
  refine ⟨T0, _, X0.more (by omega) (by omega), e0, N0, fun target kt => ?_⟩
  show St p e below T0 m 14 #[iv p1, iv p2, iv p3, iv p4, rv a5, un, un, un, un, un, un, un, un, un, un, un, un, un, un] [] _
  refine iN X0 hx hby at_14 rfl ?_
  refine iC X0 hx hby at_15 ?_
  refine XS.icmpNo X0.here hx rfl (hb hby at_16) rfl (feq hc6).1 ?_
  refine iN X0 hx hby at_19 rfl ?_
  refine iC X0 hx hby at_20 ?_
  refine XS.icmpYes X0.here hx rfl (pc0 := 21) (pc' := 28) rfl (hb hby at_21) rfl (feq hc7).2 (by decide) (by decide) ?_
  refine iC X0 hx hby at_28 ?_
  refine XS.istore X0.here hx rfl (hb hby at_29) rfl (l' := #[iv p1, iv p2, iv p3, iv p4, rv a5, iv (0:Int32), un, un, un, un, un, un, un, un, un, un, un, un, un]) rfl ?_
  refine iN X0 hx hby at_31 rfl ?_
  refine XS.bipush X0.here hx rfl (hb hby at_32) ?_
  refine XS.icmpNo X0.here hx rfl (hb hby at_34) rfl (flt hc8).1 ?_
  refine iC X0 hx hby at_37 ?_
  refine XS.goto X0.here hx rfl (pc0 := 38) (pc' := 42) rfl (hb hby at_38) (by decide) (by decide) ?_
  refine XS.istore X0.here hx rfl (hb hby at_42) rfl (l' := #[iv p1, iv p2, iv p3, iv p4, rv a5, iv (0:Int32), iv (1:Int32), un, un, un, un, un, un, un, un, un, un, un, un]) rfl ?_
  exact kt
theorem g1_25 (p1 p2 p3 p4:Int32) (a5 : Addr) (p6 p7:Int32) (a8 a9 a10 a11 a12 : Addr) (p13:Int32) (a19 : Addr) (k22 : ClassId)
    (H0 : SG p l e R s m args below meth c T0 locs cells slots Z a0 h0 n0 1 10 5 69) (hc14 : p6 = (0:Int32)) (hc15 : ¬ (p7 = (0:Int32))) (H16 : xE1 Z h0 a12) (H17 : xF0 Z h0 a12 (.int (0:Int32))) (H18 : n0 ≤ a12) (H20 : xF2 Z h0 a12 (.ref a19)) (H21 : xF3 Z h0 a12 (.int (0:Int32))) (H23 : Arv Z Z.heap a19 k22 (.object "java/lang/Object") (0:Int32) [] .null) (H24 : Sta Z Z.heap "java/util/ArrayList" "DEFAULTCAPACITY_EMPTY_ELEMENTDATA" "[Ljava/lang/Object;" (.ref a19)) (H25 : xE5 Z h0 a10) :
    ∃ (T' : State) (h' : Heap) (L' : List Loc) (b26_0 : Addr) (k26_0 : ClassId), Stand p l e R s m args below meth c T' L' (cells + 1) (slots + 10) ∧ T'.heap = h' ∧ Fr n0 L' ∧ Keep h0 h' [a12] ∧ h0.size ≤ b26_0 ∧ xE1 Z h' a12 ∧ xF0 Z h' a12 (.int (1:Int32)) ∧ xF2 Z h' a12 (.ref b26_0) ∧ xF3 Z h' a12 (.int (1:Int32)) ∧ Arv Z h' b26_0 k26_0 (.object "java/lang/Object") (10:Int32) [(.ref a10), .null, .null, .null, .null, .null, .null, .null, .null, .null] .null ∧ xE19 Z h' b26_0 ∧ Ovr Z k26_0 "java/lang/Object" ∧
      ∀ target, St p e below T' m 180 #[iv p1, iv p2, iv p3, iv p4, rv a5, iv p6, iv p7, rv a8, rv a9, rv a10, rv a11, rv a12, iv p13, un, un, un, un, un, un] [] target → St p e below T0 m 122 #[iv p1, iv p2, iv p3, iv p4, rv a5, iv p6, iv p7, rv a8, rv a9, rv a10, rv a11, rv a12, iv p13, un, un, un, un, un, un] [] target := by
  obtain ⟨X0, hx, hZ, hw, hby, hml, hown, e0, O0, N0, rc, rs, rf, rl⟩ := H0
  obtain ⟨T26, _, _, X26, hQ26, st26⟩ := cV X0 hx hZ hw hown (y := y20) 161 rfl 162 rfl 164 rfl 163 rfl 165 rfl 10 rfl (by decide) (W := 0) (r20_1 hw a12 a10 a19 k22 O0 H17 H16 H18 H20 H21 H23 H24 H25) (by show 4 + 1 ≤ R.frames; omega) (by show 0 + (2 + 11) + 56 ≤ R.locals; omega) H16 e0 (g := (mkF m 176 #[iv p1, iv p2, iv p3, iv p4, rv a5, iv p6, iv p7, rv a8, rv a9, rv a10, rv a11, rv a12, iv p13, un, un, un, un, un, un] [(.ref a10), (.ref a12)])) rfl (by rw [hml]; rfl) (argsL := [(.ref a10)]) (rest := []) (lenOf pd16 rfl) rfl wf (hb hby at_176) rfl (by show cells + 0 + 1 ≤ R.cells; omega) (by show slots + 0 + 10 ≤ R.slots; omega)
  obtain ⟨b26_0, k26_0, rfl, N26q, K26, lo26_1, f26_2, f26_3, f26_4, f26_5, f26_6, f26_7, f26_8⟩ := hQ26
  have N26 := Fr.app N0 N26q
  have Kp_K26 : Keep h0 T26.heap [a12] := (Keep.refl h0 [a12]).trans K26 (allS (mI 0 rfl) all0)
  replace X26 : Stand p l e R _ m args below meth c T26 _ (cells + 1) (slots + 10) := X26
  have z27 : h0.size ≤ b26_0 := Nat.le_trans (Keep.refl h0 [a12]).1 lo26_1
  refine ⟨T26, _, _, b26_0, k26_0, X26.more (by omega) (by omega), rfl, N26, Kp_K26, z27, f26_3, f26_2, f26_4, f26_5, f26_6, f26_7, f26_8, fun target kt => ?_⟩
  show St p e below T0 m 122 #[iv p1, iv p2, iv p3, iv p4, rv a5, iv p6, iv p7, rv a8, rv a9, rv a10, rv a11, rv a12, iv p13, un, un, un, un, un, un] [] _
  refine iL X0 hx hby at_122 rfl ?_
  refine XS.ifYes X0.here hx rfl (pc0 := 124) (pc' := 167) rfl (hb hby at_124) rfl ((if0 _ _).trans (teq hc14).1) (by decide) (by decide) ?_
  refine iL X0 hx hby at_167 rfl ?_
  refine XS.ifNo X0.here hx rfl (hb hby at_169) rfl ((if0 _ _).trans (feq hc15).1) ?_
  refine aL X0 hx hby at_172 rfl rfl ?_
  refine aL X0 hx hby at_174 rfl rfl ?_
  refine st26.trans ?_
  refine XS.pop X26.here hx rfl (hb hby at_179) rfl rfl ?_
  exact kt
theorem d46_0 : dk cP33_1 0 (.aload_n 0) 1 := by decide +kernel
theorem d46_1 : dk cP33_1 1 (.invokespecial 1) 3 := by decide +kernel
theorem d47_0 : dk jdk_30_method_1_code 0 (.aload_n 0) 1 := by decide +kernel
theorem d47_1 : dk jdk_30_method_1_code 1 (.invokespecial 1) 3 := by decide +kernel
theorem d47_4 : dk jdk_30_method_1_code 4 .return_ 1 := by decide +kernel
abbrev y47 : MethodName := ⟨"java/lang/Record", "<init>", "()V"⟩
theorem pn13 : plainName "java/lang/Record" = true := by first | (simp [plainName, overriddenIn]; done) | decide +kernel
def r47_1Q (Z : State) (a1 : Addr) (h0 : Heap) (n0 : Nat) : QT := fun v h L => v = none ∧ Fr n0 L ∧ h = h0
theorem r47_1 (hw : HW a0 Z) (a1 : Addr) (O0 : Old Z n0 h0) :
    MF l y47 jdk_30_method_1_code 1 none [] (rM 1 0 0 12) Z #[(.ref a1)] h0 (r47_1Q Z a1 h0 n0) := by
  refine own_in (pq pn13) #[rv a1] (fun _ => by first | (simp [entryFrame, mkF, argsToLocals, Value.category]; done) | rfl) ?_
  intro p e s m below meth c s₁ Bd hx hby hml hown hnm hZ e0 X0
  have N0 := Fr.nil n0
  obtain ⟨_, X2, e2, st2⟩ := initO X0 hx hZ hown (ow hw 300 rfl) (ow hw 27 rfl) (ow hw 28 rfl) e0 (g := (mkF m 1 #[rv a1] [(.ref a1)])) rfl (by rw [hml]; rfl) rfl (hb hby d47_1) (by decide) (W := 0) wf (by decide)
  refine fin (Q := r47_1Q Z a1 h0 n0) (rm := (rM 1 0 0 12)) Bd X2 e2 (none) (fun _ => rfl) ⟨rfl, N0, rfl⟩ (by decide) (by decide) fun fs hr => ?_
  show St p e below s₁ m 0 #[rv a1] [] _
  refine aN X0 hx hby d47_0 rfl rfl ?_
  refine st2 _ ?_
  exact X2.returnOut hx Bd.returns (hb hby d47_4) hr
theorem d46_4 : dk cP33_1 4 (.aload_n 1) 1 := by decide +kernel
theorem d46_5 : dk cP33_1 5 (.ldc 7) 2 := by decide +kernel
theorem d46_7 : dk cP33_1 7 (.invokestatic 9) 3 := by decide +kernel
theorem d48_0 : dk jdk_31_method_11_code 0 (.aload_n 0) 1 := by decide +kernel
theorem d48_1 : dk jdk_31_method_11_code 1 (.ifnonnull 12) 3 := by decide +kernel
theorem d48_13 : dk jdk_31_method_11_code 13 (.aload_n 0) 1 := by decide +kernel
theorem d48_14 : dk jdk_31_method_11_code 14 .areturn 1 := by decide +kernel
abbrev y48 : MethodName := ⟨"java/util/Objects", "requireNonNull", "(Ljava/lang/Object;Ljava/lang/String;)Ljava/lang/Object;"⟩
def r48_1Q (Z : State) (a1 a2 : Addr) (h0 : Heap) (n0 : Nat) : QT := fun v h L => v = some (.ref a1) ∧ Fr n0 L ∧ h = h0
theorem r48_1 (hw : HW a0 Z) (a1 a2 : Addr) (O0 : Old Z n0 h0) :
    MF l y48 jdk_31_method_11_code 2 (some (.object "java/lang/Object")) [] (rM 0 0 0 0) Z #[(.ref a1), (.ref a2)] h0 (r48_1Q Z a1 a2 h0 n0) := by
  refine own_in (pq pn12) #[rv a1, rv a2] (fun _ => by first | (simp [entryFrame, mkF, argsToLocals, Value.category]; done) | rfl) ?_
  intro p e s m below meth c s₁ Bd hx hby hml hown hnm hZ e0 X0
  have N0 := Fr.nil n0
  refine fin (Q := r48_1Q Z a1 a2 h0 n0) (rm := (rM 0 0 0 0)) Bd X0 e0 (some (.ref a1)) nofun ⟨rfl, N0, rfl⟩ (by decide) (by decide) fun fs hr => ?_
  show St p e below s₁ m 0 #[rv a1, rv a2] [] _
  refine aN X0 hx hby d48_0 rfl rfl ?_
  refine XS.ifnonnullYes X0.here hx rfl (pc0 := 1) (pc' := 13) rfl (hb hby d48_1) rfl (by decide) (by decide) ?_
  refine aN X0 hx hby d48_13 rfl rfl ?_
  exact retA X0 hx Bd.returns rfl rfl (hb hby d48_14) hr
theorem pd2 : parseMethodDescriptor "(Ljava/lang/Object;Ljava/lang/String;)Ljava/lang/Object;" = some ⟨[(.object "java/lang/Object"), (.object "java/lang/String")], some (.object "java/lang/Object")⟩ := by decide +kernel
theorem d46_10 : dk cP33_1 10 .pop 1 := by decide +kernel
theorem d46_11 : dk cP33_1 11 (.iload_n 2) 1 := by decide +kernel
theorem d46_12 : dk cP33_1 12 (.ifCond .eq 17) 3 := by decide +kernel
theorem d46_29 : dk cP33_1 29 (.aload_n 0) 1 := by decide +kernel
theorem d46_30 : dk cP33_1 30 (.aload_n 1) 1 := by decide +kernel
theorem d46_31 : dk cP33_1 31 (.putfield 22) 3 := by decide +kernel
abbrev xF25 (Z : State) (h : Heap) (a : Addr) (v : Value) : Prop := Fld Z h a "tabula/engine/Role" "name" "Ljava/lang/String;" v
abbrev xE26 (Z : State) (h : Heap) (a : Addr) : Prop := Exa Z h a "tabula/engine/Role"
theorem d46_34 : dk cP33_1 34 (.aload_n 0) 1 := by decide +kernel
theorem d46_35 : dk cP33_1 35 (.iload_n 2) 1 := by decide +kernel
theorem d46_36 : dk cP33_1 36 (.putfield 27) 3 := by decide +kernel
abbrev xF27 (Z : State) (h : Heap) (a : Addr) (v : Value) : Prop := Fld Z h a "tabula/engine/Role" "universal" "Z" v
theorem d46_39 : dk cP33_1 39 (.aload_n 0) 1 := by decide +kernel
theorem d46_40 : dk cP33_1 40 (.iload_n 3) 1 := by decide +kernel
theorem d46_41 : dk cP33_1 41 (.putfield 31) 3 := by decide +kernel
abbrev xF28 (Z : State) (h : Heap) (a : Addr) (v : Value) : Prop := Fld Z h a "tabula/engine/Role" "inverted" "Z" v
theorem d46_44 : dk cP33_1 44 .return_ 1 := by decide +kernel
abbrev y46 : MethodName := ⟨"tabula/engine/Role", "<init>", "(Ljava/lang/String;ZZ)V"⟩
theorem pn11 : plainName "tabula/engine/Role" = true := by first | (simp [plainName, overriddenIn]; done) | decide +kernel
def r46_1Q (Z : State) (a1 a2 : Addr) (h0 : Heap) (n0 : Nat) : QT := fun v h L => v = none ∧ Fr n0 L ∧ Keep h0 h [a1] ∧ xE26 Z h a1 ∧ xF27 Z h a1 (.int (0:Int32))
theorem r46_1 (hw : HW a0 Z) (a1 a2 : Addr) (O0 : Old Z n0 h0) (H6 : xF25 Z h0 a1 .null) (H8 : xE26 Z h0 a1) (H11 : n0 ≤ a1) (H14 : xF27 Z h0 a1 (.int (0:Int32))) (H20 : xF28 Z h0 a1 (.int (0:Int32))) :
    MFS l y46 cP33_1 4 none [] (rM 2 2 20 24) Z #[(.ref a1), (.ref a2), (.int (0:Int32)), (.int (0:Int32))] h0 (r46_1Q Z a1 a2 h0 n0) := by
  refine own_in (pq pn11) #[rv a1, rv a2, iv (0:Int32), iv (0:Int32)] (fun _ => by first | (simp [entryFrame, mkF, argsToLocals, Value.category]; done) | rfl) ?_
  intro p e s m below meth c s₁ Bd hx hby hml hown hnm hZ e0 X0
  have N0 := Fr.nil n0
  obtain ⟨_, _, _, X3, hQ3, st3⟩ := cP X0 hx hZ hw hown (y := y47) rfl 295 rfl 296 rfl 299 rfl 298 rfl (by decide) (W := 0) (r47_1 hw a1 O0) (by decide) (by decide) e0 (g := (mkF m 1 #[rv a1, rv a2, iv (0:Int32), iv (0:Int32)] [(.ref a1)])) rfl (by rw [hml]; rfl) (argsL := []) (rest := []) (lenOf pd22 rfl) rfl wf (hb hby d46_1) rfl (by decide) (by decide)
  obtain ⟨rfl, N3q, e3⟩ := hQ3
  have N3 := Fr.app N0 N3q
  obtain ⟨a4, T4, h4, _, X4, e4, E4, hS4, hk4, hZ4, hown4, st4⟩ := ldcS (s := s) (vm0 := s.vm) X3 hx hZ (own := "tabula/engine/Role") hown (ow hw 301 rfl) (fun d hd => hw d (strW d hd)) e3 (State.WarmedH.since (State.WarmedH.refl s) 0) (Nat.zero_le _) (g := (mkF m 5 #[rv a1, rv a2, iv (0:Int32), iv (0:Int32)] [(.ref a2)])) rfl (hb hby d46_5) (n := 16) (by decide) (by decide) (by decide) (by decide)
  have O_E4 : Old Z n0 h4 := O0.ext E4
  have Kp_E4 : Keep h0 h4 [a1] := (Keep.refl h0 [a1]).ext E4
  obtain ⟨_, _, _, X5, hQ5, st5⟩ := cS X4 hx hZ4 hw hown4 (y := y48) 302 rfl 303 rfl 245 rfl 304 rfl (by decide) (W := 0) (r48_1 hw a2 a4 O_E4) (by decide) (by decide) e4 (g := (mkF m 7 #[rv a1, rv a2, iv (0:Int32), iv (0:Int32)] [(.ref a4), (.ref a2)])) rfl (by rw [hml]; rfl) (argsL := [(.ref a2), (.ref a4)]) (rest := []) (lenOf pd2 rfl) rfl wf (hb hby d46_7) rfl (by decide) (by decide)
  obtain ⟨rfl, N5q, e5⟩ := hQ5
  have N5 := Fr.app N3 N5q
  have f7 := (H6.ext E4)
  have f9 := (H8.ext E4)
  obtain ⟨_, h10, X10, e10, W10, st10⟩ := pF X5 hx hZ4 hown4 (ow hw 305 rfl) e5 f7 f9 (Or.inr ⟨(ow hw 306 rfl), rfl, hnm⟩) (ow hw 289 rfl) (ty := (.object "java/lang/String")) (by decide) rfl rfl (g := (mkF m 31 #[rv a1, rv a2, iv (0:Int32), iv (0:Int32)] [(.ref a2), (.ref a1)])) rfl rfl (hb hby d46_31)
  have Kp_W10 : Keep h0 h10 [a1] := Kp_E4.wr W10 (mI 0 rfl)
  have N12 := Fr.snoc X10 N5 H11
  have f15 := (f9.wr W10)
  have f16 := ((H14.ext E4).other W10 (Or.inr (sn44 hw)))
  obtain ⟨_, h17, X17, e17, W17, st17⟩ := pF X10 hx hZ4 hown4 (ow hw 307 rfl) e10 f16 f15 (Or.inr ⟨(ow hw 308 rfl), rfl, hnm⟩) (ow hw 289 rfl) (ty := .boolean) (by decide) rfl rfl (g := (mkF m 36 #[rv a1, rv a2, iv (0:Int32), iv (0:Int32)] [(.int (0:Int32)), (.ref a1)])) rfl rfl (hb hby d46_36)
  have Kp_W17 : Keep h0 h17 [a1] := Kp_W10.wr W17 (mI 0 rfl)
  have N18 := Fr.snoc X17 N12 H11
  have f19 := f16.same W17
  have f21 := (f15.wr W17)
  have f22 := (((H20.ext E4).other W10 (Or.inr (sn45 hw))).other W17 (Or.inr (sn46 hw)))
  obtain ⟨T23, h23, X23, e23, W23, st23⟩ := pF X17 hx hZ4 hown4 (ow hw 309 rfl) e17 f22 f21 (Or.inr ⟨(ow hw 310 rfl), rfl, hnm⟩) (ow hw 289 rfl) (ty := .boolean) (by decide) rfl rfl (g := (mkF m 41 #[rv a1, rv a2, iv (0:Int32), iv (0:Int32)] [(.int (0:Int32)), (.ref a1)])) rfl rfl (hb hby d46_41)
  have Kp_W23 : Keep h0 h23 [a1] := Kp_W17.wr W23 (mI 0 rfl)
  have N24 := Fr.snoc X23 N18 H11
  have f26 := (f21.wr W23)
  have f27 := (f19.other W23 (Or.inr (sn47 hw)))
  obtain ⟨_, hr, hrun, hended, hE⟩ := Stand.leaveW (s := s) (vm₁ := T4.vm) X23 hS4 (by rw [e23]; exact (Nat.le_trans (Nat.le_trans (Nat.le_trans hk4 (Keep.of_wr W10).1) (Keep.of_wr W17).1) (Keep.of_wr W23).1)) (v := none) (fun _ => rfl)
  refine ⟨_, _, ?_, hrun, hended, _, _, rfl, ?_, hE.1, hE.2.1, hE.2.2.1, hE.2.2.2.mono (by decide) (by decide)⟩
  · show St p e below s₁ m 0 #[rv a1, rv a2, iv (0:Int32), iv (0:Int32)] [] _
    refine aN X0 hx hby d46_0 rfl rfl ?_
    refine st3.trans ?_
    refine aN X3 hx hby d46_4 rfl rfl ?_
    refine st4 _ ?_
    refine st5 _ ?_
    refine XS.pop X5.here hx rfl (hb hby d46_10) rfl rfl ?_
    refine iN X5 hx hby d46_11 rfl ?_
    refine XS.ifYes X5.here hx rfl (pc0 := 12) (pc' := 29) rfl (hb hby d46_12) rfl ((if0 _ _).trans (teq (rfl : (0:Int32) = (0:Int32))).1) (by decide) (by decide) ?_
    refine aN X5 hx hby d46_29 rfl rfl ?_
    refine aN X5 hx hby d46_30 rfl rfl ?_
    refine st10 _ ?_
    refine aN X10 hx hby d46_34 rfl rfl ?_
    refine iN X10 hx hby d46_35 rfl ?_
    refine st17 _ ?_
    refine aN X17 hx hby d46_39 rfl rfl ?_
    refine iN X17 hx hby d46_40 rfl ?_
    refine st23 _ ?_
    exact X23.returnOut hx Bd.returns (hb hby d46_44) hr
  · show r46_1Q Z a1 a2 h0 n0 _ T23.heap _
    rw [e23]
    exact ⟨rfl, N24, Kp_W23, f26, f27⟩
theorem pd12 : parseMethodDescriptor "(Ljava/lang/String;ZZ)V" = some ⟨[(.object "java/lang/String"), .boolean, .boolean], none⟩ := by decide +kernel
theorem g1_26 (p1 p2 p3 p4:Int32) (a5 : Addr) (p6 p7:Int32) (a8 a9 a10 a11 a12 : Addr) (p13:Int32)
    (H0 : SG p l e R s m args below meth c T0 locs cells slots Z a0 h0 n0 5 31 3 40) (hc14 : ¬ (p7 = (0:Int32))) (pin15 : (p3 &&& (1:Int32)) = (0:Int32)) (pin16 : (p3 &&& (2:Int32)) = (0:Int32)) :
    ∃ (T' : State) (h' : Heap) (L' : List Loc) (vm' : Vm) (b17 : Addr), Stand p l e R (s.setVm vm') m args below meth c T' L' (cells + 5) (slots + 31) ∧ T'.heap = h' ∧ s.Since vm' h'.size ∧ Fr n0 L' ∧ Keep h0 h' [] ∧ h0.size ≤ b17 ∧ xE26 Z h' b17 ∧ xF27 Z h' b17 (.int (0:Int32)) ∧
      ∀ target, St p e below T' m 246 #[iv p1, iv p2, iv p3, iv p4, rv a5, iv p6, iv p7, rv a8, rv a9, rv a10, rv a11, rv a12, iv p13, rv b17, iv (0:Int32), iv (0:Int32), un, un, un] [] target → St p e below T0 m 180 #[iv p1, iv p2, iv p3, iv p4, rv a5, iv p6, iv p7, rv a8, rv a9, rv a10, rv a11, rv a12, iv p13, un, un, un, un, un, un] [] target := by
  obtain ⟨X0, hx, hZ, hw, hby, hml, hown, e0, O0, N0, rc, rs, rf, rl⟩ := H0
  obtain ⟨_, h17, X17, e17, E17, A17, D17, -, st17⟩ := newO X0 hx hZ hown (ow hw 288 rfl) (ow hw 289 rfl) (ow hw 290 rfl) e0 (g := (mkF m 231 #[iv p1, iv p2, iv p3, iv p4, rv a5, iv p6, iv p7, rv a8, rv a9, rv a10, rv a11, rv a12, iv p13, .val .null, iv (0:Int32), iv (0:Int32), un, un, un] [])) rfl (hb hby at_231) (by omega) (by omega)
  obtain ⟨b17, g17⟩ : ∃ z, z = h0.size := ⟨_, rfl⟩
  rw [← g17] at A17 D17 st17
  have O_E17 : Old Z n0 h17 := O0.ext E17
  have Kp_E17 : Keep h0 h17 [] := (Keep.refl h0 []).ext E17
  obtain ⟨a18, T18, h18, _, X18, e18, E18, hS18, hk18, hZ18, hown18, st18⟩ := ldcS (s := s) (vm0 := s.vm) X17 hx hZ (own := "tabula/engine/ConceptOperandsPinLaw") hown (ow hw 291 rfl) (fun d hd => hw d (strW d hd)) e17 (State.WarmedH.since (State.WarmedH.refl s) 0) (Nat.zero_le _) (g := (mkF m 235 #[iv p1, iv p2, iv p3, iv p4, rv a5, iv p6, iv p7, rv a8, rv a9, rv a10, rv a11, rv a12, iv p13, .val .null, iv (0:Int32), iv (0:Int32), un, un, un] [(.ref b17), (.ref b17)])) rfl (hb hby at_235) (n := 4) (by decide) (by decide) (by omega) (by omega)
  have O_E18 : Old Z n0 h18 := O_E17.ext E18
  have Kp_E18 : Keep h0 h18 [] := Kp_E17.ext E18
  have f19 : xF25 Z h17 b17 .null := D17 (Or.inr (ow hw 306 rfl)) (ty := (.object "java/lang/String")) (by decide)
  have f20 := (f19.ext E18)
  have f21 := (A17.ext E18)
  have g22 : n0 ≤ b17 := Nat.le_trans (Nat.le_trans (Nat.le_of_eq O0.1.symm) O0.2.1) (Nat.le_of_eq g17.symm)
  have f23 : xF27 Z h17 b17 (.int (0:Int32)) := D17 (Or.inr (ow hw 308 rfl)) (ty := .boolean) (by decide)
  have f24 := (f23.ext E18)
  have f25 : xF28 Z h17 b17 (.int (0:Int32)) := D17 (Or.inr (ow hw 310 rfl)) (ty := .boolean) (by decide)
  have f26 := (f25.ext E18)
  obtain ⟨T27, _, _, X27, hSq27, hg27, hQ27, st27⟩ := flS X18 (X18.specialBackS hx (y := y46) rfl hown18 (mo hZ18 hw 292 rfl) (mo hZ18 hw 293 rfl) (mo hZ18 hw 294 rfl) (by decide) (backOfS (W := 1) (r46_1 hw b17 a18 O_E18 f20 f21 g22 f24 f26) hZ18 (ow hw 294 rfl) (ow hw 290 rfl) (by show 2 + 1 ≤ R.frames; omega) (by show 1 + (4 + 11) + 24 ≤ R.locals; omega)) (g := (mkF m 241 #[iv p1, iv p2, iv p3, iv p4, rv a5, iv p6, iv p7, rv a8, rv a9, rv a10, rv a11, rv a12, iv p13, .val .null, iv (0:Int32), iv (0:Int32), un, un, un] [(.int (0:Int32)), (.int (0:Int32)), (.ref a18), (.ref b17), (.ref b17)])) rfl (by rw [hml]; rfl) (Steps.refl _) (a := b17) (argsL := [(.ref a18), (.int (0:Int32)), (.int (0:Int32))]) (rest := [(.ref b17)]) (lenOf pd12 rfl) rfl wf (hb hby at_241) (fun _ _ => ⟨rfl, e18, (by show cells + 3 + 2 ≤ R.cells; omega), (by show slots + 11 + 20 ≤ R.slots; omega)⟩))
  obtain ⟨Y27, hS27, _, _⟩ := rebS (s := s) (vm0 := T18.vm) hS18 (by rw [e18]; exact hk18) X27 hSq27 hg27 hZ18 hown18
  obtain ⟨rfl, N27q, K27, f27_1, f27_2⟩ := hQ27
  have N27 := Fr.app N0 N27q
  have z28 : h0.size ≤ b17 := Nat.le_trans (Keep.refl h0 []).1 (Nat.le_of_eq g17.symm)
  have Kp_K27 : Keep h0 T27.heap [] := Kp_E18.trans K27 (allS (Or.inr z28) all0)
  replace Y27 : Stand p l e R _ m args below meth c T27 _ (cells + 5) (slots + 31) := Y27
  refine ⟨T27, _, _, T27.vm, b17, Y27.more (by omega) (by omega), rfl, own_since hS27 (Nat.le_refl _), N27, Kp_K27, z28, f27_1, f27_2, fun target kt => ?_⟩
  show St p e below T0 m 180 #[iv p1, iv p2, iv p3, iv p4, rv a5, iv p6, iv p7, rv a8, rv a9, rv a10, rv a11, rv a12, iv p13, un, un, un, un, un, un] [] _
  refine XS.aconstNull X0.here hx rfl (hb hby at_180) ?_
  refine XS.astore X0.here hx rfl (hb hby at_181) rfl rfl (l' := #[iv p1, iv p2, iv p3, iv p4, rv a5, iv p6, iv p7, rv a8, rv a9, rv a10, rv a11, rv a12, iv p13, .val .null, un, un, un, un, un]) rfl ?_
  refine iL X0 hx hby at_183 rfl ?_
  refine XS.ifNo X0.here hx rfl (hb hby at_185) rfl ((if0 _ _).trans (feq hc14).1) ?_
  refine iN X0 hx hby at_188 rfl ?_
  refine iC X0 hx hby at_189 ?_
  refine XS.iand X0.here hx rfl (hb hby at_190) rfl ?_
  show St p e below T0 m 191 #[iv p1, iv p2, iv p3, iv p4, rv a5, iv p6, iv p7, rv a8, rv a9, rv a10, rv a11, rv a12, iv p13, .val .null, un, un, un, un, un] [(.int (p3 &&& (1:Int32)))] _
  rw [pin15]
  refine XS.ifYes X0.here hx rfl (pc0 := 191) (pc' := 210) rfl (hb hby at_191) rfl ((if0 _ _).trans (teq (rfl : (0:Int32) = (0:Int32))).1) (by decide) (by decide) ?_
  refine iC X0 hx hby at_210 ?_
  refine XS.istore X0.here hx rfl (hb hby at_211) rfl (l' := #[iv p1, iv p2, iv p3, iv p4, rv a5, iv p6, iv p7, rv a8, rv a9, rv a10, rv a11, rv a12, iv p13, .val .null, iv (0:Int32), un, un, un, un]) rfl ?_
  refine iL X0 hx hby at_213 rfl ?_
  refine XS.ifNo X0.here hx rfl (hb hby at_215) rfl ((if0 _ _).trans (teq (rfl : (0:Int32) = (0:Int32))).2) ?_
  refine iN X0 hx hby at_218 rfl ?_
  refine iC X0 hx hby at_219 ?_
  refine XS.iand X0.here hx rfl (hb hby at_220) rfl ?_
  show St p e below T0 m 221 #[iv p1, iv p2, iv p3, iv p4, rv a5, iv p6, iv p7, rv a8, rv a9, rv a10, rv a11, rv a12, iv p13, .val .null, iv (0:Int32), un, un, un, un] [(.int (p3 &&& (2:Int32)))] _
  rw [pin16]
  refine XS.ifYes X0.here hx rfl (pc0 := 221) (pc' := 228) rfl (hb hby at_221) rfl ((if0 _ _).trans (teq (rfl : (0:Int32) = (0:Int32))).1) (by decide) (by decide) ?_
  refine iC X0 hx hby at_228 ?_
  refine XS.istore X0.here hx rfl (hb hby at_229) rfl (l' := #[iv p1, iv p2, iv p3, iv p4, rv a5, iv p6, iv p7, rv a8, rv a9, rv a10, rv a11, rv a12, iv p13, .val .null, iv (0:Int32), iv (0:Int32), un, un, un]) rfl ?_
  refine st17 _ ?_
  refine XS.dup X17.here hx rfl (hb hby at_234) rfl rfl ?_
  refine st18 _ ?_
  refine iL X18 hx hby at_237 rfl ?_
  refine iL X18 hx hby at_239 rfl ?_
  refine st27.trans ?_
  refine XS.astore Y27.here hx rfl (hb hby at_244) rfl rfl (l' := #[iv p1, iv p2, iv p3, iv p4, rv a5, iv p6, iv p7, rv a8, rv a9, rv a10, rv a11, rv a12, iv p13, rv b17, iv (0:Int32), iv (0:Int32), un, un, un]) rfl ?_
  exact kt
theorem g1_27 (p1 p2 p3 p4:Int32) (a5 : Addr) (p6 p7:Int32) (a8 a9 a10 a11 a12 : Addr) (p13:Int32) (a14 : Addr) (p15 p16:Int32)
    (H0 : SG p l e R s m args below meth c T0 locs cells slots Z a0 h0 n0 0 0 0 0) (hc17 : ¬ (p4 = (2:Int32))) (hc18 : ¬ (p4 = (3:Int32))) :
    ∃ (T' : State) (L' : List Loc), Stand p l e R s m args below meth c T' L' (cells + 0) (slots + 0) ∧ T'.heap = h0 ∧ Fr n0 L' ∧
      ∀ target, St p e below T' m 264 #[iv p1, iv p2, iv p3, iv p4, rv a5, iv p6, iv p7, rv a8, rv a9, rv a10, rv a11, rv a12, iv p13, rv a14, .val .null, iv p16, un, un, un] [] target → St p e below T0 m 246 #[iv p1, iv p2, iv p3, iv p4, rv a5, iv p6, iv p7, rv a8, rv a9, rv a10, rv a11, rv a12, iv p13, rv a14, iv p15, iv p16, un, un, un] [] target := by
  obtain ⟨X0, hx, hZ, hw, hby, hml, hown, e0, O0, N0, rc, rs, rf, rl⟩ := H0
  refine ⟨T0, _, X0.more (by omega) (by omega), e0, N0, fun target kt => ?_⟩
  show St p e below T0 m 246 #[iv p1, iv p2, iv p3, iv p4, rv a5, iv p6, iv p7, rv a8, rv a9, rv a10, rv a11, rv a12, iv p13, rv a14, iv p15, iv p16, un, un, un] [] _
  refine iN X0 hx hby at_246 rfl ?_
  refine iC X0 hx hby at_247 ?_
  refine XS.icmpNo X0.here hx rfl (hb hby at_248) rfl (feq hc17).1 ?_
  refine iN X0 hx hby at_251 rfl ?_
  refine iC X0 hx hby at_252 ?_
  refine XS.icmpYes X0.here hx rfl (pc0 := 253) (pc' := 261) rfl (hb hby at_253) rfl (feq hc18).2 (by decide) (by decide) ?_
  refine XS.aconstNull X0.here hx rfl (hb hby at_261) ?_
  refine XS.astore X0.here hx rfl (hb hby at_262) rfl rfl (l' := #[iv p1, iv p2, iv p3, iv p4, rv a5, iv p6, iv p7, rv a8, rv a9, rv a10, rv a11, rv a12, iv p13, rv a14, .val .null, iv p16, un, un, un]) rfl ?_
  exact kt
theorem d16_6 : dk method_3_code 6 (.iconst 1) 1 := by decide +kernel
theorem d16_7 : dk method_3_code 7 .ireturn 1 := by decide +kernel
def r16_2Q (Z : State) (p1 p2:Int32) (h0 : Heap) (n0 : Nat) : QT := fun v h L => v = some (.int (1:Int32)) ∧ Fr n0 L ∧ h = h0
theorem r16_2 (hw : HW a0 Z) (p1 p2:Int32) (O0 : Old Z n0 h0) (hc3 : p1 = (6:Int32)) :
    MF l y16 method_3_code 2 (some .int) [] (rM 0 0 0 0) Z #[(.int p1), (.int p2)] h0 (r16_2Q Z p1 p2 h0 n0) := by
  refine own_in (pq pn4) #[iv p1, iv p2] (fun _ => by first | (simp [entryFrame, mkF, argsToLocals, Value.category]; done) | rfl) ?_
  intro p e s m below meth c s₁ Bd hx hby hml hown hnm hZ e0 X0
  have N0 := Fr.nil n0
  refine fin (Q := r16_2Q Z p1 p2 h0 n0) (rm := (rM 0 0 0 0)) Bd X0 e0 (some (.int (1:Int32))) nofun ⟨rfl, N0, rfl⟩ (by decide) (by decide) fun fs hr => ?_
  show St p e below s₁ m 0 #[iv p1, iv p2] [] _
  refine iN X0 hx hby d16_0 rfl ?_
  refine XS.bipush X0.here hx rfl (hb hby d16_1) ?_
  refine XS.icmpNo X0.here hx rfl (hb hby d16_3) rfl (teq hc3).2 ?_
  refine iC X0 hx hby d16_6 ?_
  exact retI X0 hx Bd.returns (hb hby d16_7) hr
theorem g1_28 (p1 p2 p3 p4:Int32) (a5 : Addr) (p6 p7:Int32) (a8 a9 a10 a11 a12 : Addr) (p13:Int32) (a14 : Addr) (p15:Int32)
    (H0 : SG p l e R s m args below meth c T0 locs cells slots Z a0 h0 n0 0 0 1 13) (hc16 : p4 = (6:Int32)) :
    ∃ (T' : State) (L' : List Loc), Stand p l e R s m args below meth c T' L' (cells + 0) (slots + 0) ∧ T'.heap = h0 ∧ Fr n0 L' ∧
      ∀ target, St p e below T' m 271 #[iv p1, iv p2, iv p3, iv p4, rv a5, iv p6, iv p7, rv a8, rv a9, rv a10, rv a11, rv a12, iv p13, rv a14, .val .null, iv (1:Int32), un, un, un] [] target → St p e below T0 m 264 #[iv p1, iv p2, iv p3, iv p4, rv a5, iv p6, iv p7, rv a8, rv a9, rv a10, rv a11, rv a12, iv p13, rv a14, .val .null, iv p15, un, un, un] [] target := by
  obtain ⟨X0, hx, hZ, hw, hby, hml, hown, e0, O0, N0, rc, rs, rf, rl⟩ := H0
  obtain ⟨T17, _, _, X17, hQ17, st17⟩ := cS X0 hx hZ hw hown (y := y16) 133 rfl 134 rfl 3 rfl 135 rfl (by decide) (W := 0) (r16_2 hw p4 p2 O0 hc16) (by show 0 + 1 ≤ R.frames; omega) (by show 0 + (2 + 11) + 0 ≤ R.locals; omega) e0 (g := (mkF m 266 #[iv p1, iv p2, iv p3, iv p4, rv a5, iv p6, iv p7, rv a8, rv a9, rv a10, rv a11, rv a12, iv p13, rv a14, .val .null, iv p15, un, un, un] [(.int p2), (.int p4)])) rfl (by rw [hml]; rfl) (argsL := [(.int p4), (.int p2)]) (rest := []) (lenOf pd21 rfl) rfl wf (hb hby at_266) rfl (by show cells + 0 + 0 ≤ R.cells; omega) (by show slots + 0 + 0 ≤ R.slots; omega)
  obtain ⟨rfl, N17q, e17⟩ := hQ17
  have N17 := Fr.app N0 N17q
  replace X17 : Stand p l e R _ m args below meth c T17 _ (cells + 0) (slots + 0) := X17
  refine ⟨T17, _, X17.more (by omega) (by omega), e17, N17, fun target kt => ?_⟩
  show St p e below T0 m 264 #[iv p1, iv p2, iv p3, iv p4, rv a5, iv p6, iv p7, rv a8, rv a9, rv a10, rv a11, rv a12, iv p13, rv a14, .val .null, iv p15, un, un, un] [] _
  refine iN X0 hx hby at_264 rfl ?_
  refine iN X0 hx hby at_265 rfl ?_
  refine st17 _ ?_
  refine XS.istore X17.here hx rfl (hb hby at_269) rfl (l' := #[iv p1, iv p2, iv p3, iv p4, rv a5, iv p6, iv p7, rv a8, rv a9, rv a10, rv a11, rv a12, iv p13, rv a14, .val .null, iv (1:Int32), un, un, un]) rfl ?_
  exact kt
def r8_4Q (Z : State) (a1 : Addr) (h0 : Heap) (n0 : Nat) : QT := fun v h L => v = some (.int (0:Int32)) ∧ Fr n0 L ∧ h = h0
theorem r8_4 (hw : HW a0 Z) (a1 : Addr) (O0 : Old Z n0 h0) (H2 : xF3 Z h0 a1 (.int (1:Int32))) :
    MF l y8 cJ38_9 1 (some .boolean) [] (rM 0 0 0 0) Z #[(.ref a1)] h0 (r8_4Q Z a1 h0 n0) := by
  refine own_in (pq pn10) #[rv a1] (fun _ => by first | (simp [entryFrame, mkF, argsToLocals, Value.category]; done) | rfl) ?_
  intro p e s m below meth c s₁ Bd hx hby hml hown hnm hZ e0 X0
  have N0 := Fr.nil n0
  obtain ⟨_, X3, e3, st3⟩ := gF X0 hx hZ hown (ow hw 84 rfl) e0 H2 (g := (mkF m 1 #[rv a1] [(.ref a1)])) rfl rfl (hb hby d8_1)
  refine fin (Q := r8_4Q Z a1 h0 n0) (rm := (rM 0 0 0 0)) Bd X3 e3 (some (.int (0:Int32))) nofun ⟨rfl, N0, rfl⟩ (by decide) (by decide) fun fs hr => ?_
  show St p e below s₁ m 0 #[rv a1] [] _
  refine aN X0 hx hby d8_0 rfl rfl ?_
  refine st3 _ ?_
  refine XS.ifYes X3.here hx rfl (pc0 := 4) (pc' := 11) rfl (hb hby d8_4) rfl ((if0 _ _).trans (feq (by decide : ¬ ((1:Int32) = (0:Int32)))).2) (by decide) (by decide) ?_
  refine iC X3 hx hby d8_11 ?_
  exact retN X3 hx (t := .boolean) Bd.returns (by simp) (hb hby d8_12) hr
def r28_3Q (Z : State) (h0 : Heap) (n0 : Nat) : QT := fun v h L => v = some (.int (1:Int32)) ∧ Fr n0 L ∧ h = h0
theorem r28_3 (hw : HW a0 Z) (O0 : Old Z n0 h0) :
    MF l y28 jdk_29_method_69_code 2 (some .int) [] (rM 0 0 0 0) Z #[(.int (10:Int32)), (.int (1:Int32))] h0 (r28_3Q Z h0 n0) := by
  refine own_in (Jvm.Free.JP.mathPlain rfl (by decide +kernel)) #[iv (10:Int32), iv (1:Int32)] (fun _ => by first | (simp [entryFrame, mkF, argsToLocals, Value.category]; done) | rfl) ?_
  intro p e s m below meth c s₁ Bd hx hby hml hown hnm hZ e0 X0
  have N0 := Fr.nil n0
  refine fin (Q := r28_3Q Z h0 n0) (rm := (rM 0 0 0 0)) Bd X0 e0 (some (.int (1:Int32))) nofun ⟨rfl, N0, rfl⟩ (by decide) (by decide) fun fs hr => ?_
  show St p e below s₁ m 0 #[iv (10:Int32), iv (1:Int32)] [] _
  refine iN X0 hx hby d28_0 rfl ?_
  refine iN X0 hx hby d28_1 rfl ?_
  refine XS.icmpYes X0.here hx rfl (pc0 := 2) (pc' := 9) rfl (hb hby d28_2) rfl (tlt (by decide : (1:Int32) < (10:Int32))).2.2.1 (by decide) (by decide) ?_
  refine iN X0 hx hby d28_9 rfl ?_
  exact retI X0 hx Bd.returns (hb hby d28_10) hr
def r27_3Q (Z : State) (a1 a2 : Addr) (k7 : ClassId) (a8 : Addr) (h0 : Heap) (n0 : Nat) : QT := fun v h L => ∃ (b5 : Addr) (k5 : ClassId), v = some (.ref b5) ∧ Fr n0 L ∧ Keep h0 h [] ∧ h0.size ≤ b5 ∧ Arv Z h b5 k5 (.object "java/lang/Object") (1:Int32) [(.ref a8)] .null ∧ xE19 Z h b5 ∧ Ovr Z k5 "java/lang/Object"
theorem r27_3 (hw : HW a0 Z) (a1 a2 : Addr) (k7 : ClassId) (a8 : Addr) (O0 : Old Z n0 h0) (H3 : Mi Z "[Ljava/lang/Object;" a2) (H9 : Arv Z h0 a1 k7 (.object "java/lang/Object") (10:Int32) [(.ref a8), .null, .null, .null, .null, .null, .null, .null, .null, .null] .null) (H13 : xE5 Z h0 a8) :
    MF l y27 cJ65_120 4 (some (.array (.object "java/lang/Object"))) [] (rM 1 1 1 18) Z #[(.ref a1), (.int (1:Int32)), (.ref a2)] h0 (r27_3Q Z a1 a2 k7 a8 h0 n0) := by
  refine own_in (pq pn14) #[rv a1, iv (1:Int32), rv a2, un] (fun _ => by first | (simp [entryFrame, mkF, argsToLocals, Value.category]; done) | rfl) ?_
  intro p e s m below meth c s₁ Bd hx hby hml hown hnm hZ e0 X0
  have N0 := Fr.nil n0
  obtain ⟨_, X4, e4, st4⟩ := own_ldcM X0 hx hZ hown (ow hw 210 rfl) e0 H3 (g := (mkF m 1 #[rv a1, iv (1:Int32), rv a2, un] [(.ref a2)])) rfl (hb hby d27_1)
  obtain ⟨_, h5, k5, X5, e5, E5, A5, C5, Ov5, st5⟩ := newRE X4 hx hZ hown (ow hw 211 rfl) (ow hw 187 rfl) e4 (g := (mkF m 7 #[rv a1, iv (1:Int32), rv a2, un] [(.int (1:Int32))])) rfl (hb hby d27_7) rfl (by decide) (cap := 1) (by decide) (by decide) (by decide) (by decide) (ad := "[Ljava/lang/Object;") (by decide)
  obtain ⟨b5, g5⟩ : ∃ z, z = h0.size := ⟨_, rfl⟩
  rw [← g5] at A5 C5 st5
  have O_E5 : Old Z n0 h5 := O0.ext E5
  have Kp_E5 : Keep h0 h5 [] := (Keep.refl h0 []).ext E5
  have V5 : Arv Z h5 b5 k5 (.object "java/lang/Object") (1:Int32) [.null] .null := (Arv.new A5 (by decide)).pad (pad_rep [] .null 1)
  have f10 := (H9.ext E5)
  obtain ⟨_, Ar6, _, S6, M6, _, _⟩ := id f10
  obtain ⟨_, _, _, X11, hQ11, st11⟩ := cS X5 hx hZ hw hown (y := y28) 212 rfl 213 rfl 184 rfl 214 rfl (by decide) (W := 4) (r28_3 hw O_E5) (by decide) (by decide) e5 (g := (mkF m 32 #[rv a1, iv (1:Int32), rv a2, rv b5] [(.int (1:Int32)), (.int (10:Int32)), (.int (0:Int32)), (.ref b5), (.int (0:Int32)), (.ref a1)])) rfl (by rw [hml]; rfl) (argsL := [(.int (10:Int32)), (.int (1:Int32))]) (rest := [(.int (0:Int32)), (.ref b5), (.int (0:Int32)), (.ref a1)]) (lenOf pd21 rfl) rfl wf (hb hby d27_32) rfl (by decide) (by decide)
  obtain ⟨rfl, N11q, e11⟩ := hQ11
  have N11 := Fr.app N0 N11q
  obtain ⟨_, Ar12, q12, -⟩ := id V5
  have f14 := (H13.ext E5)
  have g15 : n0 ≤ b5 := Nat.le_trans (Nat.le_trans (Nat.le_of_eq O0.1.symm) O0.2.1) (Nat.le_of_eq g5.symm)
  obtain ⟨_, h12, _, X12, e12, N12, K12, V12, st12⟩ := cpA X11 hx hZ hown (ow hw 215 rfl) (ow hw 218 rfl) (ow hw 216 rfl) (ow hw 217 rfl) e11 f10 V5 (us := [(.ref a8)]) (Or.inr ⟨rfl, rfl, ⟨Sto.ofV Ar12 q12 Ov5 (Ins.of_exa f14 (ow hw 188 rfl)), trivial⟩⟩) (by decide) (by decide) (by decide) (by decide) (by decide) rfl (by decide) N11 g15 (g := (mkF m 35 #[rv a1, iv (1:Int32), rv a2, rv b5] [(.int (1:Int32)), (.int (0:Int32)), (.ref b5), (.int (0:Int32)), (.ref a1)])) rfl (by rw [hml]; rfl) rfl (hb hby d27_35) (by decide) (W := 0) wf (by decide)
  have z16 : h0.size ≤ b5 := Nat.le_trans (Keep.refl h0 []).1 (Nat.le_of_eq g5.symm)
  have Kp_K12 : Keep h0 h12 [] := Kp_E5.trans K12 (allS (Or.inr z16) all0)
  have f17 : Arv Z h12 b5 k5 (.object "java/lang/Object") (1:Int32) [(.ref a8)] .null := V12
  have f18 := (C5.keep K12)
  have f19 := Ov5
  refine fin (Q := r27_3Q Z a1 a2 k7 a8 h0 n0) (rm := (rM 1 1 1 18)) Bd X12 e12 (some (.ref b5)) nofun ⟨b5, k5, rfl, N12, Kp_K12, z16, f17, f18, f19⟩ (by decide) (by decide) fun fs hr => ?_
  show St p e below s₁ m 0 #[rv a1, iv (1:Int32), rv a2, un] [] _
  refine aN X0 hx hby d27_0 rfl rfl ?_
  refine st4 _ ?_
  refine Jvm.RoadKit.acmp (g := (mkF m 3 #[rv a1, iv (1:Int32), rv a2, un] [(.ref a2), (.ref a2)])) X4 hx rfl rfl rfl (pc0 := 3) (pc' := 6) (same := true) rfl (hb hby d27_3) rfl (decide_eq_true rfl) (by decide) (by decide) ?_
  refine iN X4 hx hby d27_6 rfl ?_
  refine st5 _ ?_
  refine XS.goto X5.here hx rfl (pc0 := 10) (pc' := 24) rfl (hb hby d27_10) (by decide) (by decide) ?_
  refine XS.astoreN X5.here hx rfl (hb hby d27_24) rfl rfl (l' := #[rv a1, iv (1:Int32), rv a2, rv b5]) rfl ?_
  refine aN X5 hx hby d27_25 rfl rfl ?_
  refine iC X5 hx hby d27_26 ?_
  refine aN X5 hx hby d27_27 rfl rfl ?_
  refine iC X5 hx hby d27_28 ?_
  refine aN X5 hx hby d27_29 rfl rfl ?_
  refine X5.arraylength hx (by rw [e5]; exact Ar6.1) (State.isArrayOf_alike hZ.alike Ar6.2.1) (g := (mkF m 30 #[rv a1, iv (1:Int32), rv a2, rv b5] [(.ref a1), (.int (0:Int32)), (.ref b5), (.int (0:Int32)), (.ref a1)])) rfl rfl (hb hby d27_30) _ ?_
  rw [len_of S6 M6]
  refine iN X5 hx hby d27_31 rfl ?_
  refine st11 _ ?_
  refine st12 _ ?_
  refine aN X12 hx hby d27_38 rfl rfl ?_
  exact retA X12 hx Bd.returns rfl rfl (hb hby d27_39) hr
def r26_3Q (Z : State) (a1 a3 : Addr) (k6 : ClassId) (a7 : Addr) (h0 : Heap) (n0 : Nat) : QT := fun v h L => ∃ (b10_0 : Addr) (k10_0 : ClassId), v = some (.ref b10_0) ∧ Fr n0 L ∧ Keep h0 h [] ∧ h0.size ≤ b10_0 ∧ Arv Z h b10_0 k10_0 (.object "java/lang/Object") (1:Int32) [(.ref a7)] .null ∧ xE19 Z h b10_0 ∧ Ovr Z k10_0 "java/lang/Object"
theorem r26_3 (hw : HW a0 Z) (a1 a3 : Addr) (k6 : ClassId) (a7 : Addr) (O0 : Old Z n0 h0) (H2 : xE19 Z h0 a1) (H4 : Mi Z "[Ljava/lang/Object;" a3) (H8 : Arv Z h0 a1 k6 (.object "java/lang/Object") (10:Int32) [(.ref a7), .null, .null, .null, .null, .null, .null, .null, .null, .null] .null) (H9 : xE5 Z h0 a7) :
    MF l y26 cJ65_119 2 (some (.array (.object "java/lang/Object"))) [] (rM 2 1 1 33) Z #[(.ref a1), (.int (1:Int32))] h0 (r26_3Q Z a1 a3 k6 a7 h0 n0) := by
  refine own_in (pq pn14) #[rv a1, iv (1:Int32)] (fun _ => by first | (simp [entryFrame, mkF, argsToLocals, Value.category]; done) | rfl) ?_
  intro p e s m below meth c s₁ Bd hx hby hml hown hnm hZ e0 X0
  have N0 := Fr.nil n0
  obtain ⟨_, X5, e5, st5⟩ := own_gcls X0 hx hZ hown (ow hw 201 rfl) (ow hw 202 rfl) (ow hw 73 rfl) (ow hw 204 rfl) (ow hw 203 rfl) (ow hw 205 rfl) e0 H2 H4 (g := (mkF m 3 #[rv a1, iv (1:Int32)] [(.ref a1), (.int (1:Int32)), (.ref a1)])) rfl (by rw [hml]; rfl) rfl (hb hby d26_3) (by decide) (W := 2) wf (by decide)
  obtain ⟨T10, _, _, X10, hQ10, st10⟩ := cS X5 hx hZ hw hown (y := y27) 207 rfl 208 rfl 199 rfl 209 rfl (by decide) (W := 0) (r27_3 hw a1 a3 k6 a7 O0 H4 H8 H9) (by decide) (by decide) e5 (g := (mkF m 6 #[rv a1, iv (1:Int32)] [(.ref a3), (.int (1:Int32)), (.ref a1)])) rfl (by rw [hml]; rfl) (argsL := [(.ref a1), (.int (1:Int32)), (.ref a3)]) (rest := []) (lenOf pd1 rfl) rfl wf (hb hby d26_6) rfl (by decide) (by decide)
  obtain ⟨b10_0, k10_0, rfl, N10q, K10, lo10_1, f10_2, f10_3, f10_4⟩ := hQ10
  have N10 := Fr.app N0 N10q
  have Kp_K10 : Keep h0 T10.heap [] := (Keep.refl h0 []).trans K10 all0
  have z11 : h0.size ≤ b10_0 := Nat.le_trans (Keep.refl h0 []).1 lo10_1
  refine fin (Q := r26_3Q Z a1 a3 k6 a7 h0 n0) (rm := (rM 2 1 1 33)) Bd X10 rfl (some (.ref b10_0)) nofun ⟨b10_0, k10_0, rfl, N10, Kp_K10, z11, f10_2, f10_3, f10_4⟩ (by decide) (by decide) fun fs hr => ?_
  show St p e below s₁ m 0 #[rv a1, iv (1:Int32)] [] _
  refine aN X0 hx hby d26_0 rfl rfl ?_
  refine iN X0 hx hby d26_1 rfl ?_
  refine aN X0 hx hby d26_2 rfl rfl ?_
  refine st5 _ ?_
  refine st10 _ ?_
  exact retA X10 hx Bd.returns rfl rfl (hb hby d26_9) hr
def r25_3Q (Z : State) (a1 a2 a8 : Addr) (k10 : ClassId) (a11 : Addr) (h0 : Heap) (n0 : Nat) : QT := fun v h L => ∃ (b14_0 : Addr) (k14_0 : ClassId), v = some (.ref b14_0) ∧ Fr n0 L ∧ Keep h0 h [] ∧ h0.size ≤ b14_0 ∧ Arv Z h b14_0 k14_0 (.object "java/lang/Object") (1:Int32) [(.ref a11)] .null ∧ xE19 Z h b14_0 ∧ Ovr Z k14_0 "java/lang/Object"
theorem r25_3 (hw : HW a0 Z) (a1 a2 a8 : Addr) (k10 : ClassId) (a11 : Addr) (O0 : Old Z n0 h0) (H3 : xF2 Z h0 a1 (.ref a2)) (H5 : xF3 Z h0 a1 (.int (1:Int32))) (H7 : xE19 Z h0 a2) (H9 : Mi Z "[Ljava/lang/Object;" a8) (H12 : Arv Z h0 a2 k10 (.object "java/lang/Object") (10:Int32) [(.ref a11), .null, .null, .null, .null, .null, .null, .null, .null, .null] .null) (H13 : xE5 Z h0 a11) :
    MF l y25 cJ38_16 1 (some (.array (.object "java/lang/Object"))) [] (rM 3 1 1 46) Z #[(.ref a1)] h0 (r25_3Q Z a1 a2 a8 k10 a11 h0 n0) := by
  refine own_in (pq pn10) #[rv a1] (fun _ => by first | (simp [entryFrame, mkF, argsToLocals, Value.category]; done) | rfl) ?_
  intro p e s m below meth c s₁ Bd hx hby hml hown hnm hZ e0 X0
  have N0 := Fr.nil n0
  obtain ⟨_, X4, e4, st4⟩ := gF X0 hx hZ hown (ow hw 32 rfl) e0 H3 (g := (mkF m 1 #[rv a1] [(.ref a1)])) rfl rfl (hb hby d25_1)
  obtain ⟨_, X6, e6, st6⟩ := gF X4 hx hZ hown (ow hw 84 rfl) e4 H5 (g := (mkF m 5 #[rv a1] [(.ref a1), (.ref a2)])) rfl rfl (hb hby d25_5)
  obtain ⟨T14, _, _, X14, hQ14, st14⟩ := cS X6 hx hZ hw hown (y := y26) 197 rfl 198 rfl 199 rfl 200 rfl (by decide) (W := 0) (r26_3 hw a2 a8 k10 a11 O0 H7 H9 H12 H13) (by decide) (by decide) e6 (g := (mkF m 8 #[rv a1] [(.int (1:Int32)), (.ref a2)])) rfl (by rw [hml]; rfl) (argsL := [(.ref a2), (.int (1:Int32))]) (rest := []) (lenOf pd4 rfl) rfl wf (hb hby d25_8) rfl (by decide) (by decide)
  obtain ⟨b14_0, k14_0, rfl, N14q, K14, lo14_1, f14_2, f14_3, f14_4⟩ := hQ14
  have N14 := Fr.app N0 N14q
  have Kp_K14 : Keep h0 T14.heap [] := (Keep.refl h0 []).trans K14 all0
  have z15 : h0.size ≤ b14_0 := Nat.le_trans (Keep.refl h0 []).1 lo14_1
  refine fin (Q := r25_3Q Z a1 a2 a8 k10 a11 h0 n0) (rm := (rM 3 1 1 46)) Bd X14 rfl (some (.ref b14_0)) nofun ⟨b14_0, k14_0, rfl, N14, Kp_K14, z15, f14_2, f14_3, f14_4⟩ (by decide) (by decide) fun fs hr => ?_
  show St p e below s₁ m 0 #[rv a1] [] _
  refine aN X0 hx hby d25_0 rfl rfl ?_
  refine st4 _ ?_
  refine aN X4 hx hby d25_4 rfl rfl ?_
  refine st6 _ ?_
  refine st14 _ ?_
  exact retA X14 hx Bd.returns rfl rfl (hb hby d25_11) hr
theorem d30_34 : dk cJ40_47 34 (.new 96) 3 := by decide +kernel
theorem d30_37 : dk cJ40_47 37 .dup 1 := by decide +kernel
theorem d30_38 : dk cJ40_47 38 (.aload_n 0) 1 := by decide +kernel
theorem d30_39 : dk cJ40_47 39 (.iconst 0) 1 := by decide +kernel
theorem d30_40 : dk cJ40_47 40 .aaload 1 := by decide +kernel
theorem d30_41 : dk cJ40_47 41 (.invokespecial 98) 3 := by decide +kernel
theorem d49_0 : dk cJ44_1 0 (.aload_n 0) 1 := by decide +kernel
theorem d49_1 : dk cJ44_1 1 (.invokespecial 1) 3 := by decide +kernel
theorem d49_4 : dk cJ44_1 4 (.aload_n 0) 1 := by decide +kernel
theorem d49_5 : dk cJ44_1 5 (.aload_n 1) 1 := by decide +kernel
theorem d49_6 : dk cJ44_1 6 (.invokestatic 7) 3 := by decide +kernel
theorem d49_9 : dk cJ44_1 9 (.putfield 13) 3 := by decide +kernel
theorem d49_12 : dk cJ44_1 12 (.aload_n 0) 1 := by decide +kernel
theorem d49_13 : dk cJ44_1 13 (.getstatic 19) 3 := by decide +kernel
theorem d49_16 : dk cJ44_1 16 (.putfield 24) 3 := by decide +kernel
theorem d49_19 : dk cJ44_1 19 .return_ 1 := by decide +kernel
abbrev y49 : MethodName := ⟨"java/util/ImmutableCollections$List12", "<init>", "(Ljava/lang/Object;)V"⟩
def r49_1Q (Z : State) (a1 a2 a11 : Addr) (h0 : Heap) (n0 : Nat) : QT := fun v h L => v = none ∧ Fr n0 L ∧ Keep h0 h [a1] ∧ xF20 Z h a1 (.ref a2) ∧ xE21 Z h a1 ∧ xF22 Z h a1 (.ref a11)
theorem r49_1 (hw : HW a0 Z) (a1 a2 a11 : Addr) (O0 : Old Z n0 h0) (H5 : xF20 Z h0 a1 .null) (H6 : xE21 Z h0 a1) (H8 : n0 ≤ a1) (H12 : Sta Z Z.heap "java/util/ImmutableCollections" "EMPTY" "Ljava/lang/Object;" (.ref a11)) (H14 : xF22 Z h0 a1 .null) :
    MF l y49 cJ44_1 2 none [] (rM 4 0 0 48) Z #[(.ref a1), (.ref a2)] h0 (r49_1Q Z a1 a2 a11 h0 n0) := by
  refine own_in (pq pn2) #[rv a1, rv a2] (fun _ => by first | (simp [entryFrame, mkF, argsToLocals, Value.category]; done) | rfl) ?_
  intro p e s m below meth c s₁ Bd hx hby hml hown hnm hZ e0 X0
  have N0 := Fr.nil n0
  obtain ⟨_, _, _, X3, hQ3, st3⟩ := cP X0 hx hZ hw hown (y := y32) rfl 229 rfl 230 rfl 234 rfl 233 rfl (by decide) (W := 0) (r32_1 hw a1 O0) (by decide) (by decide) e0 (g := (mkF m 1 #[rv a1, rv a2] [(.ref a1)])) rfl (by rw [hml]; rfl) (argsL := []) (rest := []) (lenOf pd22 rfl) rfl wf (hb hby d49_1) rfl (by decide) (by decide)
  obtain ⟨rfl, N3q, e3⟩ := hQ3
  have N3 := Fr.app N0 N3q
  obtain ⟨_, _, _, X4, hQ4, st4⟩ := cS X3 hx hZ hw hown (y := y34) 243 rfl 244 rfl 245 rfl 246 rfl (by decide) (W := 1) (r34_1 hw a2 O0) (by decide) (by decide) e3 (g := (mkF m 6 #[rv a1, rv a2] [(.ref a2), (.ref a1)])) rfl (by rw [hml]; rfl) (argsL := [(.ref a2)]) (rest := [(.ref a1)]) (lenOf pd7 rfl) rfl wf (hb hby d49_6) rfl (by decide) (by decide)
  obtain ⟨rfl, N4q, e4⟩ := hQ4
  have N4 := Fr.app N3 N4q
  obtain ⟨_, h7, X7, e7, W7, st7⟩ := pF X4 hx hZ hown (ow hw 247 rfl) e4 H5 H6 (Or.inr ⟨(ow hw 248 rfl), rfl, hnm⟩) (ow hw 223 rfl) (ty := (.object "java/lang/Object")) (by decide) rfl rfl (g := (mkF m 9 #[rv a1, rv a2] [(.ref a2), (.ref a1)])) rfl rfl (hb hby d49_9)
  have O_W7 : Old Z n0 h7 := O0.wr W7 H8
  have Kp_W7 : Keep h0 h7 [a1] := (Keep.refl h0 [a1]).wr W7 (mI 0 rfl)
  have N9 := Fr.snoc X7 N4 H8
  have f10 := H5.same W7
  obtain ⟨_, X13, e13, st13⟩ := getS2 X7 hx hZ hown (Or.inr (ow hw 276 rfl)) Via.refl e7 (H12.ext O_W7.2) (g := (mkF m 13 #[rv a1, rv a2] [(.ref a1)])) rfl (hb hby d49_13)
  have f15 := (H6.wr W7)
  have f16 := (H14.other W7 (Or.inr (sn39 hw)))
  obtain ⟨_, h17, X17, e17, W17, st17⟩ := pF X13 hx hZ hown (ow hw 249 rfl) e13 f16 f15 (Or.inr ⟨(ow hw 250 rfl), rfl, hnm⟩) (ow hw 223 rfl) (ty := (.object "java/lang/Object")) (by decide) rfl rfl (g := (mkF m 16 #[rv a1, rv a2] [(.ref a11), (.ref a1)])) rfl rfl (hb hby d49_16)
  have Kp_W17 : Keep h0 h17 [a1] := Kp_W7.wr W17 (mI 0 rfl)
  have N18 := Fr.snoc X17 N9 H8
  have f19 := f16.same W17
  have f20 := (f15.wr W17)
  have f21 := (f10.other W17 (Or.inr (sn40 hw)))
  refine fin (Q := r49_1Q Z a1 a2 a11 h0 n0) (rm := (rM 4 0 0 48)) Bd X17 e17 (none) (fun _ => rfl) ⟨rfl, N18, Kp_W17, f21, f20, f19⟩ (by decide) (by decide) fun fs hr => ?_
  show St p e below s₁ m 0 #[rv a1, rv a2] [] _
  refine aN X0 hx hby d49_0 rfl rfl ?_
  refine st3.trans ?_
  refine aN X3 hx hby d49_4 rfl rfl ?_
  refine aN X3 hx hby d49_5 rfl rfl ?_
  refine st4 _ ?_
  refine st7 _ ?_
  refine aN X7 hx hby d49_12 rfl rfl ?_
  refine st13 _ ?_
  refine st17 _ ?_
  exact X17.returnOut hx Bd.returns (hb hby d49_19) hr
theorem pd18 : parseMethodDescriptor "(Ljava/lang/Object;)V" = some ⟨[(.object "java/lang/Object")], none⟩ := by decide +kernel
theorem d30_44 : dk cJ40_47 44 .areturn 1 := by decide +kernel
def r30_3Q (Z : State) (a1 : Addr) (k3 : ClassId) (a4 a11 : Addr) (h0 : Heap) (n0 : Nat) : QT := fun v h L => ∃ (b6 : Addr), v = some (.ref b6) ∧ Fr n0 L ∧ Keep h0 h [] ∧ h0.size ≤ b6 ∧ xE21 Z h b6 ∧ xF20 Z h b6 (.ref a4) ∧ xF22 Z h b6 (.ref a11)
theorem r30_3 (hw : HW a0 Z) (a1 : Addr) (k3 : ClassId) (a4 a11 : Addr) (O0 : Old Z n0 h0) (H5 : Arv Z h0 a1 k3 (.object "java/lang/Object") (1:Int32) [(.ref a4)] .null) (H12 : Sta Z Z.heap "java/util/ImmutableCollections" "EMPTY" "Ljava/lang/Object;" (.ref a11)) :
    MF l y30 cJ40_47 2 (some (.object "java/util/List")) [] (rM 5 1 2 62) Z #[(.ref a1)] h0 (r30_3Q Z a1 k3 a4 a11 h0 n0) := by
  refine own_in (pq pn15) #[rv a1, un] (fun _ => by first | (simp [entryFrame, mkF, argsToLocals, Value.category]; done) | rfl) ?_
  intro p e s m below meth c s₁ Bd hx hby hml hown hnm hZ e0 X0
  have N0 := Fr.nil n0
  obtain ⟨_, Ar2, _, S2, M2, _, _⟩ := id H5
  obtain ⟨_, h6, X6, e6, E6, A6, D6, -, st6⟩ := newO X0 hx hZ hown (ow hw 222 rfl) (ow hw 223 rfl) (ow hw 224 rfl) e0 (g := (mkF m 34 #[rv a1, un] [])) rfl (hb hby d30_34) (by decide) (by decide)
  obtain ⟨b6, g6⟩ : ∃ z, z = h0.size := ⟨_, rfl⟩
  rw [← g6] at A6 D6 st6
  have O_E6 : Old Z n0 h6 := O0.ext E6
  have Kp_E6 : Keep h0 h6 [] := (Keep.refl h0 []).ext E6
  have f8 := (H5.ext E6)
  obtain ⟨cl7, Ar7, _, S7, _, H7, _⟩ := id f8
  have hin7 : ¬ ((0:Int32) < 0 ∨ cl7.slots.size ≤ ((0:Int32)).toNatClampNeg) := inb_of S7 ⟨by decide, by decide⟩
  have f9 : xF20 Z h6 b6 .null := D6 (Or.inr (ow hw 248 rfl)) (ty := (.object "java/lang/Object")) (by decide)
  have g10 : n0 ≤ b6 := Nat.le_trans (Nat.le_trans (Nat.le_of_eq O0.1.symm) O0.2.1) (Nat.le_of_eq g6.symm)
  have f13 : xF22 Z h6 b6 .null := D6 (Or.inr (ow hw 250 rfl)) (ty := (.object "java/lang/Object")) (by decide)
  obtain ⟨T14, _, _, X14, hQ14, st14⟩ := cP X6 hx hZ hw hown (y := y49) rfl 311 rfl 312 rfl 313 rfl 224 rfl (by decide) (W := 1) (r49_1 hw b6 a4 a11 O_E6 f9 A6 g10 H12 f13) (by decide) (by decide) e6 (g := (mkF m 41 #[rv a1, un] [(.ref a4), (.ref b6), (.ref b6)])) rfl (by rw [hml]; rfl) (argsL := [(.ref a4)]) (rest := [(.ref b6)]) (lenOf pd18 rfl) rfl wf (hb hby d30_41) rfl (by decide) (by decide)
  obtain ⟨rfl, N14q, K14, f14_1, f14_2, f14_3⟩ := hQ14
  have N14 := Fr.app N0 N14q
  have z15 : h0.size ≤ b6 := Nat.le_trans (Keep.refl h0 []).1 (Nat.le_of_eq g6.symm)
  have Kp_K14 : Keep h0 T14.heap [] := Kp_E6.trans K14 (allS (Or.inr z15) all0)
  refine fin (Q := r30_3Q Z a1 k3 a4 a11 h0 n0) (rm := (rM 5 1 2 62)) Bd X14 rfl (some (.ref b6)) nofun ⟨b6, rfl, N14, Kp_K14, z15, f14_2, f14_1, f14_3⟩ (by decide) (by decide) fun fs hr => ?_
  show St p e below s₁ m 0 #[rv a1, un] [] _
  refine aN X0 hx hby d30_0 rfl rfl ?_
  refine X0.arraylength hx (by rw [e0]; exact Ar2.1) (State.isArrayOf_alike hZ.alike Ar2.2.1) (g := (mkF m 1 #[rv a1, un] [(.ref a1)])) rfl rfl (hb hby d30_1) _ ?_
  rw [len_of S2 M2]
  refine XS.tswIn X0.here hx rfl (pc0 := 2) (pc' := 34) (o := 32) rfl (hb hby d30_2) rfl (by decide) rfl (by decide) (by decide) ?_
  refine st6 _ ?_
  refine XS.dup X6.here hx rfl (hb hby d30_37) rfl rfl ?_
  refine aN X6 hx hby d30_38 rfl rfl ?_
  refine iC X6 hx hby d30_39 ?_
  refine X6.aaload hx (j := (0:Int32)) (v := (.ref a4)) (by rw [e6]; exact Ar7.1) (State.isArrayOf_alike hZ.alike Ar7.2.1) rfl Ar7.2.2 hin7 (Has.at H7 hin7 rfl) (g := (mkF m 40 #[rv a1, un] [(.int (0:Int32)), (.ref a1), (.ref b6), (.ref b6)])) rfl rfl (hb hby d30_40) _ ?_
  refine st14.trans ?_
  exact retA X14 hx Bd.returns rfl rfl (hb hby d30_44) hr
def r7_4Q (Z : State) (a1 a7 a10 : Addr) (k12 : ClassId) (a13 a17 : Addr) (h0 : Heap) (n0 : Nat) : QT := fun v h L => ∃ (b19_0 : Addr), v = some (.ref b19_0) ∧ Fr n0 L ∧ Keep h0 h [] ∧ h0.size ≤ b19_0 ∧ xE21 Z h b19_0 ∧ xF20 Z h b19_0 (.ref a13) ∧ xF22 Z h b19_0 (.ref a17)
theorem r7_4 (hw : HW a0 Z) (a1 a7 a10 : Addr) (k12 : ClassId) (a13 a17 : Addr) (O0 : Old Z n0 h0) (H3 : xE1 Z h0 a1) (H5 : xF3 Z h0 a1 (.int (1:Int32))) (H8 : xF2 Z h0 a1 (.ref a7)) (H9 : xE19 Z h0 a7) (H11 : Mi Z "[Ljava/lang/Object;" a10) (H14 : Arv Z h0 a7 k12 (.object "java/lang/Object") (10:Int32) [(.ref a13), .null, .null, .null, .null, .null, .null, .null, .null, .null] .null) (H15 : xE5 Z h0 a13) (H18 : Sta Z Z.heap "java/util/ImmutableCollections" "EMPTY" "Ljava/lang/Object;" (.ref a17)) :
    MF l y7 cJ56_3 2 (some (.object "java/util/List")) [] (rM 6 2 3 75) Z #[(.ref a1)] h0 (r7_4Q Z a1 a7 a10 k12 a13 a17 h0 n0) := by
  refine own_in (pq pn5) #[rv a1, un] (fun _ => by first | (simp [entryFrame, mkF, argsToLocals, Value.category]; done) | rfl) ?_
  intro p e s m below meth c s₁ Bd hx hby hml hown hnm hZ e0 X0
  have N0 := Fr.nil n0
  obtain ⟨_, X2, e2, st2⟩ := instNo X0 hx hZ hown (ow hw 69 rfl) e0 H3 (own_nsn (ow hw 70 rfl) (ow hw 223 rfl) (NS.step (ow hw 70 rfl) (NS.step (ow hw 71 rfl) (NS.step (ow hw 72 rfl) (own_nsr (ow hw 73 rfl) (ow hw 223 rfl) (by decide)) (by decide)) (by decide)) (by decide)) (by decide)) (g := (mkF m 1 #[rv a1, un] [(.ref a1)])) rfl rfl (hb hby d7_1)
  obtain ⟨_, X4, e4, st4⟩ := instNo X2 hx hZ hown (ow hw 74 rfl) e2 H3 (own_nsn (ow hw 70 rfl) (ow hw 324 rfl) (NS.step (ow hw 70 rfl) (NS.step (ow hw 71 rfl) (NS.step (ow hw 72 rfl) (own_nsr (ow hw 73 rfl) (ow hw 324 rfl) (by decide)) (by decide)) (by decide)) (by decide)) (by decide)) (g := (mkF m 8 #[rv a1, un] [(.ref a1)])) rfl rfl (hb hby d7_8)
  obtain ⟨_, _, _, X6, hQ6, st6⟩ := cI X4 hx hZ hw hown (x := y9) (y := y8) 75 rfl 76 rfl 77 rfl 78 rfl 79 rfl 80 rfl 81 rfl 82 rfl 83 rfl 10 rfl (by decide) (W := 0) (r8_4 hw a1 O0 H5) (by decide) (by decide) H3 e4 (g := (mkF m 32 #[rv a1, un] [(.ref a1)])) rfl (by rw [hml]; rfl) (argsL := []) (rest := []) (lenOf pd23 rfl) rfl wf (hb hby d7_32) rfl (by decide) (by decide)
  obtain ⟨rfl, N6q, e6⟩ := hQ6
  have N6 := Fr.app N0 N6q
  obtain ⟨T16, _, _, X16, hQ16, st16⟩ := cI X6 hx hZ hw hown (x := y29) (y := y25) 189 rfl 190 rfl 191 rfl 192 rfl 193 rfl 194 rfl 195 rfl 82 rfl 196 rfl 10 rfl (by decide) (W := 0) (r25_3 hw a1 a7 a10 k12 a13 O0 H8 H5 H9 H11 H14 H15) (by decide) (by decide) H3 e6 (g := (mkF m 45 #[rv a1, un] [(.ref a1)])) rfl (by rw [hml]; rfl) (argsL := []) (rest := []) (lenOf pd15 rfl) rfl wf (hb hby d7_45) rfl (by decide) (by decide)
  obtain ⟨b16_0, k16_0, rfl, N16q, K16, _, f16_2, _, _⟩ := hQ16
  have N16 := Fr.app N6 N16q
  have O_K16 : Old Z n0 T16.heap := O0.keep K16 all0
  have Kp_K16 : Keep h0 T16.heap [] := (Keep.refl h0 []).trans K16 all0
  obtain ⟨T19, _, _, X19, hQ19, st19⟩ := cS X16 hx hZ hw hown (y := y30) 219 rfl 220 rfl 63 rfl 221 rfl (by decide) (W := 0) (r30_3 hw b16_0 k16_0 a13 a17 O_K16 f16_2 H18) (by decide) (by decide) rfl (g := (mkF m 50 #[rv a1, un] [(.ref b16_0)])) rfl (by rw [hml]; rfl) (argsL := [(.ref b16_0)]) (rest := []) (lenOf pd8 rfl) rfl wf (hb hby d7_50) rfl (by decide) (by decide)
  obtain ⟨b19_0, rfl, N19q, K19, lo19_1, f19_2, f19_3, f19_4⟩ := hQ19
  have N19 := Fr.app N16 N19q
  have Kp_K19 : Keep h0 T19.heap [] := Kp_K16.trans K19 all0
  have z20 : h0.size ≤ b19_0 := Nat.le_trans Kp_K16.1 lo19_1
  refine fin (Q := r7_4Q Z a1 a7 a10 k12 a13 a17 h0 n0) (rm := (rM 6 2 3 75)) Bd X19 rfl (some (.ref b19_0)) nofun ⟨b19_0, rfl, N19, Kp_K19, z20, f19_2, f19_3, f19_4⟩ (by decide) (by decide) fun fs hr => ?_
  show St p e below s₁ m 0 #[rv a1, un] [] _
  refine aN X0 hx hby d7_0 rfl rfl ?_
  refine st2 _ ?_
  refine XS.ifNo X2.here hx rfl (hb hby d7_4) rfl ((if0 _ _).trans (teq (rfl : (0:Int32) = (0:Int32))).2) ?_
  refine aN X2 hx hby d7_7 rfl rfl ?_
  refine st4 _ ?_
  refine XS.ifYes X4.here hx rfl (pc0 := 11) (pc' := 31) rfl (hb hby d7_11) rfl ((if0 _ _).trans (teq (rfl : (0:Int32) = (0:Int32))).1) (by decide) (by decide) ?_
  refine aN X4 hx hby d7_31 rfl rfl ?_
  refine st6.trans ?_
  refine XS.ifYes X6.here hx rfl (pc0 := 37) (pc' := 44) rfl (hb hby d7_37) rfl ((if0 _ _).trans (teq (rfl : (0:Int32) = (0:Int32))).1) (by decide) (by decide) ?_
  refine aN X6 hx hby d7_44 rfl rfl ?_
  refine st16.trans ?_
  refine st19 _ ?_
  exact retA X19 hx Bd.returns rfl rfl (hb hby d7_53) hr
def r6_4Q (Z : State) (a1 a4 a7 : Addr) (k9 : ClassId) (a10 a13 : Addr) (h0 : Heap) (n0 : Nat) : QT := fun v h L => ∃ (b15_0 : Addr), v = some (.ref b15_0) ∧ Fr n0 L ∧ Keep h0 h [] ∧ h0.size ≤ b15_0 ∧ xE21 Z h b15_0 ∧ xF20 Z h b15_0 (.ref a10) ∧ xF22 Z h b15_0 (.ref a13)
theorem r6_4 (hw : HW a0 Z) (a1 a4 a7 : Addr) (k9 : ClassId) (a10 a13 : Addr) (O0 : Old Z n0 h0) (H2 : xE1 Z h0 a1) (H3 : xF3 Z h0 a1 (.int (1:Int32))) (H5 : xF2 Z h0 a1 (.ref a4)) (H6 : xE19 Z h0 a4) (H8 : Mi Z "[Ljava/lang/Object;" a7) (H11 : Arv Z h0 a4 k9 (.object "java/lang/Object") (10:Int32) [(.ref a10), .null, .null, .null, .null, .null, .null, .null, .null, .null] .null) (H12 : xE5 Z h0 a10) (H14 : Sta Z Z.heap "java/util/ImmutableCollections" "EMPTY" "Ljava/lang/Object;" (.ref a13)) :
    MF l y6 jdk_40_method_48_code 1 (some (.object "java/util/List")) [] (rM 7 2 3 88) Z #[(.ref a1)] h0 (r6_4Q Z a1 a4 a7 k9 a10 a13 h0 n0) := by
  refine own_in (pq pn15) #[rv a1] (fun _ => by first | (simp [entryFrame, mkF, argsToLocals, Value.category]; done) | rfl) ?_
  intro p e s m below meth c s₁ Bd hx hby hml hown hnm hZ e0 X0
  have N0 := Fr.nil n0
  obtain ⟨T15, _, _, X15, hQ15, st15⟩ := cS X0 hx hZ hw hown (y := y7) 65 rfl 66 rfl 67 rfl 68 rfl (by decide) (W := 0) (r7_4 hw a1 a4 a7 k9 a10 a13 O0 H2 H3 H5 H6 H8 H11 H12 H14) (by decide) (by decide) e0 (g := (mkF m 1 #[rv a1] [(.ref a1)])) rfl (by rw [hml]; rfl) (argsL := [(.ref a1)]) (rest := []) (lenOf pd5 rfl) rfl wf (hb hby d6_1) rfl (by decide) (by decide)
  obtain ⟨b15_0, rfl, N15q, K15, lo15_1, f15_2, f15_3, f15_4⟩ := hQ15
  have N15 := Fr.app N0 N15q
  have Kp_K15 : Keep h0 T15.heap [] := (Keep.refl h0 []).trans K15 all0
  have z16 : h0.size ≤ b15_0 := Nat.le_trans (Keep.refl h0 []).1 lo15_1
  refine fin (Q := r6_4Q Z a1 a4 a7 k9 a10 a13 h0 n0) (rm := (rM 7 2 3 88)) Bd X15 rfl (some (.ref b15_0)) nofun ⟨b15_0, rfl, N15, Kp_K15, z16, f15_2, f15_3, f15_4⟩ (by decide) (by decide) fun fs hr => ?_
  show St p e below s₁ m 0 #[rv a1] [] _
  refine aN X0 hx hby d6_0 rfl rfl ?_
  refine st15 _ ?_
  exact retA X15 hx Bd.returns rfl rfl (hb hby d6_4) hr
theorem d5_45 : dk cP16_1 45 (.aload 4) 2 := by decide +kernel
theorem d5_47 : dk cP16_1 47 (.invokevirtual 38) 3 := by decide +kernel
theorem d50_0 : dk prog_33_method_8_code 0 (.aload_n 0) 1 := by decide +kernel
theorem d50_1 : dk prog_33_method_8_code 1 (.getfield 27) 3 := by decide +kernel
theorem d50_4 : dk prog_33_method_8_code 4 .ireturn 1 := by decide +kernel
abbrev y50 : MethodName := ⟨"tabula/engine/Role", "universal", "()Z"⟩
def r50_1Q (Z : State) (a1 : Addr) (h0 : Heap) (n0 : Nat) : QT := fun v h L => v = some (.int (0:Int32)) ∧ Fr n0 L ∧ h = h0
theorem r50_1 (hw : HW a0 Z) (a1 : Addr) (O0 : Old Z n0 h0) (H2 : xF27 Z h0 a1 (.int (0:Int32))) :
    MF l y50 prog_33_method_8_code 1 (some .boolean) [] (rM 0 0 0 0) Z #[(.ref a1)] h0 (r50_1Q Z a1 h0 n0) := by
  refine own_in (pq pn11) #[rv a1] (fun _ => by first | (simp [entryFrame, mkF, argsToLocals, Value.category]; done) | rfl) ?_
  intro p e s m below meth c s₁ Bd hx hby hml hown hnm hZ e0 X0
  have N0 := Fr.nil n0
  obtain ⟨_, X3, e3, st3⟩ := gF X0 hx hZ hown (ow hw 307 rfl) e0 H2 (g := (mkF m 1 #[rv a1] [(.ref a1)])) rfl rfl (hb hby d50_1)
  refine fin (Q := r50_1Q Z a1 h0 n0) (rm := (rM 0 0 0 0)) Bd X3 e3 (some (.int (0:Int32))) nofun ⟨rfl, N0, rfl⟩ (by decide) (by decide) fun fs hr => ?_
  show St p e below s₁ m 0 #[rv a1] [] _
  refine aN X0 hx hby d50_0 rfl rfl ?_
  refine st3 _ ?_
  exact retN X3 hx (t := .boolean) Bd.returns (by simp) (hb hby d50_4) hr
theorem d5_50 : dk cP16_1 50 (.ifCond .eq 7) 3 := by decide +kernel
def r12_4Q (Z : State) (a1 a2 : Addr) (h0 : Heap) (n0 : Nat) : QT := fun v h L => v = none ∧ Fr n0 L ∧ Keep h0 h [a1] ∧ xF11 Z h a1 (.ref a2) ∧ xE12 Z h a1 ∧ xF13 Z h a1 (.int (-1:Int32)) ∧ xF14 Z h a1 (.int (1:Int32)) ∧ xF15 Z h a1 (.int (0:Int32))
theorem r12_4 (hw : HW a0 Z) (a1 a2 : Addr) (O0 : Old Z n0 h0) (H3 : xF11 Z h0 a1 .null) (H4 : xE12 Z h0 a1) (H6 : n0 ≤ a1) (H10 : xF13 Z h0 a1 (.int (0:Int32))) (H19 : xF0 Z h0 a2 (.int (1:Int32))) (H20 : a2 ≠ a1) (H23 : xF14 Z h0 a1 (.int (0:Int32))) (H28 : xF15 Z h0 a1 (.int (0:Int32))) :
    MF l y12 cJ49_1 2 none [] (rM 1 0 0 12) Z #[(.ref a1), (.ref a2)] h0 (r12_4Q Z a1 a2 h0 n0) := by
  refine own_in (pq pn7) #[rv a1, rv a2] (fun _ => by first | (simp [entryFrame, mkF, argsToLocals, Value.category]; done) | rfl) ?_
  intro p e s m below meth c s₁ Bd hx hby hml hown hnm hZ e0 X0
  have N0 := Fr.nil n0
  obtain ⟨_, h5, X5, e5, W5, st5⟩ := pF X0 hx hZ hown (ow hw 108 rfl) e0 H3 H4 (Or.inr ⟨(ow hw 109 rfl), rfl, hnm⟩) (ow hw 102 rfl) (ty := (.object "java/util/ArrayList")) (by decide) rfl rfl (g := (mkF m 2 #[rv a1, rv a2] [(.ref a2), (.ref a1)])) rfl rfl (hb hby d12_2)
  have Kp_W5 : Keep h0 h5 [a1] := (Keep.refl h0 [a1]).wr W5 (mI 0 rfl)
  have N7 := Fr.snoc X5 N0 H6
  have f8 := H3.same W5
  obtain ⟨_, X9, e9, st9⟩ := initO X5 hx hZ hown (ow hw 110 rfl) (ow hw 27 rfl) (ow hw 28 rfl) e5 (g := (mkF m 6 #[rv a1, rv a2] [(.ref a1)])) rfl (by rw [hml]; rfl) rfl (hb hby d12_6) (by decide) (W := 0) wf (by decide)
  have f11 := (H4.wr W5)
  have f12 := (H10.other W5 (Or.inr (sn2 hw)))
  obtain ⟨_, h13, X13, e13, W13, st13⟩ := pF X9 hx hZ hown (ow hw 111 rfl) e9 f12 f11 (Or.inl (ow hw 112 rfl)) (ow hw 102 rfl) (ty := .int) (by decide) rfl rfl (g := (mkF m 11 #[rv a1, rv a2] [(.int (-1:Int32)), (.ref a1)])) rfl rfl (hb hby d12_11)
  have Kp_W13 : Keep h0 h13 [a1] := Kp_W5.wr W13 (mI 0 rfl)
  have N14 := Fr.snoc X13 N7 H6
  have f15 := f12.same W13
  have f16 := (f11.wr W13)
  have f17 := (f8.other W13 (Or.inr (sn3 hw)))
  obtain ⟨_, X18, e18, st18⟩ := gF X13 hx hZ hown (ow hw 108 rfl) e13 f17 (g := (mkF m 16 #[rv a1, rv a2] [(.ref a1), (.ref a1)])) rfl rfl (hb hby d12_16)
  have f21 := ((H19.other W5 (Or.inl H20)).other W13 (Or.inl H20))
  obtain ⟨_, X22, e22, st22⟩ := getF X18 hx hZ hown (host := "") (Or.inl (ow hw 113 rfl)) (Via.of (ow hw 114 rfl)) e18 f21 (g := (mkF m 19 #[rv a1, rv a2] [(.ref a2), (.ref a1)])) rfl rfl (hb hby d12_19)
  have f24 := ((H23.other W5 (Or.inr (sn4 hw))).other W13 (Or.inr (sn5 hw)))
  obtain ⟨_, h25, X25, e25, W25, st25⟩ := pF X22 hx hZ hown (ow hw 115 rfl) e22 f24 f16 (Or.inl (ow hw 116 rfl)) (ow hw 102 rfl) (ty := .int) (by decide) rfl rfl (g := (mkF m 22 #[rv a1, rv a2] [(.int (1:Int32)), (.ref a1)])) rfl rfl (hb hby d12_22)
  have Kp_W25 : Keep h0 h25 [a1] := Kp_W13.wr W25 (mI 0 rfl)
  have N26 := Fr.snoc X25 N14 H6
  have f27 := f24.same W25
  have f29 := (f16.wr W25)
  have f30 := (((H28.other W5 (Or.inr (sn6 hw))).other W13 (Or.inr (sn7 hw))).other W25 (Or.inr (sn8 hw)))
  have f31 := (f17.other W25 (Or.inr (sn9 hw)))
  have f32 := (f15.other W25 (Or.inr (sn10 hw)))
  refine fin (Q := r12_4Q Z a1 a2 h0 n0) (rm := (rM 1 0 0 12)) Bd X25 e25 (none) (fun _ => rfl) ⟨rfl, N26, Kp_W25, f31, f29, f32, f27, f30⟩ (by decide) (by decide) fun fs hr => ?_
  show St p e below s₁ m 0 #[rv a1, rv a2] [] _
  refine aN X0 hx hby d12_0 rfl rfl ?_
  refine aN X0 hx hby d12_1 rfl rfl ?_
  refine st5 _ ?_
  refine aN X5 hx hby d12_5 rfl rfl ?_
  refine st9 _ ?_
  refine aN X9 hx hby d12_9 rfl rfl ?_
  refine iC X9 hx hby d12_10 ?_
  refine st13 _ ?_
  refine aN X13 hx hby d12_14 rfl rfl ?_
  refine aN X13 hx hby d12_15 rfl rfl ?_
  refine st18 _ ?_
  refine st22 _ ?_
  refine st25 _ ?_
  exact X25.returnOut hx Bd.returns (hb hby d12_25) hr
def r11_4Q (Z : State) (a1 : Addr) (h0 : Heap) (n0 : Nat) : QT := fun v h L => ∃ (b2 : Addr), v = some (.ref b2) ∧ Fr n0 L ∧ Keep h0 h [] ∧ h0.size ≤ b2 ∧ xE12 Z h b2 ∧ xF11 Z h b2 (.ref a1) ∧ xF13 Z h b2 (.int (-1:Int32)) ∧ xF14 Z h b2 (.int (1:Int32)) ∧ xF15 Z h b2 (.int (0:Int32))
theorem r11_4 (hw : HW a0 Z) (a1 : Addr) (O0 : Old Z n0 h0) (H6 : xF0 Z h0 a1 (.int (1:Int32))) (H8 : xE1 Z h0 a1) :
    MF l y11 cJ38_55 1 (some (.object "java/util/Iterator")) [] (rM 2 1 4 26) Z #[(.ref a1)] h0 (r11_4Q Z a1 h0 n0) := by
  refine own_in (pq pn10) #[rv a1] (fun _ => by first | (simp [entryFrame, mkF, argsToLocals, Value.category]; done) | rfl) ?_
  intro p e s m below meth c s₁ Bd hx hby hml hown hnm hZ e0 X0
  have N0 := Fr.nil n0
  obtain ⟨_, h2, X2, e2, E2, A2, D2, -, st2⟩ := newO X0 hx hZ hown (ow hw 101 rfl) (ow hw 102 rfl) (ow hw 103 rfl) e0 (g := (mkF m 0 #[rv a1] [])) rfl (hb hby d11_0) (by decide) (by decide)
  obtain ⟨b2, g2⟩ : ∃ z, z = h0.size := ⟨_, rfl⟩
  rw [← g2] at A2 D2 st2
  have O_E2 : Old Z n0 h2 := O0.ext E2
  have Kp_E2 : Keep h0 h2 [] := (Keep.refl h0 []).ext E2
  have f3 : xF11 Z h2 b2 .null := D2 (Or.inr (ow hw 109 rfl)) (ty := (.object "java/util/ArrayList")) (by decide)
  have g4 : n0 ≤ b2 := Nat.le_trans (Nat.le_trans (Nat.le_of_eq O0.1.symm) O0.2.1) (Nat.le_of_eq g2.symm)
  have f5 : xF13 Z h2 b2 (.int (0:Int32)) := D2 (Or.inl (ow hw 112 rfl)) (ty := .int) (by decide)
  have f7 := (H6.ext E2)
  have ne10 : a1 ≠ b2 := Nat.ne_of_lt (Nat.lt_of_lt_of_le H8.lt (Nat.le_of_eq g2.symm))
  have f11 : xF14 Z h2 b2 (.int (0:Int32)) := D2 (Or.inl (ow hw 116 rfl)) (ty := .int) (by decide)
  have f12 : xF15 Z h2 b2 (.int (0:Int32)) := D2 (Or.inl (ow hw 127 rfl)) (ty := .int) (by decide)
  obtain ⟨T13, _, _, X13, hQ13, st13⟩ := cP X2 hx hZ hw hown (y := y12) rfl 104 rfl 105 rfl 107 rfl 103 rfl (by decide) (W := 1) (r12_4 hw b2 a1 O_E2 f3 A2 g4 f5 f7 ne10 f11 f12) (by decide) (by decide) e2 (g := (mkF m 5 #[rv a1] [(.ref a1), (.ref b2), (.ref b2)])) rfl (by rw [hml]; rfl) (argsL := [(.ref a1)]) (rest := [(.ref b2)]) (lenOf pd10 rfl) rfl wf (hb hby d11_5) rfl (by decide) (by decide)
  obtain ⟨rfl, N13q, K13, f13_1, f13_2, f13_3, f13_4, f13_5⟩ := hQ13
  have N13 := Fr.app N0 N13q
  have z14 : h0.size ≤ b2 := Nat.le_trans (Keep.refl h0 []).1 (Nat.le_of_eq g2.symm)
  have Kp_K13 : Keep h0 T13.heap [] := Kp_E2.trans K13 (allS (Or.inr z14) all0)
  refine fin (Q := r11_4Q Z a1 h0 n0) (rm := (rM 2 1 4 26)) Bd X13 rfl (some (.ref b2)) nofun ⟨b2, rfl, N13, Kp_K13, z14, f13_2, f13_1, f13_3, f13_4, f13_5⟩ (by decide) (by decide) fun fs hr => ?_
  show St p e below s₁ m 0 #[rv a1] [] _
  refine st2 _ ?_
  refine XS.dup X2.here hx rfl (hb hby d11_3) rfl rfl ?_
  refine aN X2 hx hby d11_4 rfl rfl ?_
  refine st13.trans ?_
  exact retA X13 hx Bd.returns rfl rfl (hb hby d11_8) hr
def r14_9Q (Z : State) (a1 a4 : Addr) (h0 : Heap) (n0 : Nat) : QT := fun v h L => v = some (.int (1:Int32)) ∧ Fr n0 L ∧ h = h0
theorem r14_9 (hw : HW a0 Z) (a1 a4 : Addr) (O0 : Old Z n0 h0) (H2 : xF15 Z h0 a1 (.int (0:Int32))) (H5 : xF11 Z h0 a1 (.ref a4)) (H7 : xF3 Z h0 a4 (.int (1:Int32))) :
    MF l y14 cJ49_2 1 (some .boolean) [] (rM 0 0 0 0) Z #[(.ref a1)] h0 (r14_9Q Z a1 a4 h0 n0) := by
  refine own_in (pq pn7) #[rv a1] (fun _ => by first | (simp [entryFrame, mkF, argsToLocals, Value.category]; done) | rfl) ?_
  intro p e s m below meth c s₁ Bd hx hby hml hown hnm hZ e0 X0
  have N0 := Fr.nil n0
  obtain ⟨_, X3, e3, st3⟩ := gF X0 hx hZ hown (ow hw 126 rfl) e0 H2 (g := (mkF m 1 #[rv a1] [(.ref a1)])) rfl rfl (hb hby d14_1)
  obtain ⟨_, X6, e6, st6⟩ := gF X3 hx hZ hown (ow hw 108 rfl) e3 H5 (g := (mkF m 5 #[rv a1] [(.ref a1), (.int (0:Int32))])) rfl rfl (hb hby d14_5)
  obtain ⟨_, X8, e8, st8⟩ := getF X6 hx hZ hown (Or.inr (ow hw 128 rfl)) Via.refl e6 H7 (g := (mkF m 8 #[rv a1] [(.ref a4), (.int (0:Int32))])) rfl rfl (hb hby d14_8)
  refine fin (Q := r14_9Q Z a1 a4 h0 n0) (rm := (rM 0 0 0 0)) Bd X8 e8 (some (.int (1:Int32))) nofun ⟨rfl, N0, rfl⟩ (by decide) (by decide) fun fs hr => ?_
  show St p e below s₁ m 0 #[rv a1] [] _
  refine aN X0 hx hby d14_0 rfl rfl ?_
  refine st3 _ ?_
  refine aN X3 hx hby d14_4 rfl rfl ?_
  refine st6 _ ?_
  refine st8 _ ?_
  refine XS.icmpNo X8.here hx rfl (hb hby d14_11) rfl (feq (by decide : ¬ ((0:Int32) = (1:Int32)))).1 ?_
  refine iC X8 hx hby d14_14 ?_
  refine XS.goto X8.here hx rfl (pc0 := 15) (pc' := 19) rfl (hb hby d14_15) (by decide) (by decide) ?_
  exact retN X8 hx (t := .boolean) Bd.returns (by simp) (hb hby d14_19) hr
def r36_3Q (Z : State) (a1 a2 : Addr) (h0 : Heap) (n0 : Nat) : QT := fun v h L => v = none ∧ Fr n0 L ∧ h = h0
theorem r36_3 (hw : HW a0 Z) (a1 a2 : Addr) (O0 : Old Z n0 h0) (H3 : xF11 Z h0 a1 (.ref a2)) (H5 : xF0 Z h0 a2 (.int (1:Int32))) (H7 : xF14 Z h0 a1 (.int (1:Int32))) :
    MF l y36 cJ49_6 1 none [] (rM 0 0 0 0) Z #[(.ref a1)] h0 (r36_3Q Z a1 a2 h0 n0) := by
  refine own_in (pq pn7) #[rv a1] (fun _ => by first | (simp [entryFrame, mkF, argsToLocals, Value.category]; done) | rfl) ?_
  intro p e s m below meth c s₁ Bd hx hby hml hown hnm hZ e0 X0
  have N0 := Fr.nil n0
  obtain ⟨_, X4, e4, st4⟩ := gF X0 hx hZ hown (ow hw 108 rfl) e0 H3 (g := (mkF m 1 #[rv a1] [(.ref a1)])) rfl rfl (hb hby d36_1)
  obtain ⟨_, X6, e6, st6⟩ := getF X4 hx hZ hown (host := "") (Or.inl (ow hw 113 rfl)) (Via.of (ow hw 114 rfl)) e4 H5 (g := (mkF m 4 #[rv a1] [(.ref a2)])) rfl rfl (hb hby d36_4)
  obtain ⟨_, X8, e8, st8⟩ := gF X6 hx hZ hown (ow hw 115 rfl) e6 H7 (g := (mkF m 8 #[rv a1] [(.ref a1), (.int (1:Int32))])) rfl rfl (hb hby d36_8)
  refine fin (Q := r36_3Q Z a1 a2 h0 n0) (rm := (rM 0 0 0 0)) Bd X8 e8 (none) (fun _ => rfl) ⟨rfl, N0, rfl⟩ (by decide) (by decide) fun fs hr => ?_
  show St p e below s₁ m 0 #[rv a1] [] _
  refine aN X0 hx hby d36_0 rfl rfl ?_
  refine st4 _ ?_
  refine st6 _ ?_
  refine aN X6 hx hby d36_7 rfl rfl ?_
  refine st8 _ ?_
  refine XS.icmpYes X8.here hx rfl (pc0 := 11) (pc' := 22) rfl (hb hby d36_11) rfl (teq (rfl : (1:Int32) = (1:Int32))).1 (by decide) (by decide) ?_
  exact X8.returnOut hx Bd.returns (hb hby d36_22) hr
def r35_6Q (Z : State) (a1 a3 a14 : Addr) (k18 : ClassId) (a19 : Addr) (h0 : Heap) (n0 : Nat) : QT := fun v h L => v = some (.ref a19) ∧ Fr n0 L ∧ Keep h0 h [a1] ∧ xE12 Z h a1 ∧ xF11 Z h a1 (.ref a3) ∧ xF14 Z h a1 (.int (1:Int32)) ∧ xF15 Z h a1 (.int (1:Int32)) ∧ xF13 Z h a1 (.int (0:Int32))
theorem r35_6 (hw : HW a0 Z) (a1 a3 a14 : Addr) (k18 : ClassId) (a19 : Addr) (O0 : Old Z n0 h0) (H2 : xE12 Z h0 a1) (H4 : xF11 Z h0 a1 (.ref a3)) (H5 : xF0 Z h0 a3 (.int (1:Int32))) (H6 : xF14 Z h0 a1 (.int (1:Int32))) (H8 : xF15 Z h0 a1 (.int (0:Int32))) (H11 : xF3 Z h0 a3 (.int (1:Int32))) (H15 : xF2 Z h0 a3 (.ref a14)) (H20 : Arv Z h0 a14 k18 (.object "java/lang/Object") (10:Int32) [(.ref a19), .null, .null, .null, .null, .null, .null, .null, .null, .null] .null) (H22 : n0 ≤ a1) (H25 : xF13 Z h0 a1 (.int (-1:Int32))) (H32 : a14 ≠ a1) :
    MF l y35 cJ49_3 3 (some (.object "java/lang/Object")) [] (rM 1 0 0 12) Z #[(.ref a1)] h0 (r35_6Q Z a1 a3 a14 k18 a19 h0 n0) := by
  refine own_in (pq pn7) #[rv a1, un, un] (fun _ => by first | (simp [entryFrame, mkF, argsToLocals, Value.category]; done) | rfl) ?_
  intro p e s m below meth c s₁ Bd hx hby hml hown hnm hZ e0 X0
  have N0 := Fr.nil n0
  obtain ⟨_, _, _, X7, hQ7, st7⟩ := cV X0 hx hZ hw hown (y := y36) 259 rfl 260 rfl 262 rfl 261 rfl 263 rfl 103 rfl (by decide) (W := 0) (r36_3 hw a1 a3 O0 H4 H5 H6) (by decide) (by decide) H2 e0 (g := (mkF m 1 #[rv a1, un, un] [(.ref a1)])) rfl (by rw [hml]; rfl) (argsL := []) (rest := []) (lenOf pd22 rfl) rfl wf (hb hby d35_1) rfl (by decide) (by decide)
  obtain ⟨rfl, N7q, e7⟩ := hQ7
  have N7 := Fr.app N0 N7q
  obtain ⟨_, X9, e9, st9⟩ := gF X7 hx hZ hown (ow hw 126 rfl) e7 H8 (g := (mkF m 5 #[rv a1, un, un] [(.ref a1)])) rfl rfl (hb hby d35_5)
  obtain ⟨_, X10, e10, st10⟩ := gF X9 hx hZ hown (ow hw 108 rfl) e9 H4 (g := (mkF m 11 #[rv a1, iv (0:Int32), un] [(.ref a1), (.int (0:Int32))])) rfl rfl (hb hby d35_11)
  obtain ⟨_, X12, e12, st12⟩ := getF X10 hx hZ hown (Or.inr (ow hw 128 rfl)) Via.refl e10 H11 (g := (mkF m 14 #[rv a1, iv (0:Int32), un] [(.ref a3), (.int (0:Int32))])) rfl rfl (hb hby d35_14)
  obtain ⟨_, X13, e13, st13⟩ := gF X12 hx hZ hown (ow hw 108 rfl) e12 H4 (g := (mkF m 29 #[rv a1, iv (0:Int32), un] [(.ref a1)])) rfl rfl (hb hby d35_29)
  obtain ⟨_, X16, e16, st16⟩ := gF X13 hx hZ hown (ow hw 264 rfl) e13 H15 (g := (mkF m 32 #[rv a1, iv (0:Int32), un] [(.ref a3)])) rfl rfl (hb hby d35_32)
  obtain ⟨_, Ar17, _, S17, M17, _, _⟩ := id H20
  obtain ⟨T21, h21, X21, e21, W21, st21⟩ := pF X16 hx hZ hown (ow hw 126 rfl) e16 H8 H2 (Or.inl (ow hw 127 rfl)) (ow hw 102 rfl) (ty := .int) (by decide) rfl rfl (g := (mkF m 54 #[rv a1, iv (0:Int32), rv a14] [(.int (1:Int32)), (.ref a1)])) rfl rfl (hb hby d35_54)
  have Kp_W21 : Keep h0 h21 [a1] := (Keep.refl h0 [a1]).wr W21 (mI 0 rfl)
  have N23 := Fr.snoc X21 N7 H22
  have f24 := H8.same W21
  have f26 := (H2.wr W21)
  have f27 := (H25.other W21 (Or.inr (sn41 hw)))
  obtain ⟨_, h28, X28, e28, W28, st28⟩ := pF X21 hx hZ hown (ow hw 111 rfl) e21 f27 f26 (Or.inl (ow hw 112 rfl)) (ow hw 102 rfl) (ty := .int) (by decide) rfl rfl (g := (mkF m 61 #[rv a1, iv (0:Int32), rv a14] [(.int (0:Int32)), (.ref a1), (.int (0:Int32)), (.ref a14)])) rfl rfl (hb hby d35_61)
  have Kp_W28 : Keep h0 h28 [a1] := Kp_W21.wr W28 (mI 0 rfl)
  have N29 := Fr.snoc X28 N23 H22
  have f30 := f27.same W28
  have f33 := ((H20.other W21 H32).other W28 H32)
  obtain ⟨cl31, Ar31, _, S31, _, H31, _⟩ := id f33
  have hin31 : ¬ ((0:Int32) < 0 ∨ cl31.slots.size ≤ ((0:Int32)).toNatClampNeg) := inb_of S31 ⟨by decide, by decide⟩
  have f34 := (f26.wr W28)
  have f35 := ((H4.other W21 (Or.inr (sn42 hw))).other W28 (Or.inr (sn3 hw)))
  have f36 := ((H6.other W21 (Or.inr (sn43 hw))).other W28 (Or.inr (sn5 hw)))
  have f37 := (f24.other W28 (Or.inr (sn7 hw)))
  refine fin (Q := r35_6Q Z a1 a3 a14 k18 a19 h0 n0) (rm := (rM 1 0 0 12)) Bd X28 e28 (some (.ref a19)) nofun ⟨rfl, N29, Kp_W28, f34, f35, f36, f37, f30⟩ (by decide) (by decide) fun fs hr => ?_
  show St p e below s₁ m 0 #[rv a1, un, un] [] _
  refine aN X0 hx hby d35_0 rfl rfl ?_
  refine st7.trans ?_
  refine aN X7 hx hby d35_4 rfl rfl ?_
  refine st9 _ ?_
  refine XS.istoreN X9.here hx rfl (hb hby d35_8) rfl (l' := #[rv a1, iv (0:Int32), un]) rfl ?_
  refine iN X9 hx hby d35_9 rfl ?_
  refine aN X9 hx hby d35_10 rfl rfl ?_
  refine st10 _ ?_
  refine st12 _ ?_
  refine XS.icmpYes X12.here hx rfl (pc0 := 17) (pc' := 28) rfl (hb hby d35_17) rfl (tlt (by decide : (0:Int32) < (1:Int32))).1 (by decide) (by decide) ?_
  refine aN X12 hx hby d35_28 rfl rfl ?_
  refine st13 _ ?_
  refine st16 _ ?_
  refine XS.astoreN X16.here hx rfl (hb hby d35_35) rfl rfl (l' := #[rv a1, iv (0:Int32), rv a14]) rfl ?_
  refine iN X16 hx hby d35_36 rfl ?_
  refine aN X16 hx hby d35_37 rfl rfl ?_
  refine X16.arraylength hx (by rw [e16]; exact Ar17.1) (State.isArrayOf_alike hZ.alike Ar17.2.1) (g := (mkF m 38 #[rv a1, iv (0:Int32), rv a14] [(.ref a14), (.int (0:Int32))])) rfl rfl (hb hby d35_38) _ ?_
  rw [len_of S17 M17]
  refine XS.icmpYes X16.here hx rfl (pc0 := 39) (pc' := 50) rfl (hb hby d35_39) rfl (tlt (by decide : (0:Int32) < (10:Int32))).1 (by decide) (by decide) ?_
  refine aN X16 hx hby d35_50 rfl rfl ?_
  refine iN X16 hx hby d35_51 rfl ?_
  refine iC X16 hx hby d35_52 ?_
  refine XS.iadd X16.here hx rfl (hb hby d35_53) rfl ?_
  refine st21 _ ?_
  refine aN X21 hx hby d35_57 rfl rfl ?_
  refine aN X21 hx hby d35_58 rfl rfl ?_
  show St p e below T21 m 59 #[rv a1, iv (0:Int32), rv a14] [(.ref a1), (.ref a14)] _
  refine iN X21 hx hby d35_59 rfl ?_
  refine XS.dupX1 X21.here hx rfl (hb hby d35_60) rfl rfl rfl ?_
  refine st28 _ ?_
  refine X28.aaload hx (j := (0:Int32)) (v := (.ref a19)) (by rw [e28]; exact Ar31.1) (State.isArrayOf_alike hZ.alike Ar31.2.1) rfl Ar31.2.2 hin31 (Has.at H31 hin31 rfl) (g := (mkF m 64 #[rv a1, iv (0:Int32), rv a14] [(.int (0:Int32)), (.ref a14)])) rfl rfl (hb hby d35_64) _ ?_
  exact retA X28 hx Bd.returns rfl rfl (hb hby d35_65) hr
def r14_10Q (Z : State) (a1 a4 : Addr) (h0 : Heap) (n0 : Nat) : QT := fun v h L => v = some (.int (0:Int32)) ∧ Fr n0 L ∧ h = h0
theorem r14_10 (hw : HW a0 Z) (a1 a4 : Addr) (O0 : Old Z n0 h0) (H2 : xF15 Z h0 a1 (.int (1:Int32))) (H5 : xF11 Z h0 a1 (.ref a4)) (H7 : xF3 Z h0 a4 (.int (1:Int32))) :
    MF l y14 cJ49_2 1 (some .boolean) [] (rM 0 0 0 0) Z #[(.ref a1)] h0 (r14_10Q Z a1 a4 h0 n0) := by
  refine own_in (pq pn7) #[rv a1] (fun _ => by first | (simp [entryFrame, mkF, argsToLocals, Value.category]; done) | rfl) ?_
  intro p e s m below meth c s₁ Bd hx hby hml hown hnm hZ e0 X0
  have N0 := Fr.nil n0
  obtain ⟨_, X3, e3, st3⟩ := gF X0 hx hZ hown (ow hw 126 rfl) e0 H2 (g := (mkF m 1 #[rv a1] [(.ref a1)])) rfl rfl (hb hby d14_1)
  obtain ⟨_, X6, e6, st6⟩ := gF X3 hx hZ hown (ow hw 108 rfl) e3 H5 (g := (mkF m 5 #[rv a1] [(.ref a1), (.int (1:Int32))])) rfl rfl (hb hby d14_5)
  obtain ⟨_, X8, e8, st8⟩ := getF X6 hx hZ hown (Or.inr (ow hw 128 rfl)) Via.refl e6 H7 (g := (mkF m 8 #[rv a1] [(.ref a4), (.int (1:Int32))])) rfl rfl (hb hby d14_8)
  refine fin (Q := r14_10Q Z a1 a4 h0 n0) (rm := (rM 0 0 0 0)) Bd X8 e8 (some (.int (0:Int32))) nofun ⟨rfl, N0, rfl⟩ (by decide) (by decide) fun fs hr => ?_
  show St p e below s₁ m 0 #[rv a1] [] _
  refine aN X0 hx hby d14_0 rfl rfl ?_
  refine st3 _ ?_
  refine aN X3 hx hby d14_4 rfl rfl ?_
  refine st6 _ ?_
  refine st8 _ ?_
  refine XS.icmpYes X8.here hx rfl (pc0 := 11) (pc' := 18) rfl (hb hby d14_11) rfl (teq (rfl : (1:Int32) = (1:Int32))).1 (by decide) (by decide) ?_
  refine iC X8 hx hby d14_18 ?_
  exact retN X8 hx (t := .boolean) Bd.returns (by simp) (hb hby d14_19) hr
def r5_5Q (Z : State) (a1 : Addr) (p2:Int32) (a3 a4 : Addr) (p5:Int32) (a6 a43 a48 : Addr) (k50 : ClassId) (a51 a57 : Addr) (h0 : Heap) (n0 : Nat) : QT := fun v h L => ∃ (b59_0 : Addr), v = none ∧ Fr n0 L ∧ Keep h0 h [a1] ∧ h0.size ≤ b59_0 ∧ xE5 Z h a1 ∧ xF6 Z h a1 (.ref a3) ∧ xF10 Z h a1 (.ref b59_0) ∧ xF16 Z h a1 (.int (0:Int32)) ∧ xE21 Z h b59_0 ∧ xF20 Z h b59_0 (.ref a51) ∧ xF22 Z h b59_0 (.ref a57)
theorem r5_5 (hw : HW a0 Z) (a1 : Addr) (p2:Int32) (a3 a4 : Addr) (p5:Int32) (a6 a43 a48 : Addr) (k50 : ClassId) (a51 a57 : Addr) (O0 : Old Z n0 h0) (H8 : xF4 Z h0 a1 (.int (0:Int32))) (H9 : xE5 Z h0 a1) (H11 : n0 ≤ a1) (H14 : xF6 Z h0 a1 .null) (H20 : xF7 Z h0 a1 .null) (H26 : xF8 Z h0 a1 .null) (H32 : xF9 Z h0 a1 (.int (0:Int32))) (H38 : xE1 Z h0 a6) (H40 : xF3 Z h0 a6 (.int (1:Int32))) (H41 : a6 ≠ a1) (H44 : xF2 Z h0 a6 (.ref a43)) (H46 : xE19 Z h0 a43) (H49 : Mi Z "[Ljava/lang/Object;" a48) (H52 : Arv Z h0 a43 k50 (.object "java/lang/Object") (10:Int32) [(.ref a51), .null, .null, .null, .null, .null, .null, .null, .null, .null] .null) (H53 : a43 ≠ a1) (H55 : xE5 Z h0 a51) (H58 : Sta Z Z.heap "java/util/ImmutableCollections" "EMPTY" "Ljava/lang/Object;" (.ref a57)) (H60 : xF10 Z h0 a1 .null) (H66 : xE26 Z h0 a4) (H68 : xF27 Z h0 a4 (.int (0:Int32))) (H69 : a4 ≠ a1) (H73 : xF0 Z h0 a6 (.int (1:Int32))) (H87 : xF16 Z h0 a51 (.int (0:Int32))) (H88 : a51 ≠ a1) (H95 : xF16 Z h0 a1 (.int (0:Int32))) :
    MF l y5 cP16_1 10 none [] (rM 8 3 7 101) Z #[(.ref a1), (.int p2), (.ref a3), .null, (.ref a4), (.int p5), (.ref a6)] h0 (r5_5Q Z a1 p2 a3 a4 p5 a6 a43 a48 k50 a51 a57 h0 n0) := by
  refine own_in (pq pn9) #[rv a1, iv p2, rv a3, .val .null, rv a4, iv p5, rv a6, un, un, un] (fun _ => by first | (simp [entryFrame, mkF, argsToLocals, Value.category]; done) | rfl) ?_
  intro p e s m below meth c s₁ Bd hx hby hml hown hnm hZ e0 X0
  have N0 := Fr.nil n0
  obtain ⟨_, X7, e7, st7⟩ := initO X0 hx hZ hown (ow hw 50 rfl) (ow hw 27 rfl) (ow hw 28 rfl) e0 (g := (mkF m 1 #[rv a1, iv p2, rv a3, .val .null, rv a4, iv p5, rv a6, un, un, un] [(.ref a1)])) rfl (by rw [hml]; rfl) rfl (hb hby d5_1) (by decide) (W := 0) wf (by decide)
  obtain ⟨_, h10, X10, e10, W10, st10⟩ := pF X7 hx hZ hown (ow hw 51 rfl) e7 H8 H9 (Or.inr ⟨(ow hw 52 rfl), rfl, hnm⟩) (ow hw 35 rfl) (ty := .int) (by decide) rfl rfl (g := (mkF m 6 #[rv a1, iv p2, rv a3, .val .null, rv a4, iv p5, rv a6, un, un, un] [(.int p2), (.ref a1)])) rfl rfl (hb hby d5_6)
  have O_W10 : Old Z n0 h10 := O0.wr W10 H11
  have Kp_W10 : Keep h0 h10 [a1] := (Keep.refl h0 [a1]).wr W10 (mI 0 rfl)
  have N12 := Fr.snoc X10 N0 H11
  have f15 := (H9.wr W10)
  have f16 := (H14.other W10 (Or.inr (sn11 hw)))
  obtain ⟨_, h17, X17, e17, W17, st17⟩ := pF X10 hx hZ hown (ow hw 53 rfl) e10 f16 f15 (Or.inr ⟨(ow hw 54 rfl), rfl, hnm⟩) (ow hw 35 rfl) (ty := (.object "tabula/engine/Concept$Kind")) (by decide) rfl rfl (g := (mkF m 11 #[rv a1, iv p2, rv a3, .val .null, rv a4, iv p5, rv a6, un, un, un] [(.ref a3), (.ref a1)])) rfl rfl (hb hby d5_11)
  have O_W17 : Old Z n0 h17 := O_W10.wr W17 H11
  have Kp_W17 : Keep h0 h17 [a1] := Kp_W10.wr W17 (mI 0 rfl)
  have N18 := Fr.snoc X17 N12 H11
  have f19 := f16.same W17
  have f21 := (f15.wr W17)
  have f22 := ((H20.other W10 (Or.inr (sn12 hw))).other W17 (Or.inr (sn13 hw)))
  obtain ⟨_, h23, X23, e23, W23, st23⟩ := pF X17 hx hZ hown (ow hw 55 rfl) e17 f22 f21 (Or.inr ⟨(ow hw 56 rfl), rfl, hnm⟩) (ow hw 35 rfl) (ty := (.object "java/lang/String")) (by decide) rfl rfl (g := (mkF m 16 #[rv a1, iv p2, rv a3, .val .null, rv a4, iv p5, rv a6, un, un, un] [.null, (.ref a1)])) rfl rfl (hb hby d5_16)
  have O_W23 : Old Z n0 h23 := O_W17.wr W23 H11
  have Kp_W23 : Keep h0 h23 [a1] := Kp_W17.wr W23 (mI 0 rfl)
  have N24 := Fr.snoc X23 N18 H11
  have f27 := (f21.wr W23)
  have f28 := (((H26.other W10 (Or.inr (sn14 hw))).other W17 (Or.inr (sn15 hw))).other W23 (Or.inr (sn16 hw)))
  obtain ⟨_, h29, X29, e29, W29, st29⟩ := pF X23 hx hZ hown (ow hw 57 rfl) e23 f28 f27 (Or.inr ⟨(ow hw 58 rfl), rfl, hnm⟩) (ow hw 35 rfl) (ty := (.object "tabula/engine/Role")) (by decide) rfl rfl (g := (mkF m 22 #[rv a1, iv p2, rv a3, .val .null, rv a4, iv p5, rv a6, un, un, un] [(.ref a4), (.ref a1)])) rfl rfl (hb hby d5_22)
  have O_W29 : Old Z n0 h29 := O_W23.wr W29 H11
  have Kp_W29 : Keep h0 h29 [a1] := Kp_W23.wr W29 (mI 0 rfl)
  have N30 := Fr.snoc X29 N24 H11
  have f33 := (f27.wr W29)
  have f34 := ((((H32.other W10 (Or.inr (sn17 hw))).other W17 (Or.inr (sn18 hw))).other W23 (Or.inr (sn19 hw))).other W29 (Or.inr (sn20 hw)))
  obtain ⟨_, h35, X35, e35, W35, st35⟩ := pF X29 hx hZ hown (ow hw 59 rfl) e29 f34 f33 (Or.inr ⟨(ow hw 60 rfl), rfl, hnm⟩) (ow hw 35 rfl) (ty := .int) (by decide) rfl rfl (g := (mkF m 28 #[rv a1, iv p2, rv a3, .val .null, rv a4, iv p5, rv a6, un, un, un] [(.int p5), (.ref a1)])) rfl rfl (hb hby d5_28)
  have O_W35 : Old Z n0 h35 := O_W29.wr W35 H11
  have Kp_W35 : Keep h0 h35 [a1] := Kp_W29.wr W35 (mI 0 rfl)
  have N36 := Fr.snoc X35 N30 H11
  have f39 := (((((H38.wr W10).wr W17).wr W23).wr W29).wr W35)
  have f42 := (((((H40.other W10 (Or.inl H41)).other W17 (Or.inl H41)).other W23 (Or.inl H41)).other W29 (Or.inl H41)).other W35 (Or.inl H41))
  have f45 := (((((H44.other W10 (Or.inl H41)).other W17 (Or.inl H41)).other W23 (Or.inl H41)).other W29 (Or.inl H41)).other W35 (Or.inl H41))
  have f47 := (((((H46.wr W10).wr W17).wr W23).wr W29).wr W35)
  have f54 := (((((H52.other W10 H53).other W17 H53).other W23 H53).other W29 H53).other W35 H53)
  have f56 := (((((H55.wr W10).wr W17).wr W23).wr W29).wr W35)
  obtain ⟨T59, _, _, X59, hQ59, st59⟩ := cS X35 hx hZ hw hown (y := y6) 61 rfl 62 rfl 63 rfl 64 rfl (by decide) (W := 1) (r6_4 hw a6 a43 a48 k50 a51 a57 O_W35 f39 f42 f45 f47 H49 f54 f56 H58) (by decide) (by decide) e35 (g := (mkF m 34 #[rv a1, iv p2, rv a3, .val .null, rv a4, iv p5, rv a6, un, un, un] [(.ref a6), (.ref a1)])) rfl (by rw [hml]; rfl) (argsL := [(.ref a6)]) (rest := [(.ref a1)]) (lenOf pd5 rfl) rfl wf (hb hby d5_34) rfl (by decide) (by decide)
  obtain ⟨b59_0, rfl, N59q, K59, lo59_1, f59_2, f59_3, f59_4⟩ := hQ59
  have N59 := Fr.app N36 N59q
  have O_K59 : Old Z n0 T59.heap := O_W35.keep K59 all0
  have Kp_K59 : Keep h0 T59.heap [a1] := Kp_W35.trans K59 all0
  have f61 := ((f33.wr W35).keep K59)
  have f62 := ((((((H60.other W10 (Or.inr (sn21 hw))).other W17 (Or.inr (sn22 hw))).other W23 (Or.inr (sn23 hw))).other W29 (Or.inr (sn24 hw))).other W35 (Or.inr (sn25 hw))).keep K59 nin0)
  obtain ⟨_, h63, X63, e63, W63, st63⟩ := pF X59 hx hZ hown (ow hw 90 rfl) rfl f62 f61 (Or.inr ⟨(ow hw 91 rfl), rfl, hnm⟩) (ow hw 35 rfl) (ty := (.object "java/util/List")) (by decide) rfl rfl (g := (mkF m 37 #[rv a1, iv p2, rv a3, .val .null, rv a4, iv p5, rv a6, un, un, un] [(.ref b59_0), (.ref a1)])) rfl rfl (hb hby d5_37)
  have O_W63 : Old Z n0 h63 := O_K59.wr W63 H11
  have Kp_W63 : Keep h0 h63 [a1] := Kp_K59.wr W63 (mI 0 rfl)
  have N64 := Fr.snoc X63 N59 H11
  have f65 := f62.same W63
  have f67 := (((((((H66.wr W10).wr W17).wr W23).wr W29).wr W35).keep K59).wr W63)
  have f70 := (((((((H68.other W10 (Or.inl H69)).other W17 (Or.inl H69)).other W23 (Or.inl H69)).other W29 (Or.inl H69)).other W35 (Or.inl H69)).keep K59 nin0).other W63 (Or.inl H69))
  obtain ⟨T71, _, _, X71, hQ71, st71⟩ := cV X63 hx hZ hw hown (y := y50) 314 rfl 315 rfl 317 rfl 316 rfl 318 rfl 290 rfl (by decide) (W := 0) (r50_1 hw a4 O_W63 f70) (by decide) (by decide) f67 e63 (g := (mkF m 47 #[rv a1, iv p2, rv a3, .val .null, rv a4, iv p5, rv a6, un, un, un] [(.ref a4)])) rfl (by rw [hml]; rfl) (argsL := []) (rest := []) (lenOf pd23 rfl) rfl wf (hb hby d5_47) rfl (by decide) (by decide)
  obtain ⟨rfl, N71q, e71⟩ := hQ71
  have N71 := Fr.app N64 N71q
  have f72 := ((f39.keep K59).wr W63)
  have f74 := (((((((H73.other W10 (Or.inl H41)).other W17 (Or.inl H41)).other W23 (Or.inl H41)).other W29 (Or.inl H41)).other W35 (Or.inl H41)).keep K59 nin0).other W63 (Or.inl H41))
  obtain ⟨T75, _, _, X75, hQ75, st75⟩ := cI X71 hx hZ hw hown (x := y13) (y := y11) 92 rfl 93 rfl 94 rfl 95 rfl 96 rfl 97 rfl 98 rfl 99 rfl 100 rfl 10 rfl (by decide) (W := 0) (r11_4 hw a6 O_W63 f74 f72) (by decide) (by decide) f72 e71 (g := (mkF m 62 #[rv a1, iv p2, rv a3, .val .null, rv a4, iv p5, rv a6, iv (0:Int32), un, un] [(.ref a6)])) rfl (by rw [hml]; rfl) (argsL := []) (rest := []) (lenOf pd13 rfl) rfl wf (hb hby d5_62) rfl (by decide) (by decide)
  obtain ⟨b75_0, rfl, N75q, K75, lo75_1, f75_2, f75_3, f75_4, f75_5, f75_6⟩ := hQ75
  have N75 := Fr.app N71 N75q
  have O_K75 : Old Z n0 T75.heap := O_W63.keep K75 all0
  have Kp_K75 : Keep h0 T75.heap [a1] := Kp_W63.trans K75 all0
  have f76 := (((f42.keep K59 nin0).other W63 (Or.inl H41)).keep K75 nin0)
  obtain ⟨_, _, _, X77, hQ77, st77⟩ := cI X75 hx hZ hw hown (x := y15) (y := y14) 117 rfl 118 rfl 119 rfl 120 rfl 121 rfl 122 rfl 123 rfl 124 rfl 125 rfl 103 rfl (by decide) (W := 0) (r14_9 hw b75_0 a6 O_K75 f75_6 f75_3 f76) (by decide) (by decide) f75_2 rfl (g := (mkF m 71 #[rv a1, iv p2, rv a3, .val .null, rv a4, iv p5, rv a6, iv (0:Int32), rv b75_0, un] [(.ref b75_0)])) rfl (by rw [hml]; rfl) (argsL := []) (rest := []) (lenOf pd23 rfl) rfl wf (hb hby d5_71) rfl (by decide) (by decide)
  obtain ⟨rfl, N77q, e77⟩ := hQ77
  have N77 := Fr.app N75 N77q
  have f78 := (f74.keep K75 nin0)
  have f79 := (((f45.keep K59 nin0).other W63 (Or.inl H41)).keep K75 nin0)
  have f80 := (((f54.keep K59 nin0).other W63 H53).keep K75 nin0)
  have g81 : n0 ≤ b75_0 := Nat.le_trans (Nat.le_trans (Nat.le_of_eq O_W63.1.symm) O_W63.2.1) lo75_1
  have ne82 : a43 ≠ b75_0 := Nat.ne_of_lt (Nat.lt_of_lt_of_le ((f47.keep K59).wr W63).lt lo75_1)
  obtain ⟨T83, _, _, X83, hQ83, st83⟩ := cI X77 hx hZ hw hown (x := y37) (y := y35) 251 rfl 252 rfl 253 rfl 254 rfl 255 rfl 256 rfl 257 rfl 124 rfl 258 rfl 103 rfl (by decide) (W := 0) (r35_6 hw b75_0 a6 a43 k50 a51 O_K75 f75_2 f75_3 f78 f75_5 f75_6 f76 f79 f80 g81 f75_4 ne82) (by decide) (by decide) f75_2 e77 (g := (mkF m 81 #[rv a1, iv p2, rv a3, .val .null, rv a4, iv p5, rv a6, iv (0:Int32), rv b75_0, un] [(.ref b75_0)])) rfl (by rw [hml]; rfl) (argsL := []) (rest := []) (lenOf pd19 rfl) rfl wf (hb hby d5_81) rfl (by decide) (by decide)
  obtain ⟨rfl, N83q, K83, f83_1, f83_2, _, f83_4, _⟩ := hQ83
  have N83 := Fr.app N77 N83q
  have z84 : h0.size ≤ b75_0 := Nat.le_trans Kp_W63.1 lo75_1
  have O_K83 : Old Z n0 T83.heap := O_K75.keep K83 (allS g81 all0)
  have Kp_K83 : Keep h0 T83.heap [a1] := Kp_K75.trans K83 (allS (Or.inr z84) all0)
  have f86 := ((((f56.keep K59).wr W63).keep K75).keep K83)
  obtain ⟨_, X85, e85, st85⟩ := castY X83 hx hZ hown (ow hw 265 rfl) rfl (Ins.self f86) (g := (mkF m 86 #[rv a1, iv p2, rv a3, .val .null, rv a4, iv p5, rv a6, iv (0:Int32), rv b75_0, un] [(.ref a51)])) rfl rfl (hb hby d5_86)
  have ne89 : a51 ≠ b75_0 := Nat.ne_of_lt (Nat.lt_of_lt_of_le (((((((H55.wr W10).wr W17).wr W23).wr W29).wr W35).keep K59).wr W63).lt lo75_1)
  have f90 := (((((((((H87.other W10 (Or.inl H88)).other W17 (Or.inl H88)).other W23 (Or.inl H88)).other W29 (Or.inl H88)).other W35 (Or.inl H88)).keep K59 nin0).other W63 (Or.inl H88)).keep K75 nin0).keep K83 (ninS ne89 nin0))
  obtain ⟨_, X91, e91, st91⟩ := gF X85 hx hZ hown (ow hw 129 rfl) e85 f90 (g := (mkF m 95 #[rv a1, iv p2, rv a3, .val .null, rv a4, iv p5, rv a6, iv (0:Int32), rv b75_0, rv a51] [(.ref a51), (.int (0:Int32))])) rfl rfl (hb hby d5_95)
  have ne92 : a6 ≠ b75_0 := Nat.ne_of_lt (Nat.lt_of_lt_of_le f72.lt lo75_1)
  have f93 := (f76.keep K83 (ninS ne92 nin0))
  obtain ⟨_, _, _, X94, hQ94, st94⟩ := cI X91 hx hZ hw hown (x := y15) (y := y14) 117 rfl 118 rfl 119 rfl 120 rfl 121 rfl 122 rfl 123 rfl 124 rfl 125 rfl 103 rfl (by decide) (W := 0) (r14_10 hw b75_0 a6 O_K83 f83_4 f83_2 f93) (by decide) (by decide) f83_1 e91 (g := (mkF m 71 #[rv a1, iv p2, rv a3, .val .null, rv a4, iv p5, rv a6, iv (0:Int32), rv b75_0, rv a51] [(.ref b75_0)])) rfl (by rw [hml]; rfl) (argsL := []) (rest := []) (lenOf pd23 rfl) rfl wf (hb hby d5_71) rfl (by decide) (by decide)
  obtain ⟨rfl, N94q, e94⟩ := hQ94
  have N94 := Fr.app N83 N94q
  have f96 := (((f61.wr W63).keep K75).keep K83)
  have ne97 : a1 ≠ b75_0 := Nat.ne_of_lt (Nat.lt_of_lt_of_le (((((((H9.wr W10).wr W17).wr W23).wr W29).wr W35).keep K59).wr W63).lt lo75_1)
  have f98 := (((((((((H95.other W10 (Or.inr (sn26 hw))).other W17 (Or.inr (sn27 hw))).other W23 (Or.inr (sn28 hw))).other W29 (Or.inr (sn29 hw))).other W35 (Or.inr (sn30 hw))).keep K59 nin0).other W63 (Or.inr (sn31 hw))).keep K75 nin0).keep K83 (ninS ne97 nin0))
  obtain ⟨T99, h99, X99, e99, W99, st99⟩ := pF X94 hx hZ hown (ow hw 129 rfl) e94 f98 f96 (Or.inr ⟨(ow hw 130 rfl), rfl, hnm⟩) (ow hw 35 rfl) (ty := .boolean) (by decide) rfl rfl (g := (mkF m 107 #[rv a1, iv p2, rv a3, .val .null, rv a4, iv p5, rv a6, iv (0:Int32), rv b75_0, rv a51] [(.int (0:Int32)), (.ref a1)])) rfl rfl (hb hby d5_107)
  have Kp_W99 : Keep h0 h99 [a1] := Kp_K83.wr W99 (mI 0 rfl)
  have N100 := Fr.snoc X99 N94 H11
  have f101 := f98.same W99
  have z102 : h0.size ≤ b59_0 := Nat.le_trans Kp_W35.1 lo59_1
  have f103 := (f96.wr W99)
  have f104 := ((((((((f19.other W23 (Or.inr (sn32 hw))).other W29 (Or.inr (sn33 hw))).other W35 (Or.inr (sn34 hw))).keep K59 nin0).other W63 (Or.inr (sn35 hw))).keep K75 nin0).keep K83 (ninS ne97 nin0)).other W99 (Or.inr (sn36 hw)))
  have f105 := (((f65.keep K75 nin0).keep K83 (ninS ne97 nin0)).other W99 (Or.inr (sn37 hw)))
  have f106 := ((((f59_2.wr W63).keep K75).keep K83).wr W99)
  have ne107 : a1 ≠ b59_0 := Nat.ne_of_lt (Nat.lt_of_lt_of_le (((((H9.wr W10).wr W17).wr W23).wr W29).wr W35).lt lo59_1)
  have ne108 : b59_0 ≠ b75_0 := Nat.ne_of_lt (Nat.lt_of_lt_of_le (f59_2.wr W63).lt lo75_1)
  have f109 := ((((f59_3.other W63 (Or.inl (Ne.symm ne107))).keep K75 nin0).keep K83 (ninS ne108 nin0)).other W99 (Or.inl (Ne.symm ne107)))
  have f110 := ((((f59_4.other W63 (Or.inl (Ne.symm ne107))).keep K75 nin0).keep K83 (ninS ne108 nin0)).other W99 (Or.inl (Ne.symm ne107)))
  refine fin (Q := r5_5Q Z a1 p2 a3 a4 p5 a6 a43 a48 k50 a51 a57 h0 n0) (rm := (rM 8 3 7 101)) Bd X99 e99 (none) (fun _ => rfl) ⟨b59_0, rfl, N100, Kp_W99, z102, f103, f104, f105, f101, f106, f109, f110⟩ (by decide) (by decide) fun fs hr => ?_
  show St p e below s₁ m 0 #[rv a1, iv p2, rv a3, .val .null, rv a4, iv p5, rv a6, un, un, un] [] _
  refine aN X0 hx hby d5_0 rfl rfl ?_
  refine st7 _ ?_
  refine aN X7 hx hby d5_4 rfl rfl ?_
  refine iN X7 hx hby d5_5 rfl ?_
  refine st10 _ ?_
  refine aN X10 hx hby d5_9 rfl rfl ?_
  refine aN X10 hx hby d5_10 rfl rfl ?_
  refine st17 _ ?_
  refine aN X17 hx hby d5_14 rfl rfl ?_
  refine aN X17 hx hby d5_15 rfl rfl ?_
  refine st23 _ ?_
  refine aN X23 hx hby d5_19 rfl rfl ?_
  refine aL X23 hx hby d5_20 rfl rfl ?_
  refine st29 _ ?_
  refine aN X29 hx hby d5_25 rfl rfl ?_
  refine iL X29 hx hby d5_26 rfl ?_
  refine st35 _ ?_
  refine aN X35 hx hby d5_31 rfl rfl ?_
  refine aL X35 hx hby d5_32 rfl rfl ?_
  refine st59 _ ?_
  refine st63 _ ?_
  refine aL X63 hx hby d5_40 rfl rfl ?_
  refine XS.ifnullNo X63.here hx rfl (hb hby d5_42) rfl ?_
  refine aL X63 hx hby d5_45 rfl rfl ?_
  refine st71.trans ?_
  show St p e below T71 m 50 #[rv a1, iv p2, rv a3, .val .null, rv a4, iv p5, rv a6, un, un, un] [(.int (0:Int32))] _
  refine XS.ifYes X71.here hx rfl (pc0 := 50) (pc' := 57) rfl (hb hby d5_50) rfl ((if0 _ _).trans (teq (rfl : (0:Int32) = (0:Int32))).1) (by decide) (by decide) ?_
  refine iC X71 hx hby d5_57 ?_
  refine XS.istore X71.here hx rfl (hb hby d5_58) rfl (l' := #[rv a1, iv p2, rv a3, .val .null, rv a4, iv p5, rv a6, iv (0:Int32), un, un]) rfl ?_
  refine aL X71 hx hby d5_60 rfl rfl ?_
  refine st75.trans ?_
  refine XS.astore X75.here hx rfl (hb hby d5_67) rfl rfl (l' := #[rv a1, iv p2, rv a3, .val .null, rv a4, iv p5, rv a6, iv (0:Int32), rv b75_0, un]) rfl ?_
  refine aL X75 hx hby d5_69 rfl rfl ?_
  refine st77.trans ?_
  refine XS.ifNo X77.here hx rfl (hb hby d5_76) rfl ((if0 _ _).trans (feq (by decide : ¬ ((1:Int32) = (0:Int32)))).1) ?_
  refine aL X77 hx hby d5_79 rfl rfl ?_
  refine st83.trans ?_
  refine st85 _ ?_
  refine XS.astore X85.here hx rfl (hb hby d5_89) rfl rfl (l' := #[rv a1, iv p2, rv a3, .val .null, rv a4, iv p5, rv a6, iv (0:Int32), rv b75_0, rv a51]) rfl ?_
  refine iL X85 hx hby d5_91 rfl ?_
  refine aL X85 hx hby d5_93 rfl rfl ?_
  refine st91 _ ?_
  refine XS.ior X91.here hx rfl (hb hby d5_98) rfl ?_
  refine XS.istore X91.here hx rfl (hb hby d5_99) rfl (l' := #[rv a1, iv p2, rv a3, .val .null, rv a4, iv p5, rv a6, iv (0:Int32), rv b75_0, rv a51]) rfl ?_
  refine XS.goto X91.here hx rfl (pc0 := 101) (pc' := 69) rfl (hb hby d5_101) (by decide) (by decide) ?_
  refine aL X91 hx hby d5_69 rfl rfl ?_
  refine st94.trans ?_
  refine XS.ifYes X94.here hx rfl (pc0 := 76) (pc' := 104) rfl (hb hby d5_76) rfl ((if0 _ _).trans (teq (rfl : (0:Int32) = (0:Int32))).1) (by decide) (by decide) ?_
  refine aN X94 hx hby d5_104 rfl rfl ?_
  refine iL X94 hx hby d5_105 rfl ?_
  refine st99 _ ?_
  show St p e below T99 m 110 #[rv a1, iv p2, rv a3, .val .null, rv a4, iv p5, rv a6, iv (0:Int32), rv b75_0, rv a51] [] _
  exact X99.returnOut hx Bd.returns (hb hby d5_110) hr
theorem g1_29 (p1 p2 p3 p4:Int32) (a5 : Addr) (p6 p7:Int32) (a8 a9 a10 a11 a12 : Addr) (p13:Int32) (a14 : Addr) (p15:Int32) (a28 a33 : Addr) (k35 : ClassId) (a36 a42 a58 a61 a64 : Addr)
    (H0 : SG p l e R s m args below meth c T0 locs cells slots Z a0 h0 n0 4 15 9 123) (H23 : xE1 Z h0 a12) (H25 : xF3 Z h0 a12 (.int (1:Int32))) (H29 : xF2 Z h0 a12 (.ref a28)) (H31 : xE19 Z h0 a28) (H34 : Mi Z "[Ljava/lang/Object;" a33) (H37 : Arv Z h0 a28 k35 (.object "java/lang/Object") (10:Int32) [(.ref a36), .null, .null, .null, .null, .null, .null, .null, .null, .null] .null) (H40 : xE5 Z h0 a36) (H43 : Sta Z Z.heap "java/util/ImmutableCollections" "EMPTY" "Ljava/lang/Object;" (.ref a42)) (H45 : xE26 Z h0 a14) (H47 : xF27 Z h0 a14 (.int (0:Int32))) (H50 : xF0 Z h0 a12 (.int (1:Int32))) (H52 : xF16 Z h0 a36 (.int (0:Int32))) (H59 : Sta Z Z.heap "tabula/engine/Concept$Kind" "AND" "Ltabula/engine/Concept$Kind;" (.ref a58)) (H60 : a5 ≠ a58) (H62 : Sta Z Z.heap "tabula/engine/Concept$Kind" "OR" "Ltabula/engine/Concept$Kind;" (.ref a61)) (H63 : a5 ≠ a61) (H65 : Sta Z Z.heap "java/util/ImmutableCollections" "EMPTY_LIST" "Ljava/util/ImmutableCollections$ListN;" (.ref a64)) :
    ∃ (T' : State) (h' : Heap) (L' : List Loc) (b16 b56_0 : Addr), Stand p l e R s m args below meth c T' L' (cells + 4) (slots + 15) ∧ T'.heap = h' ∧ Fr n0 L' ∧ Keep h0 h' [] ∧ h0.size ≤ b16 ∧ h0.size ≤ b56_0 ∧ b16 ≠ b56_0 ∧ xE5 Z h' b16 ∧ xF6 Z h' b16 (.ref a5) ∧ xF10 Z h' b16 (.ref b56_0) ∧ xF16 Z h' b16 (.int (0:Int32)) ∧ xE21 Z h' b56_0 ∧ xF20 Z h' b56_0 (.ref a36) ∧ xF22 Z h' b56_0 (.ref a42) ∧
      ∀ target, St p e below T' m 298 #[iv p1, iv p2, iv p3, iv p4, rv a5, iv p6, iv p7, rv a8, rv a9, rv a10, rv a11, rv a12, iv p13, rv a14, .val .null, iv p15, rv b16, rv a64, un] [] target → St p e below T0 m 271 #[iv p1, iv p2, iv p3, iv p4, rv a5, iv p6, iv p7, rv a8, rv a9, rv a10, rv a11, rv a12, iv p13, rv a14, .val .null, iv p15, un, un, un] [] target := by
  obtain ⟨X0, hx, hZ, hw, hby, hml, hown, e0, O0, N0, rc, rs, rf, rl⟩ := H0
  obtain ⟨_, h16, X16, e16, E16, A16, D16, -, st16⟩ := newO X0 hx hZ hown (ow hw 34 rfl) (ow hw 35 rfl) (ow hw 36 rfl) e0 (g := (mkF m 271 #[iv p1, iv p2, iv p3, iv p4, rv a5, iv p6, iv p7, rv a8, rv a9, rv a10, rv a11, rv a12, iv p13, rv a14, .val .null, iv p15, un, un, un] [])) rfl (hb hby at_271) (by omega) (by omega)
  obtain ⟨b16, g16⟩ : ∃ z, z = h0.size := ⟨_, rfl⟩
  rw [← g16] at A16 D16 st16
  have O_E16 : Old Z n0 h16 := O0.ext E16
  have Kp_E16 : Keep h0 h16 [] := (Keep.refl h0 []).ext E16
  have f17 : xF4 Z h16 b16 (.int (0:Int32)) := D16 (Or.inr (ow hw 52 rfl)) (ty := .int) (by decide)
  have g18 : n0 ≤ b16 := Nat.le_trans (Nat.le_trans (Nat.le_of_eq O0.1.symm) O0.2.1) (Nat.le_of_eq g16.symm)
  have f19 : xF6 Z h16 b16 .null := D16 (Or.inr (ow hw 54 rfl)) (ty := (.object "tabula/engine/Concept$Kind")) (by decide)
  have f20 : xF7 Z h16 b16 .null := D16 (Or.inr (ow hw 56 rfl)) (ty := (.object "java/lang/String")) (by decide)
  have f21 : xF8 Z h16 b16 .null := D16 (Or.inr (ow hw 58 rfl)) (ty := (.object "tabula/engine/Role")) (by decide)
  have f22 : xF9 Z h16 b16 (.int (0:Int32)) := D16 (Or.inr (ow hw 60 rfl)) (ty := .int) (by decide)
  have f24 := (H23.ext E16)
  have f26 := (H25.ext E16)
  have ne27 : a12 ≠ b16 := Nat.ne_of_lt (Nat.lt_of_lt_of_le H23.lt (Nat.le_of_eq g16.symm))
  have f30 := (H29.ext E16)
  have f32 := (H31.ext E16)
  have f38 := (H37.ext E16)
  have ne39 : a28 ≠ b16 := Nat.ne_of_lt (Nat.lt_of_lt_of_le H31.lt (Nat.le_of_eq g16.symm))
  have f41 := (H40.ext E16)
  have f44 : xF10 Z h16 b16 .null := D16 (Or.inr (ow hw 91 rfl)) (ty := (.object "java/util/List")) (by decide)
  have f46 := (H45.ext E16)
  have f48 := (H47.ext E16)
  have ne49 : a14 ≠ b16 := Nat.ne_of_lt (Nat.lt_of_lt_of_le H45.lt (Nat.le_of_eq g16.symm))
  have f51 := (H50.ext E16)
  have f53 := (H52.ext E16)
  have ne54 : a36 ≠ b16 := Nat.ne_of_lt (Nat.lt_of_lt_of_le H40.lt (Nat.le_of_eq g16.symm))
  have f55 : xF16 Z h16 b16 (.int (0:Int32)) := D16 (Or.inr (ow hw 130 rfl)) (ty := .boolean) (by decide)
  obtain ⟨T56, _, _, X56, hQ56, st56⟩ := cP X16 hx hZ hw hown (y := y5) rfl 47 rfl 48 rfl 49 rfl 36 rfl (by decide) (W := 1) (r5_5 hw b16 (3:Int32) a5 a14 p15 a12 a28 a33 k35 a36 a42 O_E16 f17 A16 g18 f19 f20 f21 f22 f24 f26 ne27 f30 f32 H34 f38 ne39 f41 H43 f44 f46 f48 ne49 f51 f53 ne54 f55) (by show 8 + 1 ≤ R.frames; omega) (by show 1 + (10 + 11) + 101 ≤ R.locals; omega) e16 (g := (mkF m 286 #[iv p1, iv p2, iv p3, iv p4, rv a5, iv p6, iv p7, rv a8, rv a9, rv a10, rv a11, rv a12, iv p13, rv a14, .val .null, iv p15, un, un, un] [(.ref a12), (.int p15), (.ref a14), .null, (.ref a5), (.int (3:Int32)), (.ref b16), (.ref b16)])) rfl (by rw [hml]; rfl) (argsL := [(.int (3:Int32)), (.ref a5), .null, (.ref a14), (.int p15), (.ref a12)]) (rest := [(.ref b16)]) (lenOf pd0 rfl) rfl wf (hb hby at_286) rfl (by show cells + 1 + 3 ≤ R.cells; omega) (by show slots + 8 + 7 ≤ R.slots; omega)
  obtain ⟨b56_0, rfl, N56q, K56, lo56_1, f56_2, f56_3, f56_4, f56_5, f56_6, f56_7, f56_8⟩ := hQ56
  have N56 := Fr.app N0 N56q
  have z57 : h0.size ≤ b16 := Nat.le_trans (Keep.refl h0 []).1 (Nat.le_of_eq g16.symm)
  have O_K56 : Old Z n0 T56.heap := O_E16.keep K56 (allS g18 all0)
  have Kp_K56 : Keep h0 T56.heap [] := Kp_E16.trans K56 (allS (Or.inr z57) all0)
  replace X56 : Stand p l e R _ m args below meth c T56 _ (cells + 4) (slots + 15) := X56
  obtain ⟨T66, _, _, X66, hQ66, st66⟩ := cV X56 hx hZ hw hown (y := y17) 136 rfl 137 rfl 139 rfl 138 rfl 140 rfl 36 rfl (by decide) (W := 0) (r17_1 hw b16 a5 a58 a61 a64 O_K56 f56_3 H59 H60 H62 H63 H65) (by show 1 + 1 ≤ R.frames; omega) (by show 0 + (1 + 11) + 11 ≤ R.locals; omega) f56_2 rfl (g := (mkF m 293 #[iv p1, iv p2, iv p3, iv p4, rv a5, iv p6, iv p7, rv a8, rv a9, rv a10, rv a11, rv a12, iv p13, rv a14, .val .null, iv p15, rv b16, un, un] [(.ref b16)])) rfl (by rw [hml]; rfl) (argsL := []) (rest := []) (lenOf pd20 rfl) rfl wf (hb hby at_293) rfl (by show cells + 4 + 0 ≤ R.cells; omega) (by show slots + 15 + 0 ≤ R.slots; omega)
  obtain ⟨rfl, N66q, e66⟩ := hQ66
  have N66 := Fr.app N56 N66q
  replace X66 : Stand p l e R _ m args below meth c T66 _ (cells + 4) (slots + 15) := X66
  have z67 : h0.size ≤ b56_0 := Nat.le_trans Kp_E16.1 lo56_1
  have ne68 : b16 ≠ b56_0 := Nat.ne_of_lt (Nat.lt_of_lt_of_le A16.lt lo56_1)
  refine ⟨T66, _, _, b16, b56_0, X66.more (by omega) (by omega), e66, N66, Kp_K56, z57, z67, ne68, f56_2, f56_3, f56_4, f56_5, f56_6, f56_7, f56_8, fun target kt => ?_⟩
  show St p e below T0 m 271 #[iv p1, iv p2, iv p3, iv p4, rv a5, iv p6, iv p7, rv a8, rv a9, rv a10, rv a11, rv a12, iv p13, rv a14, .val .null, iv p15, un, un, un] [] _
  refine st16 _ ?_
  refine XS.dup X16.here hx rfl (hb hby at_274) rfl rfl ?_
  refine iC X16 hx hby at_275 ?_
  refine aL X16 hx hby at_276 rfl rfl ?_
  refine aL X16 hx hby at_278 rfl rfl ?_
  refine aL X16 hx hby at_280 rfl rfl ?_
  refine iL X16 hx hby at_282 rfl ?_
  refine aL X16 hx hby at_284 rfl rfl ?_
  refine st56.trans ?_
  refine XS.astore X56.here hx rfl (hb hby at_289) rfl rfl (l' := #[iv p1, iv p2, iv p3, iv p4, rv a5, iv p6, iv p7, rv a8, rv a9, rv a10, rv a11, rv a12, iv p13, rv a14, .val .null, iv p15, rv b16, un, un]) rfl ?_
  refine aL X56 hx hby at_291 rfl rfl ?_
  refine st66.trans ?_
  refine XS.astore X66.here hx rfl (hb hby at_296) rfl rfl (l' := #[iv p1, iv p2, iv p3, iv p4, rv a5, iv p6, iv p7, rv a8, rv a9, rv a10, rv a11, rv a12, iv p13, rv a14, .val .null, iv p15, rv b16, rv a64, un]) rfl ?_
  exact kt
theorem g1_30 (p1 p2 p3 p4:Int32) (a5 : Addr) (p6 p7:Int32) (a8 a9 a10 a11 a12 : Addr) (p13:Int32) (a14 : Addr) (p15:Int32) (a16 a17 a20 : Addr) (k22 : ClassId)
    (H0 : SG p l e R s m args below meth c T0 locs cells slots Z a0 h0 n0 0 0 1 12) (hc18 : p6 = (0:Int32)) (H19 : xE17 Z Z.heap a17) (H21 : xF18 Z Z.heap a17 (.ref a20)) (H23 : Arv Z Z.heap a20 k22 (.object "java/lang/Object") (0:Int32) [] .null) :
    ∃ (T' : State) (L' : List Loc), Stand p l e R s m args below meth c T' L' (cells + 0) (slots + 0) ∧ T'.heap = h0 ∧ Fr n0 L' ∧
      ∀ target, St p e below T' m 310 #[iv p1, iv p2, iv p3, iv p4, rv a5, iv p6, iv p7, rv a8, rv a9, rv a10, rv a11, rv a12, iv p13, rv a14, .val .null, iv p15, rv a16, rv a17, un] [(.int (1:Int32))] target → St p e below T0 m 298 #[iv p1, iv p2, iv p3, iv p4, rv a5, iv p6, iv p7, rv a8, rv a9, rv a10, rv a11, rv a12, iv p13, rv a14, .val .null, iv p15, rv a16, rv a17, un] [] target := by
  obtain ⟨X0, hx, hZ, hw, hby, hml, hown, e0, O0, N0, rc, rs, rf, rl⟩ := H0
  obtain ⟨T24, _, _, X24, hQ24, st24⟩ := cI X0 hx hZ hw hown (x := y19) (y := y18) 146 rfl 147 rfl 148 rfl 149 rfl 150 rfl 151 rfl 152 rfl 153 rfl 155 rfl 154 rfl (by decide) (W := 0) (r18_1 hw a17 a20 k22 O0 H21 H23) (by show 0 + 1 ≤ R.frames; omega) (by show 0 + (1 + 11) + 0 ≤ R.locals; omega) (H19.ext O0.2) e0 (g := (mkF m 305 #[iv p1, iv p2, iv p3, iv p4, rv a5, iv p6, iv p7, rv a8, rv a9, rv a10, rv a11, rv a12, iv p13, rv a14, .val .null, iv p15, rv a16, rv a17, un] [(.ref a17)])) rfl (by rw [hml]; rfl) (argsL := []) (rest := []) (lenOf pd23 rfl) rfl wf (hb hby at_305) rfl (by show cells + 0 + 0 ≤ R.cells; omega) (by show slots + 0 + 0 ≤ R.slots; omega)
  obtain ⟨rfl, N24q, e24⟩ := hQ24
  have N24 := Fr.app N0 N24q
  replace X24 : Stand p l e R _ m args below meth c T24 _ (cells + 0) (slots + 0) := X24
  refine ⟨T24, _, X24.more (by omega) (by omega), e24, N24, fun target kt => ?_⟩
  show St p e below T0 m 298 #[iv p1, iv p2, iv p3, iv p4, rv a5, iv p6, iv p7, rv a8, rv a9, rv a10, rv a11, rv a12, iv p13, rv a14, .val .null, iv p15, rv a16, rv a17, un] [] _
  refine iL X0 hx hby at_298 rfl ?_
  refine XS.ifNo X0.here hx rfl (hb hby at_300) rfl ((if0 _ _).trans (teq hc18).2) ?_
  refine aL X0 hx hby at_303 rfl rfl ?_
  refine st24.trans ?_
  exact kt
theorem law_9 (l : Launch) (Z : State) (a0 : Array Value) (hw : HW a0 Z) (ws : List Jvm.Cond) (w0 w1 w2 w3 w4 w5 w6 w7 w8 w9 w10 w11 w12 w13 w14 : Addr) (k_w10 k_w11 k_w13 : ClassId) (wMir : Addr) (B : Base Z w0 w1 w2 w3 w4 w5 w6 w7 w8 w9 w10 w11 w12 w13 w14 k_w10 k_w11 k_w13 wMir) (i0 i1 i2:Int32) (h0 : Heap) (n0 : Nat) (O0 : Old Z n0 h0) (pin0 : ((i0 &&& (2147483647:Int32)) % (10:Int32)) = (6:Int32)) (pin2 : (i2 &&& (1:Int32)) = (0:Int32)) (pin3 : (i2 &&& (2:Int32)) = (0:Int32)) :
    MetFree l x (head1 (Jvm.Cond.code x code maxLocals ret :: ws) room_1) (fun a U => a = #[(.int i0), (.int i1), (.int i2)] ∧ Z.Warmed39 U.vm ∧ U.heap = h0) (fun _ _ _ _ _ => True) (fun _ U o U' => ∃ v L, o = .returned v ∧ lawQ n0 v U'.heap L ∧ ReturnedEndW U o U' L room_1.cells room_1.slots) := by
  refine own_in (pq pn4) #[iv i0, iv i1, iv i2, un, un, un, un, un, un, un, un, un, un, un, un, un, un, un, un] (fun _ => by first | (simp [entryFrame, mkF, argsToLocals, Value.category, maxLocals]; done) | rfl) ?_
  intro p e s m below meth c s₁ Bd hx hby hml hown hnm hZ e0 X0
  have N0 := Fr.nil n0
  skip
  obtain ⟨_, _, _, X1, hQ1, st1⟩ := cS X0 hx hZ hw hown (y := y0) 1 rfl 2 rfl 3 rfl 4 rfl (by decide) (W := 0) (r0_7 hw w7 O0 (B.2.1.2.2.1)) (by decide) (by decide) e0 (g := (mkF m 9 #[iv i0, iv i1, iv i2, iv (6:Int32), un, un, un, un, un, un, un, un, un, un, un, un, un, un, un] [(.int (6:Int32))])) rfl (by rw [hml]; rfl) (argsL := [(.int (6:Int32))]) (rest := []) (lenOf pd9 rfl) rfl wf (hb hby at_9) rfl (by decide) (by decide)
  obtain ⟨rfl, N1q, e1⟩ := hQ1
  have N1 := Fr.app N0 N1q
  obtain ⟨_, _, X2, e2, N2, st2⟩ := g1_24 i0 i1 i2 (6:Int32) w7 ⟨X1, hx, hZ, hw, hby, hml, hown, e1, O0, N1, by decide, by decide, by decide, by decide⟩ (by decide) (by decide) (by decide)
  obtain ⟨_, h3, _, vm3, b3_0, b3_1, b3_2, b3_3, b3_4, X3, e3, hSq3, N3, K3, _, _, _, _, lo3_5, _, _, _, _, _, _, _, _, nq3_14, _, _, _, _, _, _, _, _, _, f3_24, _, _, f3_27, _, _, _, _, f3_32, f3_33, f3_34, f3_35, st3⟩ := g1_2 i0 i1 i2 (6:Int32) w7 (0:Int32) (1:Int32) w11 w1 w12 ⟨X2, hx, hZ, hw, hby, hml, hown, e2, O0, N2, by decide, by decide, by decide, by decide⟩ (B.2.1.2.2.2.2.2.2.2.2.2.2.1) (B.1.2.2.1) (B.2.2.1.1)
  obtain ⟨Y3, hS3, hZ3, hown3⟩ := rebS (s := s) (vm0 := s.vm) (State.WarmedH.since (State.WarmedH.refl s) 0) (Nat.zero_le _) X3 hSq3 K3.1 hZ hown
  have O_K3 : Old Z n0 h3 := O0.keep K3 all0
  have g4 : n0 ≤ b3_4 := Nat.le_trans (Nat.le_trans (Nat.le_of_eq O0.1.symm) O0.2.1) lo3_5
  obtain ⟨_, h5, _, b5_0, k5_0, X5, e5, N5, K5, _, f5_2, f5_3, f5_4, f5_5, f5_6, f5_7, _, st5⟩ := g1_25 i0 i1 i2 (6:Int32) w7 (0:Int32) (1:Int32) b3_0 b3_1 b3_2 b3_3 b3_4 (0:Int32) w11 k_w11 ⟨Y3, hx, hZ3, hw, hby, hml, hown3, e3, O_K3, N3, by decide, by decide, by decide, by decide⟩ (by decide) (by decide) f3_32 f3_33 g4 f3_34 f3_35 (B.2.2.2.1.2.2.2.2.2.2.2.1) (B.2.1.2.2.2.2.2.2.2.2.2.2.1) f3_24
  have O_K5 : Old Z n0 h5 := O_K3.keep K5 (allS g4 all0)
  obtain ⟨_, h7, _, vm7, b7_0, X7, e7, hSq7, N7, K7, _, f7_2, f7_3, st7⟩ := g1_26 i0 i1 i2 (6:Int32) w7 (0:Int32) (1:Int32) b3_0 b3_1 b3_2 b3_3 b3_4 (0:Int32) ⟨X5, hx, hZ3, hw, hby, hml, hown3, e5, O_K5, N5, by decide, by decide, by decide, by decide⟩ (by decide) pin2 pin3
  obtain ⟨Y7, hS7, hZ7, hown7⟩ := rebS (s := s) (vm0 := vm3) hS3 (Nat.le_trans (Nat.le_refl _) K5.1) X7 hSq7 K7.1 hZ3 hown3
  have O_K7 : Old Z n0 h7 := O_K5.keep K7 all0
  obtain ⟨_, _, X8, e8, N8, st8⟩ := g1_27 i0 i1 i2 (6:Int32) w7 (0:Int32) (1:Int32) b3_0 b3_1 b3_2 b3_3 b3_4 (0:Int32) b7_0 (0:Int32) (0:Int32) ⟨Y7, hx, hZ7, hw, hby, hml, hown7, e7, O_K7, N7, by decide, by decide, by decide, by decide⟩ (by decide) (by decide)
  obtain ⟨_, _, X9, e9, N9, st9⟩ := g1_28 i0 i1 i2 (6:Int32) w7 (0:Int32) (1:Int32) b3_0 b3_1 b3_2 b3_3 b3_4 (0:Int32) b7_0 (0:Int32) ⟨X8, hx, hZ7, hw, hby, hml, hown7, e8, O_K7, N8, by decide, by decide, by decide, by decide⟩ (by decide)
  have f10 := (f5_2.keep K7)
  have f11 := (f5_5.keep K7 nin0)
  have f12 := (f5_4.keep K7 nin0)
  have f13 := (f5_7.keep K7)
  have f14 := (f5_6.keep K7 nin0)
  have f15 := ((f3_24.keep K5).keep K7)
  have f16 := (f5_3.keep K7 nin0)
  have f17 := ((f3_27.keep K5 (ninS nq3_14 nin0)).keep K7 nin0)
  obtain ⟨_, h18, _, b18_0, _, X18, e18, N18, K18, _, _, _, _, _, _, _, _, _, _, st18⟩ := g1_29 i0 i1 i2 (6:Int32) w7 (0:Int32) (1:Int32) b3_0 b3_1 b3_2 b3_3 b3_4 (0:Int32) b7_0 (1:Int32) b5_0 wMir k5_0 b3_2 w14 w2 w3 w12 ⟨X9, hx, hZ7, hw, hby, hml, hown7, e9, O_K7, N9, by decide, by decide, by decide, by decide⟩ f10 f11 f12 f13 (B.2.2.2.2.2.2.2.2.2.2.2.2.2.2.2) f14 f15 (B.2.2.1.2.2.2.2.1) f7_2 f7_3 f16 f17 (B.1.2.2.2.2.1) (Ne.symm B.2.2.2.2.2.2.1.2.2.2.2.1) (B.1.2.2.2.2.2.2.1) (Ne.symm B.2.2.2.2.2.2.2.1.2.2.2.1) (B.2.2.1.1)
  have O_K18 : Old Z n0 h18 := O_K7.keep K18 all0
  obtain ⟨T19, _, X19, e19, N19, st19⟩ := g1_30 i0 i1 i2 (6:Int32) w7 (0:Int32) (1:Int32) b3_0 b3_1 b3_2 b3_3 b3_4 (0:Int32) b7_0 (1:Int32) b18_0 w12 w13 k_w13 ⟨X18, hx, hZ7, hw, hby, hml, hown7, e18, O_K18, N18, by decide, by decide, by decide, by decide⟩ (by decide) (B.2.2.1.2.1) (B.2.2.1.2.2.1) (B.2.2.2.1.2.2.2.2.2.2.2.2.1)
  obtain ⟨_, hr, hrun, hended, hE⟩ := Stand.leaveW (s := s) (vm₁ := vm7) X19 hS7 (by rw [e19]; exact (Nat.le_trans (Nat.le_refl _) K18.1)) (v := some (.int (1:Int32))) (fun h => by rw [Bd.returns] at h; cases h)
  refine ⟨_, _, ?_, hrun, hended, _, _, rfl, ?_, hE.1, hE.2.1, hE.2.2.1, hE.2.2.2.mono (by decide) (by decide)⟩
  · show St p e below s₁ m 0 #[iv i0, iv i1, iv i2, un, un, un, un, un, un, un, un, un, un, un, un, un, un, un, un] [] _
    refine iN X0 hx hby at_0 rfl ?_
    refine X0.ldcInt hx hown (mo hZ hw 0 rfl) (g := (mkF m 1 #[iv i0, iv i1, iv i2, un, un, un, un, un, un, un, un, un, un, un, un, un, un, un, un] [(.int i0)])) rfl (hb hby at_1) _ ?_
    refine XS.iand X0.here hx rfl (hb hby at_3) rfl ?_
    refine XS.bipush X0.here hx rfl (hb hby at_4) ?_
    refine Jvm.RoadKit.iremM (g := (mkF m 6 #[iv i0, iv i1, iv i2, un, un, un, un, un, un, un, un, un, un, un, un, un, un, un, un] [(.int (10:Int32)), (.int (i0 &&& (2147483647:Int32)))])) X0 hx rfl (hb hby at_6) rfl (by decide : ¬ ((10:Int32) = (0:Int32))) ?_
    show St p e below s₁ m 7 #[iv i0, iv i1, iv i2, un, un, un, un, un, un, un, un, un, un, un, un, un, un, un, un] [(.int ((i0 &&& (2147483647:Int32)) % (10:Int32)))] _
    rw [pin0]
    refine XS.istoreN X0.here hx rfl (hb hby at_7) rfl (l' := #[iv i0, iv i1, iv i2, iv (6:Int32), un, un, un, un, un, un, un, un, un, un, un, un, un, un, un]) rfl ?_
    refine iN X0 hx hby at_8 rfl ?_
    refine st1 _ ?_
    refine XS.astore X1.here hx rfl (hb hby at_12) rfl rfl (l' := #[iv i0, iv i1, iv i2, iv (6:Int32), rv w7, un, un, un, un, un, un, un, un, un, un, un, un, un, un]) rfl ?_
    refine st2 _ ?_
    refine st3 _ ?_
    refine st5 _ ?_
    refine st7 _ ?_
    refine st8 _ ?_
    refine st9 _ ?_
    refine st18 _ ?_
    refine st19 _ ?_
    exact retN X19 hx (t := .boolean) Bd.returns (by simp) (hb hby at_310) hr
  · show lawQ n0 _ T19.heap _
    rw [e19]
    exact ⟨rfl, N19⟩
theorem d46_15 : dk cP33_1 15 (.iload_n 3) 1 := by decide +kernel
theorem d46_16 : dk cP33_1 16 (.ifCond .eq 13) 3 := by decide +kernel
def r46_2Q (Z : State) (a1 a2 : Addr) (h0 : Heap) (n0 : Nat) : QT := fun v h L => v = none ∧ Fr n0 L ∧ Keep h0 h [a1] ∧ xE26 Z h a1 ∧ xF27 Z h a1 (.int (1:Int32))
theorem r46_2 (hw : HW a0 Z) (a1 a2 : Addr) (O0 : Old Z n0 h0) (H6 : xF25 Z h0 a1 .null) (H8 : xE26 Z h0 a1) (H11 : n0 ≤ a1) (H14 : xF27 Z h0 a1 (.int (0:Int32))) (H20 : xF28 Z h0 a1 (.int (0:Int32))) :
    MFS l y46 cP33_1 4 none [] (rM 2 2 20 24) Z #[(.ref a1), (.ref a2), (.int (1:Int32)), (.int (0:Int32))] h0 (r46_2Q Z a1 a2 h0 n0) := by
  refine own_in (pq pn11) #[rv a1, rv a2, iv (1:Int32), iv (0:Int32)] (fun _ => by first | (simp [entryFrame, mkF, argsToLocals, Value.category]; done) | rfl) ?_
  intro p e s m below meth c s₁ Bd hx hby hml hown hnm hZ e0 X0
  have N0 := Fr.nil n0
  obtain ⟨_, _, _, X3, hQ3, st3⟩ := cP X0 hx hZ hw hown (y := y47) rfl 295 rfl 296 rfl 299 rfl 298 rfl (by decide) (W := 0) (r47_1 hw a1 O0) (by decide) (by decide) e0 (g := (mkF m 1 #[rv a1, rv a2, iv (1:Int32), iv (0:Int32)] [(.ref a1)])) rfl (by rw [hml]; rfl) (argsL := []) (rest := []) (lenOf pd22 rfl) rfl wf (hb hby d46_1) rfl (by decide) (by decide)
  obtain ⟨rfl, N3q, e3⟩ := hQ3
  have N3 := Fr.app N0 N3q
  obtain ⟨a4, T4, h4, _, X4, e4, E4, hS4, hk4, hZ4, hown4, st4⟩ := ldcS (s := s) (vm0 := s.vm) X3 hx hZ (own := "tabula/engine/Role") hown (ow hw 301 rfl) (fun d hd => hw d (strW d hd)) e3 (State.WarmedH.since (State.WarmedH.refl s) 0) (Nat.zero_le _) (g := (mkF m 5 #[rv a1, rv a2, iv (1:Int32), iv (0:Int32)] [(.ref a2)])) rfl (hb hby d46_5) (n := 16) (by decide) (by decide) (by decide) (by decide)
  have O_E4 : Old Z n0 h4 := O0.ext E4
  have Kp_E4 : Keep h0 h4 [a1] := (Keep.refl h0 [a1]).ext E4
  obtain ⟨_, _, _, X5, hQ5, st5⟩ := cS X4 hx hZ4 hw hown4 (y := y48) 302 rfl 303 rfl 245 rfl 304 rfl (by decide) (W := 0) (r48_1 hw a2 a4 O_E4) (by decide) (by decide) e4 (g := (mkF m 7 #[rv a1, rv a2, iv (1:Int32), iv (0:Int32)] [(.ref a4), (.ref a2)])) rfl (by rw [hml]; rfl) (argsL := [(.ref a2), (.ref a4)]) (rest := []) (lenOf pd2 rfl) rfl wf (hb hby d46_7) rfl (by decide) (by decide)
  obtain ⟨rfl, N5q, e5⟩ := hQ5
  have N5 := Fr.app N3 N5q
  have f7 := (H6.ext E4)
  have f9 := (H8.ext E4)
  obtain ⟨_, h10, X10, e10, W10, st10⟩ := pF X5 hx hZ4 hown4 (ow hw 305 rfl) e5 f7 f9 (Or.inr ⟨(ow hw 306 rfl), rfl, hnm⟩) (ow hw 289 rfl) (ty := (.object "java/lang/String")) (by decide) rfl rfl (g := (mkF m 31 #[rv a1, rv a2, iv (1:Int32), iv (0:Int32)] [(.ref a2), (.ref a1)])) rfl rfl (hb hby d46_31)
  have Kp_W10 : Keep h0 h10 [a1] := Kp_E4.wr W10 (mI 0 rfl)
  have N12 := Fr.snoc X10 N5 H11
  have f15 := (f9.wr W10)
  have f16 := ((H14.ext E4).other W10 (Or.inr (sn44 hw)))
  obtain ⟨_, h17, X17, e17, W17, st17⟩ := pF X10 hx hZ4 hown4 (ow hw 307 rfl) e10 f16 f15 (Or.inr ⟨(ow hw 308 rfl), rfl, hnm⟩) (ow hw 289 rfl) (ty := .boolean) (by decide) rfl rfl (g := (mkF m 36 #[rv a1, rv a2, iv (1:Int32), iv (0:Int32)] [(.int (1:Int32)), (.ref a1)])) rfl rfl (hb hby d46_36)
  have Kp_W17 : Keep h0 h17 [a1] := Kp_W10.wr W17 (mI 0 rfl)
  have N18 := Fr.snoc X17 N12 H11
  have f19 := f16.same W17
  have f21 := (f15.wr W17)
  have f22 := (((H20.ext E4).other W10 (Or.inr (sn45 hw))).other W17 (Or.inr (sn46 hw)))
  obtain ⟨T23, h23, X23, e23, W23, st23⟩ := pF X17 hx hZ4 hown4 (ow hw 309 rfl) e17 f22 f21 (Or.inr ⟨(ow hw 310 rfl), rfl, hnm⟩) (ow hw 289 rfl) (ty := .boolean) (by decide) rfl rfl (g := (mkF m 41 #[rv a1, rv a2, iv (1:Int32), iv (0:Int32)] [(.int (0:Int32)), (.ref a1)])) rfl rfl (hb hby d46_41)
  have Kp_W23 : Keep h0 h23 [a1] := Kp_W17.wr W23 (mI 0 rfl)
  have N24 := Fr.snoc X23 N18 H11
  have f26 := (f21.wr W23)
  have f27 := (f19.other W23 (Or.inr (sn47 hw)))
  obtain ⟨_, hr, hrun, hended, hE⟩ := Stand.leaveW (s := s) (vm₁ := T4.vm) X23 hS4 (by rw [e23]; exact (Nat.le_trans (Nat.le_trans (Nat.le_trans hk4 (Keep.of_wr W10).1) (Keep.of_wr W17).1) (Keep.of_wr W23).1)) (v := none) (fun _ => rfl)
  refine ⟨_, _, ?_, hrun, hended, _, _, rfl, ?_, hE.1, hE.2.1, hE.2.2.1, hE.2.2.2.mono (by decide) (by decide)⟩
  · show St p e below s₁ m 0 #[rv a1, rv a2, iv (1:Int32), iv (0:Int32)] [] _
    refine aN X0 hx hby d46_0 rfl rfl ?_
    refine st3.trans ?_
    refine aN X3 hx hby d46_4 rfl rfl ?_
    refine st4 _ ?_
    refine st5 _ ?_
    refine XS.pop X5.here hx rfl (hb hby d46_10) rfl rfl ?_
    refine iN X5 hx hby d46_11 rfl ?_
    refine XS.ifNo X5.here hx rfl (hb hby d46_12) rfl ((if0 _ _).trans (feq (by decide : ¬ ((1:Int32) = (0:Int32)))).1) ?_
    refine iN X5 hx hby d46_15 rfl ?_
    refine XS.ifYes X5.here hx rfl (pc0 := 16) (pc' := 29) rfl (hb hby d46_16) rfl ((if0 _ _).trans (teq (rfl : (0:Int32) = (0:Int32))).1) (by decide) (by decide) ?_
    refine aN X5 hx hby d46_29 rfl rfl ?_
    refine aN X5 hx hby d46_30 rfl rfl ?_
    refine st10 _ ?_
    refine aN X10 hx hby d46_34 rfl rfl ?_
    refine iN X10 hx hby d46_35 rfl ?_
    refine st17 _ ?_
    refine aN X17 hx hby d46_39 rfl rfl ?_
    refine iN X17 hx hby d46_40 rfl ?_
    refine st23 _ ?_
    exact X23.returnOut hx Bd.returns (hb hby d46_44) hr
  · show r46_2Q Z a1 a2 h0 n0 _ T23.heap _
    rw [e23]
    exact ⟨rfl, N24, Kp_W23, f26, f27⟩
theorem g1_31 (p1 p2 p3 p4:Int32) (a5 : Addr) (p6 p7:Int32) (a8 a9 a10 a11 a12 : Addr) (p13:Int32)
    (H0 : SG p l e R s m args below meth c T0 locs cells slots Z a0 h0 n0 5 31 3 40) (hc14 : ¬ (p7 = (0:Int32))) (pin15 : (p3 &&& (1:Int32)) = (1:Int32)) (hc16 : p4 = (6:Int32)) :
    ∃ (T' : State) (h' : Heap) (L' : List Loc) (vm' : Vm) (b17 : Addr), Stand p l e R (s.setVm vm') m args below meth c T' L' (cells + 5) (slots + 31) ∧ T'.heap = h' ∧ s.Since vm' h'.size ∧ Fr n0 L' ∧ Keep h0 h' [] ∧ h0.size ≤ b17 ∧ xE26 Z h' b17 ∧ xF27 Z h' b17 (.int (1:Int32)) ∧
      ∀ target, St p e below T' m 246 #[iv p1, iv p2, iv p3, iv p4, rv a5, iv p6, iv p7, rv a8, rv a9, rv a10, rv a11, rv a12, iv p13, rv b17, iv (1:Int32), iv (0:Int32), un, un, un] [] target → St p e below T0 m 180 #[iv p1, iv p2, iv p3, iv p4, rv a5, iv p6, iv p7, rv a8, rv a9, rv a10, rv a11, rv a12, iv p13, un, un, un, un, un, un] [] target := by
  obtain ⟨X0, hx, hZ, hw, hby, hml, hown, e0, O0, N0, rc, rs, rf, rl⟩ := H0
  obtain ⟨_, h17, X17, e17, E17, A17, D17, -, st17⟩ := newO X0 hx hZ hown (ow hw 288 rfl) (ow hw 289 rfl) (ow hw 290 rfl) e0 (g := (mkF m 231 #[iv p1, iv p2, iv p3, iv p4, rv a5, iv p6, iv p7, rv a8, rv a9, rv a10, rv a11, rv a12, iv p13, .val .null, iv (1:Int32), iv (0:Int32), un, un, un] [])) rfl (hb hby at_231) (by omega) (by omega)
  obtain ⟨b17, g17⟩ : ∃ z, z = h0.size := ⟨_, rfl⟩
  rw [← g17] at A17 D17 st17
  have O_E17 : Old Z n0 h17 := O0.ext E17
  have Kp_E17 : Keep h0 h17 [] := (Keep.refl h0 []).ext E17
  obtain ⟨a18, T18, h18, _, X18, e18, E18, hS18, hk18, hZ18, hown18, st18⟩ := ldcS (s := s) (vm0 := s.vm) X17 hx hZ (own := "tabula/engine/ConceptOperandsPinLaw") hown (ow hw 291 rfl) (fun d hd => hw d (strW d hd)) e17 (State.WarmedH.since (State.WarmedH.refl s) 0) (Nat.zero_le _) (g := (mkF m 235 #[iv p1, iv p2, iv p3, iv p4, rv a5, iv p6, iv p7, rv a8, rv a9, rv a10, rv a11, rv a12, iv p13, .val .null, iv (1:Int32), iv (0:Int32), un, un, un] [(.ref b17), (.ref b17)])) rfl (hb hby at_235) (n := 4) (by decide) (by decide) (by omega) (by omega)
  have O_E18 : Old Z n0 h18 := O_E17.ext E18
  have Kp_E18 : Keep h0 h18 [] := Kp_E17.ext E18
  have f19 : xF25 Z h17 b17 .null := D17 (Or.inr (ow hw 306 rfl)) (ty := (.object "java/lang/String")) (by decide)
  have f20 := (f19.ext E18)
  have f21 := (A17.ext E18)
  have g22 : n0 ≤ b17 := Nat.le_trans (Nat.le_trans (Nat.le_of_eq O0.1.symm) O0.2.1) (Nat.le_of_eq g17.symm)
  have f23 : xF27 Z h17 b17 (.int (0:Int32)) := D17 (Or.inr (ow hw 308 rfl)) (ty := .boolean) (by decide)
  have f24 := (f23.ext E18)
  have f25 : xF28 Z h17 b17 (.int (0:Int32)) := D17 (Or.inr (ow hw 310 rfl)) (ty := .boolean) (by decide)
  have f26 := (f25.ext E18)
  obtain ⟨T27, _, _, X27, hSq27, hg27, hQ27, st27⟩ := flS X18 (X18.specialBackS hx (y := y46) rfl hown18 (mo hZ18 hw 292 rfl) (mo hZ18 hw 293 rfl) (mo hZ18 hw 294 rfl) (by decide) (backOfS (W := 1) (r46_2 hw b17 a18 O_E18 f20 f21 g22 f24 f26) hZ18 (ow hw 294 rfl) (ow hw 290 rfl) (by show 2 + 1 ≤ R.frames; omega) (by show 1 + (4 + 11) + 24 ≤ R.locals; omega)) (g := (mkF m 241 #[iv p1, iv p2, iv p3, iv p4, rv a5, iv p6, iv p7, rv a8, rv a9, rv a10, rv a11, rv a12, iv p13, .val .null, iv (1:Int32), iv (0:Int32), un, un, un] [(.int (0:Int32)), (.int (1:Int32)), (.ref a18), (.ref b17), (.ref b17)])) rfl (by rw [hml]; rfl) (Steps.refl _) (a := b17) (argsL := [(.ref a18), (.int (1:Int32)), (.int (0:Int32))]) (rest := [(.ref b17)]) (lenOf pd12 rfl) rfl wf (hb hby at_241) (fun _ _ => ⟨rfl, e18, (by show cells + 3 + 2 ≤ R.cells; omega), (by show slots + 11 + 20 ≤ R.slots; omega)⟩))
  obtain ⟨Y27, hS27, _, _⟩ := rebS (s := s) (vm0 := T18.vm) hS18 (by rw [e18]; exact hk18) X27 hSq27 hg27 hZ18 hown18
  obtain ⟨rfl, N27q, K27, f27_1, f27_2⟩ := hQ27
  have N27 := Fr.app N0 N27q
  have z28 : h0.size ≤ b17 := Nat.le_trans (Keep.refl h0 []).1 (Nat.le_of_eq g17.symm)
  have Kp_K27 : Keep h0 T27.heap [] := Kp_E18.trans K27 (allS (Or.inr z28) all0)
  replace Y27 : Stand p l e R _ m args below meth c T27 _ (cells + 5) (slots + 31) := Y27
  refine ⟨T27, _, _, T27.vm, b17, Y27.more (by omega) (by omega), rfl, own_since hS27 (Nat.le_refl _), N27, Kp_K27, z28, f27_1, f27_2, fun target kt => ?_⟩
  show St p e below T0 m 180 #[iv p1, iv p2, iv p3, iv p4, rv a5, iv p6, iv p7, rv a8, rv a9, rv a10, rv a11, rv a12, iv p13, un, un, un, un, un, un] [] _
  refine XS.aconstNull X0.here hx rfl (hb hby at_180) ?_
  refine XS.astore X0.here hx rfl (hb hby at_181) rfl rfl (l' := #[iv p1, iv p2, iv p3, iv p4, rv a5, iv p6, iv p7, rv a8, rv a9, rv a10, rv a11, rv a12, iv p13, .val .null, un, un, un, un, un]) rfl ?_
  refine iL X0 hx hby at_183 rfl ?_
  refine XS.ifNo X0.here hx rfl (hb hby at_185) rfl ((if0 _ _).trans (feq hc14).1) ?_
  refine iN X0 hx hby at_188 rfl ?_
  refine iC X0 hx hby at_189 ?_
  refine XS.iand X0.here hx rfl (hb hby at_190) rfl ?_
  show St p e below T0 m 191 #[iv p1, iv p2, iv p3, iv p4, rv a5, iv p6, iv p7, rv a8, rv a9, rv a10, rv a11, rv a12, iv p13, .val .null, un, un, un, un, un] [(.int (p3 &&& (1:Int32)))] _
  rw [pin15]
  refine XS.ifNo X0.here hx rfl (hb hby at_191) rfl ((if0 _ _).trans (feq (by decide : ¬ ((1:Int32) = (0:Int32)))).1) ?_
  refine iN X0 hx hby at_194 rfl ?_
  refine XS.bipush X0.here hx rfl (hb hby at_195) ?_
  refine XS.icmpYes X0.here hx rfl (pc0 := 197) (pc' := 206) rfl (hb hby at_197) rfl (teq hc16).1 (by decide) (by decide) ?_
  refine iC X0 hx hby at_206 ?_
  refine XS.goto X0.here hx rfl (pc0 := 207) (pc' := 211) rfl (hb hby at_207) (by decide) (by decide) ?_
  refine XS.istore X0.here hx rfl (hb hby at_211) rfl (l' := #[iv p1, iv p2, iv p3, iv p4, rv a5, iv p6, iv p7, rv a8, rv a9, rv a10, rv a11, rv a12, iv p13, .val .null, iv (1:Int32), un, un, un, un]) rfl ?_
  refine iL X0 hx hby at_213 rfl ?_
  refine XS.ifYes X0.here hx rfl (pc0 := 215) (pc' := 228) rfl (hb hby at_215) rfl ((if0 _ _).trans (feq (by decide : ¬ ((1:Int32) = (0:Int32)))).2) (by decide) (by decide) ?_
  refine iC X0 hx hby at_228 ?_
  refine XS.istore X0.here hx rfl (hb hby at_229) rfl (l' := #[iv p1, iv p2, iv p3, iv p4, rv a5, iv p6, iv p7, rv a8, rv a9, rv a10, rv a11, rv a12, iv p13, .val .null, iv (1:Int32), iv (0:Int32), un, un, un]) rfl ?_
  refine st17 _ ?_
  refine XS.dup X17.here hx rfl (hb hby at_234) rfl rfl ?_
  refine st18 _ ?_
  refine iL X18 hx hby at_237 rfl ?_
  refine iL X18 hx hby at_239 rfl ?_
  refine st27.trans ?_
  refine XS.astore Y27.here hx rfl (hb hby at_244) rfl rfl (l' := #[iv p1, iv p2, iv p3, iv p4, rv a5, iv p6, iv p7, rv a8, rv a9, rv a10, rv a11, rv a12, iv p13, rv b17, iv (1:Int32), iv (0:Int32), un, un, un]) rfl ?_
  exact kt
def r50_2Q (Z : State) (a1 : Addr) (h0 : Heap) (n0 : Nat) : QT := fun v h L => v = some (.int (1:Int32)) ∧ Fr n0 L ∧ h = h0
theorem r50_2 (hw : HW a0 Z) (a1 : Addr) (O0 : Old Z n0 h0) (H2 : xF27 Z h0 a1 (.int (1:Int32))) :
    MF l y50 prog_33_method_8_code 1 (some .boolean) [] (rM 0 0 0 0) Z #[(.ref a1)] h0 (r50_2Q Z a1 h0 n0) := by
  refine own_in (pq pn11) #[rv a1] (fun _ => by first | (simp [entryFrame, mkF, argsToLocals, Value.category]; done) | rfl) ?_
  intro p e s m below meth c s₁ Bd hx hby hml hown hnm hZ e0 X0
  have N0 := Fr.nil n0
  obtain ⟨_, X3, e3, st3⟩ := gF X0 hx hZ hown (ow hw 307 rfl) e0 H2 (g := (mkF m 1 #[rv a1] [(.ref a1)])) rfl rfl (hb hby d50_1)
  refine fin (Q := r50_2Q Z a1 h0 n0) (rm := (rM 0 0 0 0)) Bd X3 e3 (some (.int (1:Int32))) nofun ⟨rfl, N0, rfl⟩ (by decide) (by decide) fun fs hr => ?_
  show St p e below s₁ m 0 #[rv a1] [] _
  refine aN X0 hx hby d50_0 rfl rfl ?_
  refine st3 _ ?_
  exact retN X3 hx (t := .boolean) Bd.returns (by simp) (hb hby d50_4) hr
theorem d5_53 : dk cP16_1 53 (.iconst 1) 1 := by decide +kernel
theorem d5_54 : dk cP16_1 54 (.goto 4) 3 := by decide +kernel
def r5_6Q (Z : State) (a1 : Addr) (p2:Int32) (a3 a4 : Addr) (p5:Int32) (a6 a43 a48 : Addr) (k50 : ClassId) (a51 a57 : Addr) (h0 : Heap) (n0 : Nat) : QT := fun v h L => ∃ (b59_0 : Addr), v = none ∧ Fr n0 L ∧ Keep h0 h [a1] ∧ h0.size ≤ b59_0 ∧ xE5 Z h a1 ∧ xF6 Z h a1 (.ref a3) ∧ xF10 Z h a1 (.ref b59_0) ∧ xF16 Z h a1 (.int (1:Int32)) ∧ xE21 Z h b59_0 ∧ xF20 Z h b59_0 (.ref a51) ∧ xF22 Z h b59_0 (.ref a57)
theorem r5_6 (hw : HW a0 Z) (a1 : Addr) (p2:Int32) (a3 a4 : Addr) (p5:Int32) (a6 a43 a48 : Addr) (k50 : ClassId) (a51 a57 : Addr) (O0 : Old Z n0 h0) (H8 : xF4 Z h0 a1 (.int (0:Int32))) (H9 : xE5 Z h0 a1) (H11 : n0 ≤ a1) (H14 : xF6 Z h0 a1 .null) (H20 : xF7 Z h0 a1 .null) (H26 : xF8 Z h0 a1 .null) (H32 : xF9 Z h0 a1 (.int (0:Int32))) (H38 : xE1 Z h0 a6) (H40 : xF3 Z h0 a6 (.int (1:Int32))) (H41 : a6 ≠ a1) (H44 : xF2 Z h0 a6 (.ref a43)) (H46 : xE19 Z h0 a43) (H49 : Mi Z "[Ljava/lang/Object;" a48) (H52 : Arv Z h0 a43 k50 (.object "java/lang/Object") (10:Int32) [(.ref a51), .null, .null, .null, .null, .null, .null, .null, .null, .null] .null) (H53 : a43 ≠ a1) (H55 : xE5 Z h0 a51) (H58 : Sta Z Z.heap "java/util/ImmutableCollections" "EMPTY" "Ljava/lang/Object;" (.ref a57)) (H60 : xF10 Z h0 a1 .null) (H66 : xE26 Z h0 a4) (H68 : xF27 Z h0 a4 (.int (1:Int32))) (H69 : a4 ≠ a1) (H73 : xF0 Z h0 a6 (.int (1:Int32))) (H87 : xF16 Z h0 a51 (.int (0:Int32))) (H88 : a51 ≠ a1) (H95 : xF16 Z h0 a1 (.int (0:Int32))) :
    MF l y5 cP16_1 10 none [] (rM 8 3 7 101) Z #[(.ref a1), (.int p2), (.ref a3), .null, (.ref a4), (.int p5), (.ref a6)] h0 (r5_6Q Z a1 p2 a3 a4 p5 a6 a43 a48 k50 a51 a57 h0 n0) := by
  refine own_in (pq pn9) #[rv a1, iv p2, rv a3, .val .null, rv a4, iv p5, rv a6, un, un, un] (fun _ => by first | (simp [entryFrame, mkF, argsToLocals, Value.category]; done) | rfl) ?_
  intro p e s m below meth c s₁ Bd hx hby hml hown hnm hZ e0 X0
  have N0 := Fr.nil n0
  obtain ⟨_, X7, e7, st7⟩ := initO X0 hx hZ hown (ow hw 50 rfl) (ow hw 27 rfl) (ow hw 28 rfl) e0 (g := (mkF m 1 #[rv a1, iv p2, rv a3, .val .null, rv a4, iv p5, rv a6, un, un, un] [(.ref a1)])) rfl (by rw [hml]; rfl) rfl (hb hby d5_1) (by decide) (W := 0) wf (by decide)
  obtain ⟨_, h10, X10, e10, W10, st10⟩ := pF X7 hx hZ hown (ow hw 51 rfl) e7 H8 H9 (Or.inr ⟨(ow hw 52 rfl), rfl, hnm⟩) (ow hw 35 rfl) (ty := .int) (by decide) rfl rfl (g := (mkF m 6 #[rv a1, iv p2, rv a3, .val .null, rv a4, iv p5, rv a6, un, un, un] [(.int p2), (.ref a1)])) rfl rfl (hb hby d5_6)
  have O_W10 : Old Z n0 h10 := O0.wr W10 H11
  have Kp_W10 : Keep h0 h10 [a1] := (Keep.refl h0 [a1]).wr W10 (mI 0 rfl)
  have N12 := Fr.snoc X10 N0 H11
  have f15 := (H9.wr W10)
  have f16 := (H14.other W10 (Or.inr (sn11 hw)))
  obtain ⟨_, h17, X17, e17, W17, st17⟩ := pF X10 hx hZ hown (ow hw 53 rfl) e10 f16 f15 (Or.inr ⟨(ow hw 54 rfl), rfl, hnm⟩) (ow hw 35 rfl) (ty := (.object "tabula/engine/Concept$Kind")) (by decide) rfl rfl (g := (mkF m 11 #[rv a1, iv p2, rv a3, .val .null, rv a4, iv p5, rv a6, un, un, un] [(.ref a3), (.ref a1)])) rfl rfl (hb hby d5_11)
  have O_W17 : Old Z n0 h17 := O_W10.wr W17 H11
  have Kp_W17 : Keep h0 h17 [a1] := Kp_W10.wr W17 (mI 0 rfl)
  have N18 := Fr.snoc X17 N12 H11
  have f19 := f16.same W17
  have f21 := (f15.wr W17)
  have f22 := ((H20.other W10 (Or.inr (sn12 hw))).other W17 (Or.inr (sn13 hw)))
  obtain ⟨_, h23, X23, e23, W23, st23⟩ := pF X17 hx hZ hown (ow hw 55 rfl) e17 f22 f21 (Or.inr ⟨(ow hw 56 rfl), rfl, hnm⟩) (ow hw 35 rfl) (ty := (.object "java/lang/String")) (by decide) rfl rfl (g := (mkF m 16 #[rv a1, iv p2, rv a3, .val .null, rv a4, iv p5, rv a6, un, un, un] [.null, (.ref a1)])) rfl rfl (hb hby d5_16)
  have O_W23 : Old Z n0 h23 := O_W17.wr W23 H11
  have Kp_W23 : Keep h0 h23 [a1] := Kp_W17.wr W23 (mI 0 rfl)
  have N24 := Fr.snoc X23 N18 H11
  have f27 := (f21.wr W23)
  have f28 := (((H26.other W10 (Or.inr (sn14 hw))).other W17 (Or.inr (sn15 hw))).other W23 (Or.inr (sn16 hw)))
  obtain ⟨_, h29, X29, e29, W29, st29⟩ := pF X23 hx hZ hown (ow hw 57 rfl) e23 f28 f27 (Or.inr ⟨(ow hw 58 rfl), rfl, hnm⟩) (ow hw 35 rfl) (ty := (.object "tabula/engine/Role")) (by decide) rfl rfl (g := (mkF m 22 #[rv a1, iv p2, rv a3, .val .null, rv a4, iv p5, rv a6, un, un, un] [(.ref a4), (.ref a1)])) rfl rfl (hb hby d5_22)
  have O_W29 : Old Z n0 h29 := O_W23.wr W29 H11
  have Kp_W29 : Keep h0 h29 [a1] := Kp_W23.wr W29 (mI 0 rfl)
  have N30 := Fr.snoc X29 N24 H11
  have f33 := (f27.wr W29)
  have f34 := ((((H32.other W10 (Or.inr (sn17 hw))).other W17 (Or.inr (sn18 hw))).other W23 (Or.inr (sn19 hw))).other W29 (Or.inr (sn20 hw)))
  obtain ⟨_, h35, X35, e35, W35, st35⟩ := pF X29 hx hZ hown (ow hw 59 rfl) e29 f34 f33 (Or.inr ⟨(ow hw 60 rfl), rfl, hnm⟩) (ow hw 35 rfl) (ty := .int) (by decide) rfl rfl (g := (mkF m 28 #[rv a1, iv p2, rv a3, .val .null, rv a4, iv p5, rv a6, un, un, un] [(.int p5), (.ref a1)])) rfl rfl (hb hby d5_28)
  have O_W35 : Old Z n0 h35 := O_W29.wr W35 H11
  have Kp_W35 : Keep h0 h35 [a1] := Kp_W29.wr W35 (mI 0 rfl)
  have N36 := Fr.snoc X35 N30 H11
  have f39 := (((((H38.wr W10).wr W17).wr W23).wr W29).wr W35)
  have f42 := (((((H40.other W10 (Or.inl H41)).other W17 (Or.inl H41)).other W23 (Or.inl H41)).other W29 (Or.inl H41)).other W35 (Or.inl H41))
  have f45 := (((((H44.other W10 (Or.inl H41)).other W17 (Or.inl H41)).other W23 (Or.inl H41)).other W29 (Or.inl H41)).other W35 (Or.inl H41))
  have f47 := (((((H46.wr W10).wr W17).wr W23).wr W29).wr W35)
  have f54 := (((((H52.other W10 H53).other W17 H53).other W23 H53).other W29 H53).other W35 H53)
  have f56 := (((((H55.wr W10).wr W17).wr W23).wr W29).wr W35)
  obtain ⟨T59, _, _, X59, hQ59, st59⟩ := cS X35 hx hZ hw hown (y := y6) 61 rfl 62 rfl 63 rfl 64 rfl (by decide) (W := 1) (r6_4 hw a6 a43 a48 k50 a51 a57 O_W35 f39 f42 f45 f47 H49 f54 f56 H58) (by decide) (by decide) e35 (g := (mkF m 34 #[rv a1, iv p2, rv a3, .val .null, rv a4, iv p5, rv a6, un, un, un] [(.ref a6), (.ref a1)])) rfl (by rw [hml]; rfl) (argsL := [(.ref a6)]) (rest := [(.ref a1)]) (lenOf pd5 rfl) rfl wf (hb hby d5_34) rfl (by decide) (by decide)
  obtain ⟨b59_0, rfl, N59q, K59, lo59_1, f59_2, f59_3, f59_4⟩ := hQ59
  have N59 := Fr.app N36 N59q
  have O_K59 : Old Z n0 T59.heap := O_W35.keep K59 all0
  have Kp_K59 : Keep h0 T59.heap [a1] := Kp_W35.trans K59 all0
  have f61 := ((f33.wr W35).keep K59)
  have f62 := ((((((H60.other W10 (Or.inr (sn21 hw))).other W17 (Or.inr (sn22 hw))).other W23 (Or.inr (sn23 hw))).other W29 (Or.inr (sn24 hw))).other W35 (Or.inr (sn25 hw))).keep K59 nin0)
  obtain ⟨_, h63, X63, e63, W63, st63⟩ := pF X59 hx hZ hown (ow hw 90 rfl) rfl f62 f61 (Or.inr ⟨(ow hw 91 rfl), rfl, hnm⟩) (ow hw 35 rfl) (ty := (.object "java/util/List")) (by decide) rfl rfl (g := (mkF m 37 #[rv a1, iv p2, rv a3, .val .null, rv a4, iv p5, rv a6, un, un, un] [(.ref b59_0), (.ref a1)])) rfl rfl (hb hby d5_37)
  have O_W63 : Old Z n0 h63 := O_K59.wr W63 H11
  have Kp_W63 : Keep h0 h63 [a1] := Kp_K59.wr W63 (mI 0 rfl)
  have N64 := Fr.snoc X63 N59 H11
  have f65 := f62.same W63
  have f67 := (((((((H66.wr W10).wr W17).wr W23).wr W29).wr W35).keep K59).wr W63)
  have f70 := (((((((H68.other W10 (Or.inl H69)).other W17 (Or.inl H69)).other W23 (Or.inl H69)).other W29 (Or.inl H69)).other W35 (Or.inl H69)).keep K59 nin0).other W63 (Or.inl H69))
  obtain ⟨T71, _, _, X71, hQ71, st71⟩ := cV X63 hx hZ hw hown (y := y50) 314 rfl 315 rfl 317 rfl 316 rfl 318 rfl 290 rfl (by decide) (W := 0) (r50_2 hw a4 O_W63 f70) (by decide) (by decide) f67 e63 (g := (mkF m 47 #[rv a1, iv p2, rv a3, .val .null, rv a4, iv p5, rv a6, un, un, un] [(.ref a4)])) rfl (by rw [hml]; rfl) (argsL := []) (rest := []) (lenOf pd23 rfl) rfl wf (hb hby d5_47) rfl (by decide) (by decide)
  obtain ⟨rfl, N71q, e71⟩ := hQ71
  have N71 := Fr.app N64 N71q
  have f72 := ((f39.keep K59).wr W63)
  have f74 := (((((((H73.other W10 (Or.inl H41)).other W17 (Or.inl H41)).other W23 (Or.inl H41)).other W29 (Or.inl H41)).other W35 (Or.inl H41)).keep K59 nin0).other W63 (Or.inl H41))
  obtain ⟨T75, _, _, X75, hQ75, st75⟩ := cI X71 hx hZ hw hown (x := y13) (y := y11) 92 rfl 93 rfl 94 rfl 95 rfl 96 rfl 97 rfl 98 rfl 99 rfl 100 rfl 10 rfl (by decide) (W := 0) (r11_4 hw a6 O_W63 f74 f72) (by decide) (by decide) f72 e71 (g := (mkF m 62 #[rv a1, iv p2, rv a3, .val .null, rv a4, iv p5, rv a6, iv (1:Int32), un, un] [(.ref a6)])) rfl (by rw [hml]; rfl) (argsL := []) (rest := []) (lenOf pd13 rfl) rfl wf (hb hby d5_62) rfl (by decide) (by decide)
  obtain ⟨b75_0, rfl, N75q, K75, lo75_1, f75_2, f75_3, f75_4, f75_5, f75_6⟩ := hQ75
  have N75 := Fr.app N71 N75q
  have O_K75 : Old Z n0 T75.heap := O_W63.keep K75 all0
  have Kp_K75 : Keep h0 T75.heap [a1] := Kp_W63.trans K75 all0
  have f76 := (((f42.keep K59 nin0).other W63 (Or.inl H41)).keep K75 nin0)
  obtain ⟨_, _, _, X77, hQ77, st77⟩ := cI X75 hx hZ hw hown (x := y15) (y := y14) 117 rfl 118 rfl 119 rfl 120 rfl 121 rfl 122 rfl 123 rfl 124 rfl 125 rfl 103 rfl (by decide) (W := 0) (r14_9 hw b75_0 a6 O_K75 f75_6 f75_3 f76) (by decide) (by decide) f75_2 rfl (g := (mkF m 71 #[rv a1, iv p2, rv a3, .val .null, rv a4, iv p5, rv a6, iv (1:Int32), rv b75_0, un] [(.ref b75_0)])) rfl (by rw [hml]; rfl) (argsL := []) (rest := []) (lenOf pd23 rfl) rfl wf (hb hby d5_71) rfl (by decide) (by decide)
  obtain ⟨rfl, N77q, e77⟩ := hQ77
  have N77 := Fr.app N75 N77q
  have f78 := (f74.keep K75 nin0)
  have f79 := (((f45.keep K59 nin0).other W63 (Or.inl H41)).keep K75 nin0)
  have f80 := (((f54.keep K59 nin0).other W63 H53).keep K75 nin0)
  have g81 : n0 ≤ b75_0 := Nat.le_trans (Nat.le_trans (Nat.le_of_eq O_W63.1.symm) O_W63.2.1) lo75_1
  have ne82 : a43 ≠ b75_0 := Nat.ne_of_lt (Nat.lt_of_lt_of_le ((f47.keep K59).wr W63).lt lo75_1)
  obtain ⟨T83, _, _, X83, hQ83, st83⟩ := cI X77 hx hZ hw hown (x := y37) (y := y35) 251 rfl 252 rfl 253 rfl 254 rfl 255 rfl 256 rfl 257 rfl 124 rfl 258 rfl 103 rfl (by decide) (W := 0) (r35_6 hw b75_0 a6 a43 k50 a51 O_K75 f75_2 f75_3 f78 f75_5 f75_6 f76 f79 f80 g81 f75_4 ne82) (by decide) (by decide) f75_2 e77 (g := (mkF m 81 #[rv a1, iv p2, rv a3, .val .null, rv a4, iv p5, rv a6, iv (1:Int32), rv b75_0, un] [(.ref b75_0)])) rfl (by rw [hml]; rfl) (argsL := []) (rest := []) (lenOf pd19 rfl) rfl wf (hb hby d5_81) rfl (by decide) (by decide)
  obtain ⟨rfl, N83q, K83, f83_1, f83_2, _, f83_4, _⟩ := hQ83
  have N83 := Fr.app N77 N83q
  have z84 : h0.size ≤ b75_0 := Nat.le_trans Kp_W63.1 lo75_1
  have O_K83 : Old Z n0 T83.heap := O_K75.keep K83 (allS g81 all0)
  have Kp_K83 : Keep h0 T83.heap [a1] := Kp_K75.trans K83 (allS (Or.inr z84) all0)
  have f86 := ((((f56.keep K59).wr W63).keep K75).keep K83)
  obtain ⟨_, X85, e85, st85⟩ := castY X83 hx hZ hown (ow hw 265 rfl) rfl (Ins.self f86) (g := (mkF m 86 #[rv a1, iv p2, rv a3, .val .null, rv a4, iv p5, rv a6, iv (1:Int32), rv b75_0, un] [(.ref a51)])) rfl rfl (hb hby d5_86)
  have ne89 : a51 ≠ b75_0 := Nat.ne_of_lt (Nat.lt_of_lt_of_le (((((((H55.wr W10).wr W17).wr W23).wr W29).wr W35).keep K59).wr W63).lt lo75_1)
  have f90 := (((((((((H87.other W10 (Or.inl H88)).other W17 (Or.inl H88)).other W23 (Or.inl H88)).other W29 (Or.inl H88)).other W35 (Or.inl H88)).keep K59 nin0).other W63 (Or.inl H88)).keep K75 nin0).keep K83 (ninS ne89 nin0))
  obtain ⟨_, X91, e91, st91⟩ := gF X85 hx hZ hown (ow hw 129 rfl) e85 f90 (g := (mkF m 95 #[rv a1, iv p2, rv a3, .val .null, rv a4, iv p5, rv a6, iv (1:Int32), rv b75_0, rv a51] [(.ref a51), (.int (1:Int32))])) rfl rfl (hb hby d5_95)
  have ne92 : a6 ≠ b75_0 := Nat.ne_of_lt (Nat.lt_of_lt_of_le f72.lt lo75_1)
  have f93 := (f76.keep K83 (ninS ne92 nin0))
  obtain ⟨T94, _, _, X94, hQ94, st94⟩ := cI X91 hx hZ hw hown (x := y15) (y := y14) 117 rfl 118 rfl 119 rfl 120 rfl 121 rfl 122 rfl 123 rfl 124 rfl 125 rfl 103 rfl (by decide) (W := 0) (r14_10 hw b75_0 a6 O_K83 f83_4 f83_2 f93) (by decide) (by decide) f83_1 e91 (g := (mkF m 71 #[rv a1, iv p2, rv a3, .val .null, rv a4, iv p5, rv a6, iv (1:Int32), rv b75_0, rv a51] [(.ref b75_0)])) rfl (by rw [hml]; rfl) (argsL := []) (rest := []) (lenOf pd23 rfl) rfl wf (hb hby d5_71) rfl (by decide) (by decide)
  obtain ⟨rfl, N94q, e94⟩ := hQ94
  have N94 := Fr.app N83 N94q
  have f96 := (((f61.wr W63).keep K75).keep K83)
  have ne97 : a1 ≠ b75_0 := Nat.ne_of_lt (Nat.lt_of_lt_of_le (((((((H9.wr W10).wr W17).wr W23).wr W29).wr W35).keep K59).wr W63).lt lo75_1)
  have f98 := (((((((((H95.other W10 (Or.inr (sn26 hw))).other W17 (Or.inr (sn27 hw))).other W23 (Or.inr (sn28 hw))).other W29 (Or.inr (sn29 hw))).other W35 (Or.inr (sn30 hw))).keep K59 nin0).other W63 (Or.inr (sn31 hw))).keep K75 nin0).keep K83 (ninS ne97 nin0))
  obtain ⟨_, h99, X99, e99, W99, st99⟩ := pF X94 hx hZ hown (ow hw 129 rfl) e94 f98 f96 (Or.inr ⟨(ow hw 130 rfl), rfl, hnm⟩) (ow hw 35 rfl) (ty := .boolean) (by decide) rfl rfl (g := (mkF m 107 #[rv a1, iv p2, rv a3, .val .null, rv a4, iv p5, rv a6, iv (1:Int32), rv b75_0, rv a51] [(.int (1:Int32)), (.ref a1)])) rfl rfl (hb hby d5_107)
  have Kp_W99 : Keep h0 h99 [a1] := Kp_K83.wr W99 (mI 0 rfl)
  have N100 := Fr.snoc X99 N94 H11
  have f101 := f98.same W99
  have z102 : h0.size ≤ b59_0 := Nat.le_trans Kp_W35.1 lo59_1
  have f103 := (f96.wr W99)
  have f104 := ((((((((f19.other W23 (Or.inr (sn32 hw))).other W29 (Or.inr (sn33 hw))).other W35 (Or.inr (sn34 hw))).keep K59 nin0).other W63 (Or.inr (sn35 hw))).keep K75 nin0).keep K83 (ninS ne97 nin0)).other W99 (Or.inr (sn36 hw)))
  have f105 := (((f65.keep K75 nin0).keep K83 (ninS ne97 nin0)).other W99 (Or.inr (sn37 hw)))
  have f106 := ((((f59_2.wr W63).keep K75).keep K83).wr W99)
  have ne107 : a1 ≠ b59_0 := Nat.ne_of_lt (Nat.lt_of_lt_of_le (((((H9.wr W10).wr W17).wr W23).wr W29).wr W35).lt lo59_1)
  have ne108 : b59_0 ≠ b75_0 := Nat.ne_of_lt (Nat.lt_of_lt_of_le (f59_2.wr W63).lt lo75_1)
  have f109 := ((((f59_3.other W63 (Or.inl (Ne.symm ne107))).keep K75 nin0).keep K83 (ninS ne108 nin0)).other W99 (Or.inl (Ne.symm ne107)))
  have f110 := ((((f59_4.other W63 (Or.inl (Ne.symm ne107))).keep K75 nin0).keep K83 (ninS ne108 nin0)).other W99 (Or.inl (Ne.symm ne107)))
  refine fin (Q := r5_6Q Z a1 p2 a3 a4 p5 a6 a43 a48 k50 a51 a57 h0 n0) (rm := (rM 8 3 7 101)) Bd X99 e99 (none) (fun _ => rfl) ⟨b59_0, rfl, N100, Kp_W99, z102, f103, f104, f105, f101, f106, f109, f110⟩ (by decide) (by decide) fun fs hr => ?_
  show St p e below s₁ m 0 #[rv a1, iv p2, rv a3, .val .null, rv a4, iv p5, rv a6, un, un, un] [] _
  refine aN X0 hx hby d5_0 rfl rfl ?_
  refine st7 _ ?_
  refine aN X7 hx hby d5_4 rfl rfl ?_
  refine iN X7 hx hby d5_5 rfl ?_
  refine st10 _ ?_
  refine aN X10 hx hby d5_9 rfl rfl ?_
  refine aN X10 hx hby d5_10 rfl rfl ?_
  refine st17 _ ?_
  refine aN X17 hx hby d5_14 rfl rfl ?_
  refine aN X17 hx hby d5_15 rfl rfl ?_
  refine st23 _ ?_
  refine aN X23 hx hby d5_19 rfl rfl ?_
  refine aL X23 hx hby d5_20 rfl rfl ?_
  refine st29 _ ?_
  refine aN X29 hx hby d5_25 rfl rfl ?_
  refine iL X29 hx hby d5_26 rfl ?_
  refine st35 _ ?_
  refine aN X35 hx hby d5_31 rfl rfl ?_
  refine aL X35 hx hby d5_32 rfl rfl ?_
  refine st59 _ ?_
  refine st63 _ ?_
  refine aL X63 hx hby d5_40 rfl rfl ?_
  refine XS.ifnullNo X63.here hx rfl (hb hby d5_42) rfl ?_
  refine aL X63 hx hby d5_45 rfl rfl ?_
  refine st71.trans ?_
  show St p e below T71 m 50 #[rv a1, iv p2, rv a3, .val .null, rv a4, iv p5, rv a6, un, un, un] [(.int (1:Int32))] _
  refine XS.ifNo X71.here hx rfl (hb hby d5_50) rfl ((if0 _ _).trans (feq (by decide : ¬ ((1:Int32) = (0:Int32)))).1) ?_
  refine iC X71 hx hby d5_53 ?_
  refine XS.goto X71.here hx rfl (pc0 := 54) (pc' := 58) rfl (hb hby d5_54) (by decide) (by decide) ?_
  refine XS.istore X71.here hx rfl (hb hby d5_58) rfl (l' := #[rv a1, iv p2, rv a3, .val .null, rv a4, iv p5, rv a6, iv (1:Int32), un, un]) rfl ?_
  refine aL X71 hx hby d5_60 rfl rfl ?_
  refine st75.trans ?_
  refine XS.astore X75.here hx rfl (hb hby d5_67) rfl rfl (l' := #[rv a1, iv p2, rv a3, .val .null, rv a4, iv p5, rv a6, iv (1:Int32), rv b75_0, un]) rfl ?_
  refine aL X75 hx hby d5_69 rfl rfl ?_
  refine st77.trans ?_
  refine XS.ifNo X77.here hx rfl (hb hby d5_76) rfl ((if0 _ _).trans (feq (by decide : ¬ ((1:Int32) = (0:Int32)))).1) ?_
  refine aL X77 hx hby d5_79 rfl rfl ?_
  refine st83.trans ?_
  refine st85 _ ?_
  refine XS.astore X85.here hx rfl (hb hby d5_89) rfl rfl (l' := #[rv a1, iv p2, rv a3, .val .null, rv a4, iv p5, rv a6, iv (1:Int32), rv b75_0, rv a51]) rfl ?_
  refine iL X85 hx hby d5_91 rfl ?_
  refine aL X85 hx hby d5_93 rfl rfl ?_
  refine st91 _ ?_
  refine XS.ior X91.here hx rfl (hb hby d5_98) rfl ?_
  refine XS.istore X91.here hx rfl (hb hby d5_99) rfl (l' := #[rv a1, iv p2, rv a3, .val .null, rv a4, iv p5, rv a6, iv (1:Int32), rv b75_0, rv a51]) rfl ?_
  refine XS.goto X91.here hx rfl (pc0 := 101) (pc' := 69) rfl (hb hby d5_101) (by decide) (by decide) ?_
  refine aL X91 hx hby d5_69 rfl rfl ?_
  refine st94.trans ?_
  refine XS.ifYes X94.here hx rfl (pc0 := 76) (pc' := 104) rfl (hb hby d5_76) rfl ((if0 _ _).trans (teq (rfl : (0:Int32) = (0:Int32))).1) (by decide) (by decide) ?_
  refine aN X94 hx hby d5_104 rfl rfl ?_
  refine iL X94 hx hby d5_105 rfl ?_
  show St p e below T94 m 107 #[rv a1, iv p2, rv a3, .val .null, rv a4, iv p5, rv a6, iv (1:Int32), rv b75_0, rv a51] [(.int (1:Int32)), (.ref a1)] _
  refine st99 _ ?_
  exact X99.returnOut hx Bd.returns (hb hby d5_110) hr
theorem g1_32 (p1 p2 p3 p4:Int32) (a5 : Addr) (p6 p7:Int32) (a8 a9 a10 a11 a12 : Addr) (p13:Int32) (a14 : Addr) (p15:Int32) (a28 a33 : Addr) (k35 : ClassId) (a36 a42 a58 a61 a64 : Addr)
    (H0 : SG p l e R s m args below meth c T0 locs cells slots Z a0 h0 n0 4 15 9 123) (H23 : xE1 Z h0 a12) (H25 : xF3 Z h0 a12 (.int (1:Int32))) (H29 : xF2 Z h0 a12 (.ref a28)) (H31 : xE19 Z h0 a28) (H34 : Mi Z "[Ljava/lang/Object;" a33) (H37 : Arv Z h0 a28 k35 (.object "java/lang/Object") (10:Int32) [(.ref a36), .null, .null, .null, .null, .null, .null, .null, .null, .null] .null) (H40 : xE5 Z h0 a36) (H43 : Sta Z Z.heap "java/util/ImmutableCollections" "EMPTY" "Ljava/lang/Object;" (.ref a42)) (H45 : xE26 Z h0 a14) (H47 : xF27 Z h0 a14 (.int (1:Int32))) (H50 : xF0 Z h0 a12 (.int (1:Int32))) (H52 : xF16 Z h0 a36 (.int (0:Int32))) (H59 : Sta Z Z.heap "tabula/engine/Concept$Kind" "AND" "Ltabula/engine/Concept$Kind;" (.ref a58)) (H60 : a5 ≠ a58) (H62 : Sta Z Z.heap "tabula/engine/Concept$Kind" "OR" "Ltabula/engine/Concept$Kind;" (.ref a61)) (H63 : a5 ≠ a61) (H65 : Sta Z Z.heap "java/util/ImmutableCollections" "EMPTY_LIST" "Ljava/util/ImmutableCollections$ListN;" (.ref a64)) :
    ∃ (T' : State) (h' : Heap) (L' : List Loc) (b16 b56_0 : Addr), Stand p l e R s m args below meth c T' L' (cells + 4) (slots + 15) ∧ T'.heap = h' ∧ Fr n0 L' ∧ Keep h0 h' [] ∧ h0.size ≤ b16 ∧ h0.size ≤ b56_0 ∧ b16 ≠ b56_0 ∧ xE5 Z h' b16 ∧ xF6 Z h' b16 (.ref a5) ∧ xF10 Z h' b16 (.ref b56_0) ∧ xF16 Z h' b16 (.int (1:Int32)) ∧ xE21 Z h' b56_0 ∧ xF20 Z h' b56_0 (.ref a36) ∧ xF22 Z h' b56_0 (.ref a42) ∧
      ∀ target, St p e below T' m 298 #[iv p1, iv p2, iv p3, iv p4, rv a5, iv p6, iv p7, rv a8, rv a9, rv a10, rv a11, rv a12, iv p13, rv a14, .val .null, iv p15, rv b16, rv a64, un] [] target → St p e below T0 m 271 #[iv p1, iv p2, iv p3, iv p4, rv a5, iv p6, iv p7, rv a8, rv a9, rv a10, rv a11, rv a12, iv p13, rv a14, .val .null, iv p15, un, un, un] [] target := by
  obtain ⟨X0, hx, hZ, hw, hby, hml, hown, e0, O0, N0, rc, rs, rf, rl⟩ := H0
  obtain ⟨_, h16, X16, e16, E16, A16, D16, -, st16⟩ := newO X0 hx hZ hown (ow hw 34 rfl) (ow hw 35 rfl) (ow hw 36 rfl) e0 (g := (mkF m 271 #[iv p1, iv p2, iv p3, iv p4, rv a5, iv p6, iv p7, rv a8, rv a9, rv a10, rv a11, rv a12, iv p13, rv a14, .val .null, iv p15, un, un, un] [])) rfl (hb hby at_271) (by omega) (by omega)
  obtain ⟨b16, g16⟩ : ∃ z, z = h0.size := ⟨_, rfl⟩
  rw [← g16] at A16 D16 st16
  have O_E16 : Old Z n0 h16 := O0.ext E16
  have Kp_E16 : Keep h0 h16 [] := (Keep.refl h0 []).ext E16
  have f17 : xF4 Z h16 b16 (.int (0:Int32)) := D16 (Or.inr (ow hw 52 rfl)) (ty := .int) (by decide)
  have g18 : n0 ≤ b16 := Nat.le_trans (Nat.le_trans (Nat.le_of_eq O0.1.symm) O0.2.1) (Nat.le_of_eq g16.symm)
  have f19 : xF6 Z h16 b16 .null := D16 (Or.inr (ow hw 54 rfl)) (ty := (.object "tabula/engine/Concept$Kind")) (by decide)
  have f20 : xF7 Z h16 b16 .null := D16 (Or.inr (ow hw 56 rfl)) (ty := (.object "java/lang/String")) (by decide)
  have f21 : xF8 Z h16 b16 .null := D16 (Or.inr (ow hw 58 rfl)) (ty := (.object "tabula/engine/Role")) (by decide)
  have f22 : xF9 Z h16 b16 (.int (0:Int32)) := D16 (Or.inr (ow hw 60 rfl)) (ty := .int) (by decide)
  have f24 := (H23.ext E16)
  have f26 := (H25.ext E16)
  have ne27 : a12 ≠ b16 := Nat.ne_of_lt (Nat.lt_of_lt_of_le H23.lt (Nat.le_of_eq g16.symm))
  have f30 := (H29.ext E16)
  have f32 := (H31.ext E16)
  have f38 := (H37.ext E16)
  have ne39 : a28 ≠ b16 := Nat.ne_of_lt (Nat.lt_of_lt_of_le H31.lt (Nat.le_of_eq g16.symm))
  have f41 := (H40.ext E16)
  have f44 : xF10 Z h16 b16 .null := D16 (Or.inr (ow hw 91 rfl)) (ty := (.object "java/util/List")) (by decide)
  have f46 := (H45.ext E16)
  have f48 := (H47.ext E16)
  have ne49 : a14 ≠ b16 := Nat.ne_of_lt (Nat.lt_of_lt_of_le H45.lt (Nat.le_of_eq g16.symm))
  have f51 := (H50.ext E16)
  have f53 := (H52.ext E16)
  have ne54 : a36 ≠ b16 := Nat.ne_of_lt (Nat.lt_of_lt_of_le H40.lt (Nat.le_of_eq g16.symm))
  have f55 : xF16 Z h16 b16 (.int (0:Int32)) := D16 (Or.inr (ow hw 130 rfl)) (ty := .boolean) (by decide)
  obtain ⟨T56, _, _, X56, hQ56, st56⟩ := cP X16 hx hZ hw hown (y := y5) rfl 47 rfl 48 rfl 49 rfl 36 rfl (by decide) (W := 1) (r5_6 hw b16 (3:Int32) a5 a14 p15 a12 a28 a33 k35 a36 a42 O_E16 f17 A16 g18 f19 f20 f21 f22 f24 f26 ne27 f30 f32 H34 f38 ne39 f41 H43 f44 f46 f48 ne49 f51 f53 ne54 f55) (by show 8 + 1 ≤ R.frames; omega) (by show 1 + (10 + 11) + 101 ≤ R.locals; omega) e16 (g := (mkF m 286 #[iv p1, iv p2, iv p3, iv p4, rv a5, iv p6, iv p7, rv a8, rv a9, rv a10, rv a11, rv a12, iv p13, rv a14, .val .null, iv p15, un, un, un] [(.ref a12), (.int p15), (.ref a14), .null, (.ref a5), (.int (3:Int32)), (.ref b16), (.ref b16)])) rfl (by rw [hml]; rfl) (argsL := [(.int (3:Int32)), (.ref a5), .null, (.ref a14), (.int p15), (.ref a12)]) (rest := [(.ref b16)]) (lenOf pd0 rfl) rfl wf (hb hby at_286) rfl (by show cells + 1 + 3 ≤ R.cells; omega) (by show slots + 8 + 7 ≤ R.slots; omega)
  obtain ⟨b56_0, rfl, N56q, K56, lo56_1, f56_2, f56_3, f56_4, f56_5, f56_6, f56_7, f56_8⟩ := hQ56
  have N56 := Fr.app N0 N56q
  have z57 : h0.size ≤ b16 := Nat.le_trans (Keep.refl h0 []).1 (Nat.le_of_eq g16.symm)
  have O_K56 : Old Z n0 T56.heap := O_E16.keep K56 (allS g18 all0)
  have Kp_K56 : Keep h0 T56.heap [] := Kp_E16.trans K56 (allS (Or.inr z57) all0)
  replace X56 : Stand p l e R _ m args below meth c T56 _ (cells + 4) (slots + 15) := X56
  obtain ⟨T66, _, _, X66, hQ66, st66⟩ := cV X56 hx hZ hw hown (y := y17) 136 rfl 137 rfl 139 rfl 138 rfl 140 rfl 36 rfl (by decide) (W := 0) (r17_1 hw b16 a5 a58 a61 a64 O_K56 f56_3 H59 H60 H62 H63 H65) (by show 1 + 1 ≤ R.frames; omega) (by show 0 + (1 + 11) + 11 ≤ R.locals; omega) f56_2 rfl (g := (mkF m 293 #[iv p1, iv p2, iv p3, iv p4, rv a5, iv p6, iv p7, rv a8, rv a9, rv a10, rv a11, rv a12, iv p13, rv a14, .val .null, iv p15, rv b16, un, un] [(.ref b16)])) rfl (by rw [hml]; rfl) (argsL := []) (rest := []) (lenOf pd20 rfl) rfl wf (hb hby at_293) rfl (by show cells + 4 + 0 ≤ R.cells; omega) (by show slots + 15 + 0 ≤ R.slots; omega)
  obtain ⟨rfl, N66q, e66⟩ := hQ66
  have N66 := Fr.app N56 N66q
  replace X66 : Stand p l e R _ m args below meth c T66 _ (cells + 4) (slots + 15) := X66
  have z67 : h0.size ≤ b56_0 := Nat.le_trans Kp_E16.1 lo56_1
  have ne68 : b16 ≠ b56_0 := Nat.ne_of_lt (Nat.lt_of_lt_of_le A16.lt lo56_1)
  refine ⟨T66, _, _, b16, b56_0, X66.more (by omega) (by omega), e66, N66, Kp_K56, z57, z67, ne68, f56_2, f56_3, f56_4, f56_5, f56_6, f56_7, f56_8, fun target kt => ?_⟩
  show St p e below T0 m 271 #[iv p1, iv p2, iv p3, iv p4, rv a5, iv p6, iv p7, rv a8, rv a9, rv a10, rv a11, rv a12, iv p13, rv a14, .val .null, iv p15, un, un, un] [] _
  refine st16 _ ?_
  refine XS.dup X16.here hx rfl (hb hby at_274) rfl rfl ?_
  refine iC X16 hx hby at_275 ?_
  refine aL X16 hx hby at_276 rfl rfl ?_
  refine aL X16 hx hby at_278 rfl rfl ?_
  refine aL X16 hx hby at_280 rfl rfl ?_
  refine iL X16 hx hby at_282 rfl ?_
  refine aL X16 hx hby at_284 rfl rfl ?_
  refine st56.trans ?_
  refine XS.astore X56.here hx rfl (hb hby at_289) rfl rfl (l' := #[iv p1, iv p2, iv p3, iv p4, rv a5, iv p6, iv p7, rv a8, rv a9, rv a10, rv a11, rv a12, iv p13, rv a14, .val .null, iv p15, rv b16, un, un]) rfl ?_
  refine aL X56 hx hby at_291 rfl rfl ?_
  refine st66.trans ?_
  refine XS.astore X66.here hx rfl (hb hby at_296) rfl rfl (l' := #[iv p1, iv p2, iv p3, iv p4, rv a5, iv p6, iv p7, rv a8, rv a9, rv a10, rv a11, rv a12, iv p13, rv a14, .val .null, iv p15, rv b16, rv a64, un]) rfl ?_
  exact kt
theorem law_10 (l : Launch) (Z : State) (a0 : Array Value) (hw : HW a0 Z) (ws : List Jvm.Cond) (w0 w1 w2 w3 w4 w5 w6 w7 w8 w9 w10 w11 w12 w13 w14 : Addr) (k_w10 k_w11 k_w13 : ClassId) (wMir : Addr) (B : Base Z w0 w1 w2 w3 w4 w5 w6 w7 w8 w9 w10 w11 w12 w13 w14 k_w10 k_w11 k_w13 wMir) (i0 i1 i2:Int32) (h0 : Heap) (n0 : Nat) (O0 : Old Z n0 h0) (pin0 : ((i0 &&& (2147483647:Int32)) % (10:Int32)) = (6:Int32)) (pin2 : (i2 &&& (1:Int32)) = (1:Int32)) :
    MetFree l x (head1 (Jvm.Cond.code x code maxLocals ret :: ws) room_1) (fun a U => a = #[(.int i0), (.int i1), (.int i2)] ∧ Z.Warmed39 U.vm ∧ U.heap = h0) (fun _ _ _ _ _ => True) (fun _ U o U' => ∃ v L, o = .returned v ∧ lawQ n0 v U'.heap L ∧ ReturnedEndW U o U' L room_1.cells room_1.slots) := by
  refine own_in (pq pn4) #[iv i0, iv i1, iv i2, un, un, un, un, un, un, un, un, un, un, un, un, un, un, un, un] (fun _ => by first | (simp [entryFrame, mkF, argsToLocals, Value.category, maxLocals]; done) | rfl) ?_
  intro p e s m below meth c s₁ Bd hx hby hml hown hnm hZ e0 X0
  have N0 := Fr.nil n0
  skip
  obtain ⟨_, _, _, X1, hQ1, st1⟩ := cS X0 hx hZ hw hown (y := y0) 1 rfl 2 rfl 3 rfl 4 rfl (by decide) (W := 0) (r0_7 hw w7 O0 (B.2.1.2.2.1)) (by decide) (by decide) e0 (g := (mkF m 9 #[iv i0, iv i1, iv i2, iv (6:Int32), un, un, un, un, un, un, un, un, un, un, un, un, un, un, un] [(.int (6:Int32))])) rfl (by rw [hml]; rfl) (argsL := [(.int (6:Int32))]) (rest := []) (lenOf pd9 rfl) rfl wf (hb hby at_9) rfl (by decide) (by decide)
  obtain ⟨rfl, N1q, e1⟩ := hQ1
  have N1 := Fr.app N0 N1q
  obtain ⟨_, _, X2, e2, N2, st2⟩ := g1_24 i0 i1 i2 (6:Int32) w7 ⟨X1, hx, hZ, hw, hby, hml, hown, e1, O0, N1, by decide, by decide, by decide, by decide⟩ (by decide) (by decide) (by decide)
  obtain ⟨_, h3, _, vm3, b3_0, b3_1, b3_2, b3_3, b3_4, X3, e3, hSq3, N3, K3, _, _, _, _, lo3_5, _, _, _, _, _, _, _, _, nq3_14, _, _, _, _, _, _, _, _, _, f3_24, _, _, f3_27, _, _, _, _, f3_32, f3_33, f3_34, f3_35, st3⟩ := g1_2 i0 i1 i2 (6:Int32) w7 (0:Int32) (1:Int32) w11 w1 w12 ⟨X2, hx, hZ, hw, hby, hml, hown, e2, O0, N2, by decide, by decide, by decide, by decide⟩ (B.2.1.2.2.2.2.2.2.2.2.2.2.1) (B.1.2.2.1) (B.2.2.1.1)
  obtain ⟨Y3, hS3, hZ3, hown3⟩ := rebS (s := s) (vm0 := s.vm) (State.WarmedH.since (State.WarmedH.refl s) 0) (Nat.zero_le _) X3 hSq3 K3.1 hZ hown
  have O_K3 : Old Z n0 h3 := O0.keep K3 all0
  have g4 : n0 ≤ b3_4 := Nat.le_trans (Nat.le_trans (Nat.le_of_eq O0.1.symm) O0.2.1) lo3_5
  obtain ⟨_, h5, _, b5_0, k5_0, X5, e5, N5, K5, _, f5_2, f5_3, f5_4, f5_5, f5_6, f5_7, _, st5⟩ := g1_25 i0 i1 i2 (6:Int32) w7 (0:Int32) (1:Int32) b3_0 b3_1 b3_2 b3_3 b3_4 (0:Int32) w11 k_w11 ⟨Y3, hx, hZ3, hw, hby, hml, hown3, e3, O_K3, N3, by decide, by decide, by decide, by decide⟩ (by decide) (by decide) f3_32 f3_33 g4 f3_34 f3_35 (B.2.2.2.1.2.2.2.2.2.2.2.1) (B.2.1.2.2.2.2.2.2.2.2.2.2.1) f3_24
  have O_K5 : Old Z n0 h5 := O_K3.keep K5 (allS g4 all0)
  obtain ⟨_, h7, _, vm7, b7_0, X7, e7, hSq7, N7, K7, _, f7_2, f7_3, st7⟩ := g1_31 i0 i1 i2 (6:Int32) w7 (0:Int32) (1:Int32) b3_0 b3_1 b3_2 b3_3 b3_4 (0:Int32) ⟨X5, hx, hZ3, hw, hby, hml, hown3, e5, O_K5, N5, by decide, by decide, by decide, by decide⟩ (by decide) pin2 (by decide)
  obtain ⟨Y7, hS7, hZ7, hown7⟩ := rebS (s := s) (vm0 := vm3) hS3 (Nat.le_trans (Nat.le_refl _) K5.1) X7 hSq7 K7.1 hZ3 hown3
  have O_K7 : Old Z n0 h7 := O_K5.keep K7 all0
  obtain ⟨_, _, X8, e8, N8, st8⟩ := g1_27 i0 i1 i2 (6:Int32) w7 (0:Int32) (1:Int32) b3_0 b3_1 b3_2 b3_3 b3_4 (0:Int32) b7_0 (1:Int32) (0:Int32) ⟨Y7, hx, hZ7, hw, hby, hml, hown7, e7, O_K7, N7, by decide, by decide, by decide, by decide⟩ (by decide) (by decide)
  obtain ⟨_, _, X9, e9, N9, st9⟩ := g1_28 i0 i1 i2 (6:Int32) w7 (0:Int32) (1:Int32) b3_0 b3_1 b3_2 b3_3 b3_4 (0:Int32) b7_0 (0:Int32) ⟨X8, hx, hZ7, hw, hby, hml, hown7, e8, O_K7, N8, by decide, by decide, by decide, by decide⟩ (by decide)
  have f10 := (f5_2.keep K7)
  have f11 := (f5_5.keep K7 nin0)
  have f12 := (f5_4.keep K7 nin0)
  have f13 := (f5_7.keep K7)
  have f14 := (f5_6.keep K7 nin0)
  have f15 := ((f3_24.keep K5).keep K7)
  have f16 := (f5_3.keep K7 nin0)
  have f17 := ((f3_27.keep K5 (ninS nq3_14 nin0)).keep K7 nin0)
  obtain ⟨_, h18, _, b18_0, _, X18, e18, N18, K18, _, _, _, _, _, _, _, _, _, _, st18⟩ := g1_32 i0 i1 i2 (6:Int32) w7 (0:Int32) (1:Int32) b3_0 b3_1 b3_2 b3_3 b3_4 (0:Int32) b7_0 (1:Int32) b5_0 wMir k5_0 b3_2 w14 w2 w3 w12 ⟨X9, hx, hZ7, hw, hby, hml, hown7, e9, O_K7, N9, by decide, by decide, by decide, by decide⟩ f10 f11 f12 f13 (B.2.2.2.2.2.2.2.2.2.2.2.2.2.2.2) f14 f15 (B.2.2.1.2.2.2.2.1) f7_2 f7_3 f16 f17 (B.1.2.2.2.2.1) (Ne.symm B.2.2.2.2.2.2.1.2.2.2.2.1) (B.1.2.2.2.2.2.2.1) (Ne.symm B.2.2.2.2.2.2.2.1.2.2.2.1) (B.2.2.1.1)
  have O_K18 : Old Z n0 h18 := O_K7.keep K18 all0
  obtain ⟨T19, _, X19, e19, N19, st19⟩ := g1_30 i0 i1 i2 (6:Int32) w7 (0:Int32) (1:Int32) b3_0 b3_1 b3_2 b3_3 b3_4 (0:Int32) b7_0 (1:Int32) b18_0 w12 w13 k_w13 ⟨X18, hx, hZ7, hw, hby, hml, hown7, e18, O_K18, N18, by decide, by decide, by decide, by decide⟩ (by decide) (B.2.2.1.2.1) (B.2.2.1.2.2.1) (B.2.2.2.1.2.2.2.2.2.2.2.2.1)
  obtain ⟨_, hr, hrun, hended, hE⟩ := Stand.leaveW (s := s) (vm₁ := vm7) X19 hS7 (by rw [e19]; exact (Nat.le_trans (Nat.le_refl _) K18.1)) (v := some (.int (1:Int32))) (fun h => by rw [Bd.returns] at h; cases h)
  refine ⟨_, _, ?_, hrun, hended, _, _, rfl, ?_, hE.1, hE.2.1, hE.2.2.1, hE.2.2.2.mono (by decide) (by decide)⟩
  · show St p e below s₁ m 0 #[iv i0, iv i1, iv i2, un, un, un, un, un, un, un, un, un, un, un, un, un, un, un, un] [] _
    refine iN X0 hx hby at_0 rfl ?_
    refine X0.ldcInt hx hown (mo hZ hw 0 rfl) (g := (mkF m 1 #[iv i0, iv i1, iv i2, un, un, un, un, un, un, un, un, un, un, un, un, un, un, un, un] [(.int i0)])) rfl (hb hby at_1) _ ?_
    refine XS.iand X0.here hx rfl (hb hby at_3) rfl ?_
    refine XS.bipush X0.here hx rfl (hb hby at_4) ?_
    refine Jvm.RoadKit.iremM (g := (mkF m 6 #[iv i0, iv i1, iv i2, un, un, un, un, un, un, un, un, un, un, un, un, un, un, un, un] [(.int (10:Int32)), (.int (i0 &&& (2147483647:Int32)))])) X0 hx rfl (hb hby at_6) rfl (by decide : ¬ ((10:Int32) = (0:Int32))) ?_
    show St p e below s₁ m 7 #[iv i0, iv i1, iv i2, un, un, un, un, un, un, un, un, un, un, un, un, un, un, un, un] [(.int ((i0 &&& (2147483647:Int32)) % (10:Int32)))] _
    rw [pin0]
    refine XS.istoreN X0.here hx rfl (hb hby at_7) rfl (l' := #[iv i0, iv i1, iv i2, iv (6:Int32), un, un, un, un, un, un, un, un, un, un, un, un, un, un, un]) rfl ?_
    refine iN X0 hx hby at_8 rfl ?_
    refine st1 _ ?_
    refine XS.astore X1.here hx rfl (hb hby at_12) rfl rfl (l' := #[iv i0, iv i1, iv i2, iv (6:Int32), rv w7, un, un, un, un, un, un, un, un, un, un, un, un, un, un]) rfl ?_
    refine st2 _ ?_
    refine st3 _ ?_
    refine st5 _ ?_
    refine st7 _ ?_
    refine st8 _ ?_
    refine st9 _ ?_
    refine st18 _ ?_
    refine st19 _ ?_
    exact retN X19 hx (t := .boolean) Bd.returns (by simp) (hb hby at_310) hr
  · show lawQ n0 _ T19.heap _
    rw [e19]
    exact ⟨rfl, N19⟩
def r46_3Q (Z : State) (a1 a2 : Addr) (h0 : Heap) (n0 : Nat) : QT := fun v h L => v = none ∧ Fr n0 L ∧ Keep h0 h [a1] ∧ xE26 Z h a1 ∧ xF27 Z h a1 (.int (0:Int32))
theorem r46_3 (hw : HW a0 Z) (a1 a2 : Addr) (O0 : Old Z n0 h0) (H6 : xF25 Z h0 a1 .null) (H8 : xE26 Z h0 a1) (H11 : n0 ≤ a1) (H14 : xF27 Z h0 a1 (.int (0:Int32))) (H20 : xF28 Z h0 a1 (.int (0:Int32))) :
    MFS l y46 cP33_1 4 none [] (rM 2 2 20 24) Z #[(.ref a1), (.ref a2), (.int (0:Int32)), (.int (1:Int32))] h0 (r46_3Q Z a1 a2 h0 n0) := by
  refine own_in (pq pn11) #[rv a1, rv a2, iv (0:Int32), iv (1:Int32)] (fun _ => by first | (simp [entryFrame, mkF, argsToLocals, Value.category]; done) | rfl) ?_
  intro p e s m below meth c s₁ Bd hx hby hml hown hnm hZ e0 X0
  have N0 := Fr.nil n0
  obtain ⟨_, _, _, X3, hQ3, st3⟩ := cP X0 hx hZ hw hown (y := y47) rfl 295 rfl 296 rfl 299 rfl 298 rfl (by decide) (W := 0) (r47_1 hw a1 O0) (by decide) (by decide) e0 (g := (mkF m 1 #[rv a1, rv a2, iv (0:Int32), iv (1:Int32)] [(.ref a1)])) rfl (by rw [hml]; rfl) (argsL := []) (rest := []) (lenOf pd22 rfl) rfl wf (hb hby d46_1) rfl (by decide) (by decide)
  obtain ⟨rfl, N3q, e3⟩ := hQ3
  have N3 := Fr.app N0 N3q
  obtain ⟨a4, T4, h4, _, X4, e4, E4, hS4, hk4, hZ4, hown4, st4⟩ := ldcS (s := s) (vm0 := s.vm) X3 hx hZ (own := "tabula/engine/Role") hown (ow hw 301 rfl) (fun d hd => hw d (strW d hd)) e3 (State.WarmedH.since (State.WarmedH.refl s) 0) (Nat.zero_le _) (g := (mkF m 5 #[rv a1, rv a2, iv (0:Int32), iv (1:Int32)] [(.ref a2)])) rfl (hb hby d46_5) (n := 16) (by decide) (by decide) (by decide) (by decide)
  have O_E4 : Old Z n0 h4 := O0.ext E4
  have Kp_E4 : Keep h0 h4 [a1] := (Keep.refl h0 [a1]).ext E4
  obtain ⟨_, _, _, X5, hQ5, st5⟩ := cS X4 hx hZ4 hw hown4 (y := y48) 302 rfl 303 rfl 245 rfl 304 rfl (by decide) (W := 0) (r48_1 hw a2 a4 O_E4) (by decide) (by decide) e4 (g := (mkF m 7 #[rv a1, rv a2, iv (0:Int32), iv (1:Int32)] [(.ref a4), (.ref a2)])) rfl (by rw [hml]; rfl) (argsL := [(.ref a2), (.ref a4)]) (rest := []) (lenOf pd2 rfl) rfl wf (hb hby d46_7) rfl (by decide) (by decide)
  obtain ⟨rfl, N5q, e5⟩ := hQ5
  have N5 := Fr.app N3 N5q
  have f7 := (H6.ext E4)
  have f9 := (H8.ext E4)
  obtain ⟨_, h10, X10, e10, W10, st10⟩ := pF X5 hx hZ4 hown4 (ow hw 305 rfl) e5 f7 f9 (Or.inr ⟨(ow hw 306 rfl), rfl, hnm⟩) (ow hw 289 rfl) (ty := (.object "java/lang/String")) (by decide) rfl rfl (g := (mkF m 31 #[rv a1, rv a2, iv (0:Int32), iv (1:Int32)] [(.ref a2), (.ref a1)])) rfl rfl (hb hby d46_31)
  have Kp_W10 : Keep h0 h10 [a1] := Kp_E4.wr W10 (mI 0 rfl)
  have N12 := Fr.snoc X10 N5 H11
  have f15 := (f9.wr W10)
  have f16 := ((H14.ext E4).other W10 (Or.inr (sn44 hw)))
  obtain ⟨_, h17, X17, e17, W17, st17⟩ := pF X10 hx hZ4 hown4 (ow hw 307 rfl) e10 f16 f15 (Or.inr ⟨(ow hw 308 rfl), rfl, hnm⟩) (ow hw 289 rfl) (ty := .boolean) (by decide) rfl rfl (g := (mkF m 36 #[rv a1, rv a2, iv (0:Int32), iv (1:Int32)] [(.int (0:Int32)), (.ref a1)])) rfl rfl (hb hby d46_36)
  have Kp_W17 : Keep h0 h17 [a1] := Kp_W10.wr W17 (mI 0 rfl)
  have N18 := Fr.snoc X17 N12 H11
  have f19 := f16.same W17
  have f21 := (f15.wr W17)
  have f22 := (((H20.ext E4).other W10 (Or.inr (sn45 hw))).other W17 (Or.inr (sn46 hw)))
  obtain ⟨T23, h23, X23, e23, W23, st23⟩ := pF X17 hx hZ4 hown4 (ow hw 309 rfl) e17 f22 f21 (Or.inr ⟨(ow hw 310 rfl), rfl, hnm⟩) (ow hw 289 rfl) (ty := .boolean) (by decide) rfl rfl (g := (mkF m 41 #[rv a1, rv a2, iv (0:Int32), iv (1:Int32)] [(.int (1:Int32)), (.ref a1)])) rfl rfl (hb hby d46_41)
  have Kp_W23 : Keep h0 h23 [a1] := Kp_W17.wr W23 (mI 0 rfl)
  have N24 := Fr.snoc X23 N18 H11
  have f26 := (f21.wr W23)
  have f27 := (f19.other W23 (Or.inr (sn47 hw)))
  obtain ⟨_, hr, hrun, hended, hE⟩ := Stand.leaveW (s := s) (vm₁ := T4.vm) X23 hS4 (by rw [e23]; exact (Nat.le_trans (Nat.le_trans (Nat.le_trans hk4 (Keep.of_wr W10).1) (Keep.of_wr W17).1) (Keep.of_wr W23).1)) (v := none) (fun _ => rfl)
  refine ⟨_, _, ?_, hrun, hended, _, _, rfl, ?_, hE.1, hE.2.1, hE.2.2.1, hE.2.2.2.mono (by decide) (by decide)⟩
  · show St p e below s₁ m 0 #[rv a1, rv a2, iv (0:Int32), iv (1:Int32)] [] _
    refine aN X0 hx hby d46_0 rfl rfl ?_
    refine st3.trans ?_
    refine aN X3 hx hby d46_4 rfl rfl ?_
    refine st4 _ ?_
    refine st5 _ ?_
    refine XS.pop X5.here hx rfl (hb hby d46_10) rfl rfl ?_
    refine iN X5 hx hby d46_11 rfl ?_
    refine XS.ifYes X5.here hx rfl (pc0 := 12) (pc' := 29) rfl (hb hby d46_12) rfl ((if0 _ _).trans (teq (rfl : (0:Int32) = (0:Int32))).1) (by decide) (by decide) ?_
    refine aN X5 hx hby d46_29 rfl rfl ?_
    refine aN X5 hx hby d46_30 rfl rfl ?_
    refine st10 _ ?_
    refine aN X10 hx hby d46_34 rfl rfl ?_
    refine iN X10 hx hby d46_35 rfl ?_
    refine st17 _ ?_
    refine aN X17 hx hby d46_39 rfl rfl ?_
    refine iN X17 hx hby d46_40 rfl ?_
    refine st23 _ ?_
    exact X23.returnOut hx Bd.returns (hb hby d46_44) hr
  · show r46_3Q Z a1 a2 h0 n0 _ T23.heap _
    rw [e23]
    exact ⟨rfl, N24, Kp_W23, f26, f27⟩
theorem g1_33 (p1 p2 p3 p4:Int32) (a5 : Addr) (p6 p7:Int32) (a8 a9 a10 a11 a12 : Addr) (p13:Int32)
    (H0 : SG p l e R s m args below meth c T0 locs cells slots Z a0 h0 n0 5 31 3 40) (hc14 : ¬ (p7 = (0:Int32))) (pin15 : (p3 &&& (1:Int32)) = (0:Int32)) (pin16 : (p3 &&& (2:Int32)) = (2:Int32)) :
    ∃ (T' : State) (h' : Heap) (L' : List Loc) (vm' : Vm) (b17 : Addr), Stand p l e R (s.setVm vm') m args below meth c T' L' (cells + 5) (slots + 31) ∧ T'.heap = h' ∧ s.Since vm' h'.size ∧ Fr n0 L' ∧ Keep h0 h' [] ∧ h0.size ≤ b17 ∧ xE26 Z h' b17 ∧ xF27 Z h' b17 (.int (0:Int32)) ∧
      ∀ target, St p e below T' m 246 #[iv p1, iv p2, iv p3, iv p4, rv a5, iv p6, iv p7, rv a8, rv a9, rv a10, rv a11, rv a12, iv p13, rv b17, iv (0:Int32), iv (1:Int32), un, un, un] [] target → St p e below T0 m 180 #[iv p1, iv p2, iv p3, iv p4, rv a5, iv p6, iv p7, rv a8, rv a9, rv a10, rv a11, rv a12, iv p13, un, un, un, un, un, un] [] target := by
  obtain ⟨X0, hx, hZ, hw, hby, hml, hown, e0, O0, N0, rc, rs, rf, rl⟩ := H0
  obtain ⟨_, h17, X17, e17, E17, A17, D17, -, st17⟩ := newO X0 hx hZ hown (ow hw 288 rfl) (ow hw 289 rfl) (ow hw 290 rfl) e0 (g := (mkF m 231 #[iv p1, iv p2, iv p3, iv p4, rv a5, iv p6, iv p7, rv a8, rv a9, rv a10, rv a11, rv a12, iv p13, .val .null, iv (0:Int32), iv (1:Int32), un, un, un] [])) rfl (hb hby at_231) (by omega) (by omega)
  obtain ⟨b17, g17⟩ : ∃ z, z = h0.size := ⟨_, rfl⟩
  rw [← g17] at A17 D17 st17
  have O_E17 : Old Z n0 h17 := O0.ext E17
  have Kp_E17 : Keep h0 h17 [] := (Keep.refl h0 []).ext E17
  obtain ⟨a18, T18, h18, _, X18, e18, E18, hS18, hk18, hZ18, hown18, st18⟩ := ldcS (s := s) (vm0 := s.vm) X17 hx hZ (own := "tabula/engine/ConceptOperandsPinLaw") hown (ow hw 291 rfl) (fun d hd => hw d (strW d hd)) e17 (State.WarmedH.since (State.WarmedH.refl s) 0) (Nat.zero_le _) (g := (mkF m 235 #[iv p1, iv p2, iv p3, iv p4, rv a5, iv p6, iv p7, rv a8, rv a9, rv a10, rv a11, rv a12, iv p13, .val .null, iv (0:Int32), iv (1:Int32), un, un, un] [(.ref b17), (.ref b17)])) rfl (hb hby at_235) (n := 4) (by decide) (by decide) (by omega) (by omega)
  have O_E18 : Old Z n0 h18 := O_E17.ext E18
  have Kp_E18 : Keep h0 h18 [] := Kp_E17.ext E18
  have f19 : xF25 Z h17 b17 .null := D17 (Or.inr (ow hw 306 rfl)) (ty := (.object "java/lang/String")) (by decide)
  have f20 := (f19.ext E18)
  have f21 := (A17.ext E18)
  have g22 : n0 ≤ b17 := Nat.le_trans (Nat.le_trans (Nat.le_of_eq O0.1.symm) O0.2.1) (Nat.le_of_eq g17.symm)
  have f23 : xF27 Z h17 b17 (.int (0:Int32)) := D17 (Or.inr (ow hw 308 rfl)) (ty := .boolean) (by decide)
  have f24 := (f23.ext E18)
  have f25 : xF28 Z h17 b17 (.int (0:Int32)) := D17 (Or.inr (ow hw 310 rfl)) (ty := .boolean) (by decide)
  have f26 := (f25.ext E18)
  obtain ⟨T27, _, _, X27, hSq27, hg27, hQ27, st27⟩ := flS X18 (X18.specialBackS hx (y := y46) rfl hown18 (mo hZ18 hw 292 rfl) (mo hZ18 hw 293 rfl) (mo hZ18 hw 294 rfl) (by decide) (backOfS (W := 1) (r46_3 hw b17 a18 O_E18 f20 f21 g22 f24 f26) hZ18 (ow hw 294 rfl) (ow hw 290 rfl) (by show 2 + 1 ≤ R.frames; omega) (by show 1 + (4 + 11) + 24 ≤ R.locals; omega)) (g := (mkF m 241 #[iv p1, iv p2, iv p3, iv p4, rv a5, iv p6, iv p7, rv a8, rv a9, rv a10, rv a11, rv a12, iv p13, .val .null, iv (0:Int32), iv (1:Int32), un, un, un] [(.int (1:Int32)), (.int (0:Int32)), (.ref a18), (.ref b17), (.ref b17)])) rfl (by rw [hml]; rfl) (Steps.refl _) (a := b17) (argsL := [(.ref a18), (.int (0:Int32)), (.int (1:Int32))]) (rest := [(.ref b17)]) (lenOf pd12 rfl) rfl wf (hb hby at_241) (fun _ _ => ⟨rfl, e18, (by show cells + 3 + 2 ≤ R.cells; omega), (by show slots + 11 + 20 ≤ R.slots; omega)⟩))
  obtain ⟨Y27, hS27, _, _⟩ := rebS (s := s) (vm0 := T18.vm) hS18 (by rw [e18]; exact hk18) X27 hSq27 hg27 hZ18 hown18
  obtain ⟨rfl, N27q, K27, f27_1, f27_2⟩ := hQ27
  have N27 := Fr.app N0 N27q
  have z28 : h0.size ≤ b17 := Nat.le_trans (Keep.refl h0 []).1 (Nat.le_of_eq g17.symm)
  have Kp_K27 : Keep h0 T27.heap [] := Kp_E18.trans K27 (allS (Or.inr z28) all0)
  replace Y27 : Stand p l e R _ m args below meth c T27 _ (cells + 5) (slots + 31) := Y27
  refine ⟨T27, _, _, T27.vm, b17, Y27.more (by omega) (by omega), rfl, own_since hS27 (Nat.le_refl _), N27, Kp_K27, z28, f27_1, f27_2, fun target kt => ?_⟩
  show St p e below T0 m 180 #[iv p1, iv p2, iv p3, iv p4, rv a5, iv p6, iv p7, rv a8, rv a9, rv a10, rv a11, rv a12, iv p13, un, un, un, un, un, un] [] _
  refine XS.aconstNull X0.here hx rfl (hb hby at_180) ?_
  refine XS.astore X0.here hx rfl (hb hby at_181) rfl rfl (l' := #[iv p1, iv p2, iv p3, iv p4, rv a5, iv p6, iv p7, rv a8, rv a9, rv a10, rv a11, rv a12, iv p13, .val .null, un, un, un, un, un]) rfl ?_
  refine iL X0 hx hby at_183 rfl ?_
  refine XS.ifNo X0.here hx rfl (hb hby at_185) rfl ((if0 _ _).trans (feq hc14).1) ?_
  refine iN X0 hx hby at_188 rfl ?_
  refine iC X0 hx hby at_189 ?_
  refine XS.iand X0.here hx rfl (hb hby at_190) rfl ?_
  show St p e below T0 m 191 #[iv p1, iv p2, iv p3, iv p4, rv a5, iv p6, iv p7, rv a8, rv a9, rv a10, rv a11, rv a12, iv p13, .val .null, un, un, un, un, un] [(.int (p3 &&& (1:Int32)))] _
  rw [pin15]
  refine XS.ifYes X0.here hx rfl (pc0 := 191) (pc' := 210) rfl (hb hby at_191) rfl ((if0 _ _).trans (teq (rfl : (0:Int32) = (0:Int32))).1) (by decide) (by decide) ?_
  refine iC X0 hx hby at_210 ?_
  refine XS.istore X0.here hx rfl (hb hby at_211) rfl (l' := #[iv p1, iv p2, iv p3, iv p4, rv a5, iv p6, iv p7, rv a8, rv a9, rv a10, rv a11, rv a12, iv p13, .val .null, iv (0:Int32), un, un, un, un]) rfl ?_
  refine iL X0 hx hby at_213 rfl ?_
  refine XS.ifNo X0.here hx rfl (hb hby at_215) rfl ((if0 _ _).trans (teq (rfl : (0:Int32) = (0:Int32))).2) ?_
  refine iN X0 hx hby at_218 rfl ?_
  refine iC X0 hx hby at_219 ?_
  refine XS.iand X0.here hx rfl (hb hby at_220) rfl ?_
  show St p e below T0 m 221 #[iv p1, iv p2, iv p3, iv p4, rv a5, iv p6, iv p7, rv a8, rv a9, rv a10, rv a11, rv a12, iv p13, .val .null, iv (0:Int32), un, un, un, un] [(.int (p3 &&& (2:Int32)))] _
  rw [pin16]
  refine XS.ifNo X0.here hx rfl (hb hby at_221) rfl ((if0 _ _).trans (feq (by decide : ¬ ((2:Int32) = (0:Int32)))).1) ?_
  refine iC X0 hx hby at_224 ?_
  refine XS.goto X0.here hx rfl (pc0 := 225) (pc' := 229) rfl (hb hby at_225) (by decide) (by decide) ?_
  refine XS.istore X0.here hx rfl (hb hby at_229) rfl (l' := #[iv p1, iv p2, iv p3, iv p4, rv a5, iv p6, iv p7, rv a8, rv a9, rv a10, rv a11, rv a12, iv p13, .val .null, iv (0:Int32), iv (1:Int32), un, un, un]) rfl ?_
  refine st17 _ ?_
  refine XS.dup X17.here hx rfl (hb hby at_234) rfl rfl ?_
  refine st18 _ ?_
  refine iL X18 hx hby at_237 rfl ?_
  refine iL X18 hx hby at_239 rfl ?_
  refine st27.trans ?_
  show St p e below T27 m 244 #[iv p1, iv p2, iv p3, iv p4, rv a5, iv p6, iv p7, rv a8, rv a9, rv a10, rv a11, rv a12, iv p13, .val .null, iv (0:Int32), iv (1:Int32), un, un, un] [(.ref b17)] _
  refine XS.astore Y27.here hx rfl (hb hby at_244) rfl rfl (l' := #[iv p1, iv p2, iv p3, iv p4, rv a5, iv p6, iv p7, rv a8, rv a9, rv a10, rv a11, rv a12, iv p13, rv b17, iv (0:Int32), iv (1:Int32), un, un, un]) rfl ?_
  exact kt
theorem law_11 (l : Launch) (Z : State) (a0 : Array Value) (hw : HW a0 Z) (ws : List Jvm.Cond) (w0 w1 w2 w3 w4 w5 w6 w7 w8 w9 w10 w11 w12 w13 w14 : Addr) (k_w10 k_w11 k_w13 : ClassId) (wMir : Addr) (B : Base Z w0 w1 w2 w3 w4 w5 w6 w7 w8 w9 w10 w11 w12 w13 w14 k_w10 k_w11 k_w13 wMir) (i0 i1 i2:Int32) (h0 : Heap) (n0 : Nat) (O0 : Old Z n0 h0) (pin0 : ((i0 &&& (2147483647:Int32)) % (10:Int32)) = (6:Int32)) (pin2 : (i2 &&& (1:Int32)) = (0:Int32)) (pin3 : (i2 &&& (2:Int32)) = (2:Int32)) :
    MetFree l x (head1 (Jvm.Cond.code x code maxLocals ret :: ws) room_1) (fun a U => a = #[(.int i0), (.int i1), (.int i2)] ∧ Z.Warmed39 U.vm ∧ U.heap = h0) (fun _ _ _ _ _ => True) (fun _ U o U' => ∃ v L, o = .returned v ∧ lawQ n0 v U'.heap L ∧ ReturnedEndW U o U' L room_1.cells room_1.slots) := by
  refine own_in (pq pn4) #[iv i0, iv i1, iv i2, un, un, un, un, un, un, un, un, un, un, un, un, un, un, un, un] (fun _ => by first | (simp [entryFrame, mkF, argsToLocals, Value.category, maxLocals]; done) | rfl) ?_
  intro p e s m below meth c s₁ Bd hx hby hml hown hnm hZ e0 X0
  have N0 := Fr.nil n0
  skip
  obtain ⟨_, _, _, X1, hQ1, st1⟩ := cS X0 hx hZ hw hown (y := y0) 1 rfl 2 rfl 3 rfl 4 rfl (by decide) (W := 0) (r0_7 hw w7 O0 (B.2.1.2.2.1)) (by decide) (by decide) e0 (g := (mkF m 9 #[iv i0, iv i1, iv i2, iv (6:Int32), un, un, un, un, un, un, un, un, un, un, un, un, un, un, un] [(.int (6:Int32))])) rfl (by rw [hml]; rfl) (argsL := [(.int (6:Int32))]) (rest := []) (lenOf pd9 rfl) rfl wf (hb hby at_9) rfl (by decide) (by decide)
  obtain ⟨rfl, N1q, e1⟩ := hQ1
  have N1 := Fr.app N0 N1q
  obtain ⟨_, _, X2, e2, N2, st2⟩ := g1_24 i0 i1 i2 (6:Int32) w7 ⟨X1, hx, hZ, hw, hby, hml, hown, e1, O0, N1, by decide, by decide, by decide, by decide⟩ (by decide) (by decide) (by decide)
  obtain ⟨_, h3, _, vm3, b3_0, b3_1, b3_2, b3_3, b3_4, X3, e3, hSq3, N3, K3, _, _, _, _, lo3_5, _, _, _, _, _, _, _, _, nq3_14, _, _, _, _, _, _, _, _, _, f3_24, _, _, f3_27, _, _, _, _, f3_32, f3_33, f3_34, f3_35, st3⟩ := g1_2 i0 i1 i2 (6:Int32) w7 (0:Int32) (1:Int32) w11 w1 w12 ⟨X2, hx, hZ, hw, hby, hml, hown, e2, O0, N2, by decide, by decide, by decide, by decide⟩ (B.2.1.2.2.2.2.2.2.2.2.2.2.1) (B.1.2.2.1) (B.2.2.1.1)
  obtain ⟨Y3, hS3, hZ3, hown3⟩ := rebS (s := s) (vm0 := s.vm) (State.WarmedH.since (State.WarmedH.refl s) 0) (Nat.zero_le _) X3 hSq3 K3.1 hZ hown
  have O_K3 : Old Z n0 h3 := O0.keep K3 all0
  have g4 : n0 ≤ b3_4 := Nat.le_trans (Nat.le_trans (Nat.le_of_eq O0.1.symm) O0.2.1) lo3_5
  obtain ⟨_, h5, _, b5_0, k5_0, X5, e5, N5, K5, _, f5_2, f5_3, f5_4, f5_5, f5_6, f5_7, _, st5⟩ := g1_25 i0 i1 i2 (6:Int32) w7 (0:Int32) (1:Int32) b3_0 b3_1 b3_2 b3_3 b3_4 (0:Int32) w11 k_w11 ⟨Y3, hx, hZ3, hw, hby, hml, hown3, e3, O_K3, N3, by decide, by decide, by decide, by decide⟩ (by decide) (by decide) f3_32 f3_33 g4 f3_34 f3_35 (B.2.2.2.1.2.2.2.2.2.2.2.1) (B.2.1.2.2.2.2.2.2.2.2.2.2.1) f3_24
  have O_K5 : Old Z n0 h5 := O_K3.keep K5 (allS g4 all0)
  obtain ⟨_, h7, _, vm7, b7_0, X7, e7, hSq7, N7, K7, _, f7_2, f7_3, st7⟩ := g1_33 i0 i1 i2 (6:Int32) w7 (0:Int32) (1:Int32) b3_0 b3_1 b3_2 b3_3 b3_4 (0:Int32) ⟨X5, hx, hZ3, hw, hby, hml, hown3, e5, O_K5, N5, by decide, by decide, by decide, by decide⟩ (by decide) pin2 pin3
  obtain ⟨Y7, hS7, hZ7, hown7⟩ := rebS (s := s) (vm0 := vm3) hS3 (Nat.le_trans (Nat.le_refl _) K5.1) X7 hSq7 K7.1 hZ3 hown3
  have O_K7 : Old Z n0 h7 := O_K5.keep K7 all0
  obtain ⟨_, _, X8, e8, N8, st8⟩ := g1_27 i0 i1 i2 (6:Int32) w7 (0:Int32) (1:Int32) b3_0 b3_1 b3_2 b3_3 b3_4 (0:Int32) b7_0 (0:Int32) (1:Int32) ⟨Y7, hx, hZ7, hw, hby, hml, hown7, e7, O_K7, N7, by decide, by decide, by decide, by decide⟩ (by decide) (by decide)
  obtain ⟨_, _, X9, e9, N9, st9⟩ := g1_28 i0 i1 i2 (6:Int32) w7 (0:Int32) (1:Int32) b3_0 b3_1 b3_2 b3_3 b3_4 (0:Int32) b7_0 (1:Int32) ⟨X8, hx, hZ7, hw, hby, hml, hown7, e8, O_K7, N8, by decide, by decide, by decide, by decide⟩ (by decide)
  have f10 := (f5_2.keep K7)
  have f11 := (f5_5.keep K7 nin0)
  have f12 := (f5_4.keep K7 nin0)
  have f13 := (f5_7.keep K7)
  have f14 := (f5_6.keep K7 nin0)
  have f15 := ((f3_24.keep K5).keep K7)
  have f16 := (f5_3.keep K7 nin0)
  have f17 := ((f3_27.keep K5 (ninS nq3_14 nin0)).keep K7 nin0)
  obtain ⟨_, h18, _, b18_0, _, X18, e18, N18, K18, _, _, _, _, _, _, _, _, _, _, st18⟩ := g1_29 i0 i1 i2 (6:Int32) w7 (0:Int32) (1:Int32) b3_0 b3_1 b3_2 b3_3 b3_4 (0:Int32) b7_0 (1:Int32) b5_0 wMir k5_0 b3_2 w14 w2 w3 w12 ⟨X9, hx, hZ7, hw, hby, hml, hown7, e9, O_K7, N9, by decide, by decide, by decide, by decide⟩ f10 f11 f12 f13 (B.2.2.2.2.2.2.2.2.2.2.2.2.2.2.2) f14 f15 (B.2.2.1.2.2.2.2.1) f7_2 f7_3 f16 f17 (B.1.2.2.2.2.1) (Ne.symm B.2.2.2.2.2.2.1.2.2.2.2.1) (B.1.2.2.2.2.2.2.1) (Ne.symm B.2.2.2.2.2.2.2.1.2.2.2.1) (B.2.2.1.1)
  have O_K18 : Old Z n0 h18 := O_K7.keep K18 all0
  obtain ⟨T19, _, X19, e19, N19, st19⟩ := g1_30 i0 i1 i2 (6:Int32) w7 (0:Int32) (1:Int32) b3_0 b3_1 b3_2 b3_3 b3_4 (0:Int32) b7_0 (1:Int32) b18_0 w12 w13 k_w13 ⟨X18, hx, hZ7, hw, hby, hml, hown7, e18, O_K18, N18, by decide, by decide, by decide, by decide⟩ (by decide) (B.2.2.1.2.1) (B.2.2.1.2.2.1) (B.2.2.2.1.2.2.2.2.2.2.2.2.1)
  obtain ⟨_, hr, hrun, hended, hE⟩ := Stand.leaveW (s := s) (vm₁ := vm7) X19 hS7 (by rw [e19]; exact (Nat.le_trans (Nat.le_refl _) K18.1)) (v := some (.int (1:Int32))) (fun h => by rw [Bd.returns] at h; cases h)
  refine ⟨_, _, ?_, hrun, hended, _, _, rfl, ?_, hE.1, hE.2.1, hE.2.2.1, hE.2.2.2.mono (by decide) (by decide)⟩
  · show St p e below s₁ m 0 #[iv i0, iv i1, iv i2, un, un, un, un, un, un, un, un, un, un, un, un, un, un, un, un] [] _
    refine iN X0 hx hby at_0 rfl ?_
    refine X0.ldcInt hx hown (mo hZ hw 0 rfl) (g := (mkF m 1 #[iv i0, iv i1, iv i2, un, un, un, un, un, un, un, un, un, un, un, un, un, un, un, un] [(.int i0)])) rfl (hb hby at_1) _ ?_
    refine XS.iand X0.here hx rfl (hb hby at_3) rfl ?_
    refine XS.bipush X0.here hx rfl (hb hby at_4) ?_
    refine Jvm.RoadKit.iremM (g := (mkF m 6 #[iv i0, iv i1, iv i2, un, un, un, un, un, un, un, un, un, un, un, un, un, un, un, un] [(.int (10:Int32)), (.int (i0 &&& (2147483647:Int32)))])) X0 hx rfl (hb hby at_6) rfl (by decide : ¬ ((10:Int32) = (0:Int32))) ?_
    show St p e below s₁ m 7 #[iv i0, iv i1, iv i2, un, un, un, un, un, un, un, un, un, un, un, un, un, un, un, un] [(.int ((i0 &&& (2147483647:Int32)) % (10:Int32)))] _
    rw [pin0]
    refine XS.istoreN X0.here hx rfl (hb hby at_7) rfl (l' := #[iv i0, iv i1, iv i2, iv (6:Int32), un, un, un, un, un, un, un, un, un, un, un, un, un, un, un]) rfl ?_
    refine iN X0 hx hby at_8 rfl ?_
    refine st1 _ ?_
    refine XS.astore X1.here hx rfl (hb hby at_12) rfl rfl (l' := #[iv i0, iv i1, iv i2, iv (6:Int32), rv w7, un, un, un, un, un, un, un, un, un, un, un, un, un, un]) rfl ?_
    refine st2 _ ?_
    refine st3 _ ?_
    refine st5 _ ?_
    refine st7 _ ?_
    refine st8 _ ?_
    refine st9 _ ?_
    refine st18 _ ?_
    refine st19 _ ?_
    exact retN X19 hx (t := .boolean) Bd.returns (by simp) (hb hby at_310) hr
  · show lawQ n0 _ T19.heap _
    rw [e19]
    exact ⟨rfl, N19⟩
theorem d0_63 : dk method_2_code 63 (.iload_n 0) 1 := by decide +kernel
theorem d0_64 : dk method_2_code 64 (.bipush 7) 2 := by decide +kernel
theorem d0_66 : dk method_2_code 66 (.if_icmp .ne 7) 3 := by decide +kernel
theorem d0_69 : dk method_2_code 69 (.getstatic 31) 3 := by decide +kernel
theorem d0_72 : dk method_2_code 72 .areturn 1 := by decide +kernel
def r0_8Q (Z : State) (a1 : Addr) (h0 : Heap) (n0 : Nat) : QT := fun v h L => v = some (.ref a1) ∧ Fr n0 L ∧ h = h0
theorem r0_8 (hw : HW a0 Z) (a1 : Addr) (O0 : Old Z n0 h0) (H2 : Sta Z Z.heap "tabula/engine/Concept$Kind" "ALL" "Ltabula/engine/Concept$Kind;" (.ref a1)) :
    MF l y0 method_2_code 1 (some (.object "tabula/engine/Concept$Kind")) [] (rM 0 0 0 0) Z #[(.int (7:Int32))] h0 (r0_8Q Z a1 h0 n0) := by
  refine own_in (pq pn4) #[iv (7:Int32)] (fun _ => by first | (simp [entryFrame, mkF, argsToLocals, Value.category]; done) | rfl) ?_
  intro p e s m below meth c s₁ Bd hx hby hml hown hnm hZ e0 X0
  have N0 := Fr.nil n0
  obtain ⟨_, X3, e3, st3⟩ := getS2 X0 hx hZ hown (host := "") (Or.inl (ow hw 350 rfl)) Via.refl e0 (H2.ext O0.2) (g := (mkF m 69 #[iv (7:Int32)] [])) rfl (hb hby d0_69)
  refine fin (Q := r0_8Q Z a1 h0 n0) (rm := (rM 0 0 0 0)) Bd X3 e3 (some (.ref a1)) nofun ⟨rfl, N0, rfl⟩ (by decide) (by decide) fun fs hr => ?_
  show St p e below s₁ m 0 #[iv (7:Int32)] [] _
  refine iN X0 hx hby d0_0 rfl ?_
  refine XS.ifYes X0.here hx rfl (pc0 := 1) (pc' := 8) rfl (hb hby d0_1) rfl ((if0 _ _).trans (feq (by decide : ¬ ((7:Int32) = (0:Int32)))).2) (by decide) (by decide) ?_
  refine iN X0 hx hby d0_8 rfl ?_
  refine iC X0 hx hby d0_9 ?_
  refine XS.icmpYes X0.here hx rfl (pc0 := 10) (pc' := 17) rfl (hb hby d0_10) rfl (feq (by decide : ¬ ((7:Int32) = (1:Int32)))).2 (by decide) (by decide) ?_
  refine iN X0 hx hby d0_17 rfl ?_
  refine iC X0 hx hby d0_18 ?_
  refine XS.icmpYes X0.here hx rfl (pc0 := 19) (pc' := 26) rfl (hb hby d0_19) rfl (feq (by decide : ¬ ((7:Int32) = (2:Int32)))).2 (by decide) (by decide) ?_
  refine iN X0 hx hby d0_26 rfl ?_
  refine iC X0 hx hby d0_27 ?_
  refine XS.icmpYes X0.here hx rfl (pc0 := 28) (pc' := 35) rfl (hb hby d0_28) rfl (feq (by decide : ¬ ((7:Int32) = (3:Int32)))).2 (by decide) (by decide) ?_
  refine iN X0 hx hby d0_35 rfl ?_
  refine iC X0 hx hby d0_36 ?_
  refine XS.icmpYes X0.here hx rfl (pc0 := 37) (pc' := 44) rfl (hb hby d0_37) rfl (feq (by decide : ¬ ((7:Int32) = (4:Int32)))).2 (by decide) (by decide) ?_
  refine iN X0 hx hby d0_44 rfl ?_
  refine iC X0 hx hby d0_45 ?_
  refine XS.icmpYes X0.here hx rfl (pc0 := 46) (pc' := 53) rfl (hb hby d0_46) rfl (feq (by decide : ¬ ((7:Int32) = (5:Int32)))).2 (by decide) (by decide) ?_
  refine iN X0 hx hby d0_53 rfl ?_
  refine XS.bipush X0.here hx rfl (hb hby d0_54) ?_
  refine XS.icmpYes X0.here hx rfl (pc0 := 56) (pc' := 63) rfl (hb hby d0_56) rfl (feq (by decide : ¬ ((7:Int32) = (6:Int32)))).2 (by decide) (by decide) ?_
  refine iN X0 hx hby d0_63 rfl ?_
  refine XS.bipush X0.here hx rfl (hb hby d0_64) ?_
  refine XS.icmpNo X0.here hx rfl (hb hby d0_66) rfl (teq (rfl : (7:Int32) = (7:Int32))).2 ?_
  refine st3 _ ?_
  exact retA X3 hx Bd.returns rfl rfl (hb hby d0_72) hr
theorem d16_14 : dk method_3_code 14 (.iconst 0) 1 := by decide +kernel
theorem d16_15 : dk method_3_code 15 .ireturn 1 := by decide +kernel
def r16_3Q (Z : State) (p1 p2:Int32) (h0 : Heap) (n0 : Nat) : QT := fun v h L => v = some (.int (0:Int32)) ∧ Fr n0 L ∧ h = h0
theorem r16_3 (hw : HW a0 Z) (p1 p2:Int32) (O0 : Old Z n0 h0) (hc3 : ¬ (p1 = (6:Int32))) (hc4 : p1 = (7:Int32)) :
    MF l y16 method_3_code 2 (some .int) [] (rM 0 0 0 0) Z #[(.int p1), (.int p2)] h0 (r16_3Q Z p1 p2 h0 n0) := by
  refine own_in (pq pn4) #[iv p1, iv p2] (fun _ => by first | (simp [entryFrame, mkF, argsToLocals, Value.category]; done) | rfl) ?_
  intro p e s m below meth c s₁ Bd hx hby hml hown hnm hZ e0 X0
  have N0 := Fr.nil n0
  refine fin (Q := r16_3Q Z p1 p2 h0 n0) (rm := (rM 0 0 0 0)) Bd X0 e0 (some (.int (0:Int32))) nofun ⟨rfl, N0, rfl⟩ (by decide) (by decide) fun fs hr => ?_
  show St p e below s₁ m 0 #[iv p1, iv p2] [] _
  refine iN X0 hx hby d16_0 rfl ?_
  refine XS.bipush X0.here hx rfl (hb hby d16_1) ?_
  refine XS.icmpYes X0.here hx rfl (pc0 := 3) (pc' := 8) rfl (hb hby d16_3) rfl (feq hc3).2 (by decide) (by decide) ?_
  refine iN X0 hx hby d16_8 rfl ?_
  refine XS.bipush X0.here hx rfl (hb hby d16_9) ?_
  refine XS.icmpNo X0.here hx rfl (hb hby d16_11) rfl (teq hc4).2 ?_
  refine iC X0 hx hby d16_14 ?_
  exact retI X0 hx Bd.returns (hb hby d16_15) hr
theorem g1_34 (p1 p2 p3 p4:Int32) (a5 : Addr) (p6 p7:Int32) (a8 a9 a10 a11 a12 : Addr) (p13:Int32) (a14 : Addr) (p15:Int32)
    (H0 : SG p l e R s m args below meth c T0 locs cells slots Z a0 h0 n0 0 0 1 13) (hc16 : ¬ (p4 = (6:Int32))) (hc17 : p4 = (7:Int32)) :
    ∃ (T' : State) (L' : List Loc), Stand p l e R s m args below meth c T' L' (cells + 0) (slots + 0) ∧ T'.heap = h0 ∧ Fr n0 L' ∧
      ∀ target, St p e below T' m 271 #[iv p1, iv p2, iv p3, iv p4, rv a5, iv p6, iv p7, rv a8, rv a9, rv a10, rv a11, rv a12, iv p13, rv a14, .val .null, iv (0:Int32), un, un, un] [] target → St p e below T0 m 264 #[iv p1, iv p2, iv p3, iv p4, rv a5, iv p6, iv p7, rv a8, rv a9, rv a10, rv a11, rv a12, iv p13, rv a14, .val .null, iv p15, un, un, un] [] target := by
  obtain ⟨X0, hx, hZ, hw, hby, hml, hown, e0, O0, N0, rc, rs, rf, rl⟩ := H0
  obtain ⟨T18, _, _, X18, hQ18, st18⟩ := cS X0 hx hZ hw hown (y := y16) 133 rfl 134 rfl 3 rfl 135 rfl (by decide) (W := 0) (r16_3 hw p4 p2 O0 hc16 hc17) (by show 0 + 1 ≤ R.frames; omega) (by show 0 + (2 + 11) + 0 ≤ R.locals; omega) e0 (g := (mkF m 266 #[iv p1, iv p2, iv p3, iv p4, rv a5, iv p6, iv p7, rv a8, rv a9, rv a10, rv a11, rv a12, iv p13, rv a14, .val .null, iv p15, un, un, un] [(.int p2), (.int p4)])) rfl (by rw [hml]; rfl) (argsL := [(.int p4), (.int p2)]) (rest := []) (lenOf pd21 rfl) rfl wf (hb hby at_266) rfl (by show cells + 0 + 0 ≤ R.cells; omega) (by show slots + 0 + 0 ≤ R.slots; omega)
  obtain ⟨rfl, N18q, e18⟩ := hQ18
  have N18 := Fr.app N0 N18q
  replace X18 : Stand p l e R _ m args below meth c T18 _ (cells + 0) (slots + 0) := X18
  refine ⟨T18, _, X18.more (by omega) (by omega), e18, N18, fun target kt => ?_⟩
  show St p e below T0 m 264 #[iv p1, iv p2, iv p3, iv p4, rv a5, iv p6, iv p7, rv a8, rv a9, rv a10, rv a11, rv a12, iv p13, rv a14, .val .null, iv p15, un, un, un] [] _
  refine iN X0 hx hby at_264 rfl ?_
  refine iN X0 hx hby at_265 rfl ?_
  refine st18 _ ?_
  refine XS.istore X18.here hx rfl (hb hby at_269) rfl (l' := #[iv p1, iv p2, iv p3, iv p4, rv a5, iv p6, iv p7, rv a8, rv a9, rv a10, rv a11, rv a12, iv p13, rv a14, .val .null, iv (0:Int32), un, un, un]) rfl ?_
  exact kt
theorem law_12 (l : Launch) (Z : State) (a0 : Array Value) (hw : HW a0 Z) (ws : List Jvm.Cond) (w0 w1 w2 w3 w4 w5 w6 w7 w8 w9 w10 w11 w12 w13 w14 : Addr) (k_w10 k_w11 k_w13 : ClassId) (wMir : Addr) (B : Base Z w0 w1 w2 w3 w4 w5 w6 w7 w8 w9 w10 w11 w12 w13 w14 k_w10 k_w11 k_w13 wMir) (i0 i1 i2:Int32) (h0 : Heap) (n0 : Nat) (O0 : Old Z n0 h0) (pin0 : ((i0 &&& (2147483647:Int32)) % (10:Int32)) = (7:Int32)) (pin2 : (i2 &&& (1:Int32)) = (0:Int32)) (pin3 : (i2 &&& (2:Int32)) = (0:Int32)) :
    MetFree l x (head1 (Jvm.Cond.code x code maxLocals ret :: ws) room_1) (fun a U => a = #[(.int i0), (.int i1), (.int i2)] ∧ Z.Warmed39 U.vm ∧ U.heap = h0) (fun _ _ _ _ _ => True) (fun _ U o U' => ∃ v L, o = .returned v ∧ lawQ n0 v U'.heap L ∧ ReturnedEndW U o U' L room_1.cells room_1.slots) := by
  refine own_in (pq pn4) #[iv i0, iv i1, iv i2, un, un, un, un, un, un, un, un, un, un, un, un, un, un, un, un] (fun _ => by first | (simp [entryFrame, mkF, argsToLocals, Value.category, maxLocals]; done) | rfl) ?_
  intro p e s m below meth c s₁ Bd hx hby hml hown hnm hZ e0 X0
  have N0 := Fr.nil n0
  skip
  obtain ⟨_, _, _, X1, hQ1, st1⟩ := cS X0 hx hZ hw hown (y := y0) 1 rfl 2 rfl 3 rfl 4 rfl (by decide) (W := 0) (r0_8 hw w8 O0 (B.2.1.2.2.2.2.1)) (by decide) (by decide) e0 (g := (mkF m 9 #[iv i0, iv i1, iv i2, iv (7:Int32), un, un, un, un, un, un, un, un, un, un, un, un, un, un, un] [(.int (7:Int32))])) rfl (by rw [hml]; rfl) (argsL := [(.int (7:Int32))]) (rest := []) (lenOf pd9 rfl) rfl wf (hb hby at_9) rfl (by decide) (by decide)
  obtain ⟨rfl, N1q, e1⟩ := hQ1
  have N1 := Fr.app N0 N1q
  obtain ⟨_, _, X2, e2, N2, st2⟩ := g1_24 i0 i1 i2 (7:Int32) w8 ⟨X1, hx, hZ, hw, hby, hml, hown, e1, O0, N1, by decide, by decide, by decide, by decide⟩ (by decide) (by decide) (by decide)
  obtain ⟨_, h3, _, vm3, b3_0, b3_1, b3_2, b3_3, b3_4, X3, e3, hSq3, N3, K3, _, _, _, _, lo3_5, _, _, _, _, _, _, _, _, nq3_14, _, _, _, _, _, _, _, _, _, f3_24, _, _, f3_27, _, _, _, _, f3_32, f3_33, f3_34, f3_35, st3⟩ := g1_2 i0 i1 i2 (7:Int32) w8 (0:Int32) (1:Int32) w11 w1 w12 ⟨X2, hx, hZ, hw, hby, hml, hown, e2, O0, N2, by decide, by decide, by decide, by decide⟩ (B.2.1.2.2.2.2.2.2.2.2.2.2.1) (B.1.2.2.1) (B.2.2.1.1)
  obtain ⟨Y3, hS3, hZ3, hown3⟩ := rebS (s := s) (vm0 := s.vm) (State.WarmedH.since (State.WarmedH.refl s) 0) (Nat.zero_le _) X3 hSq3 K3.1 hZ hown
  have O_K3 : Old Z n0 h3 := O0.keep K3 all0
  have g4 : n0 ≤ b3_4 := Nat.le_trans (Nat.le_trans (Nat.le_of_eq O0.1.symm) O0.2.1) lo3_5
  obtain ⟨_, h5, _, b5_0, k5_0, X5, e5, N5, K5, _, f5_2, f5_3, f5_4, f5_5, f5_6, f5_7, _, st5⟩ := g1_25 i0 i1 i2 (7:Int32) w8 (0:Int32) (1:Int32) b3_0 b3_1 b3_2 b3_3 b3_4 (0:Int32) w11 k_w11 ⟨Y3, hx, hZ3, hw, hby, hml, hown3, e3, O_K3, N3, by decide, by decide, by decide, by decide⟩ (by decide) (by decide) f3_32 f3_33 g4 f3_34 f3_35 (B.2.2.2.1.2.2.2.2.2.2.2.1) (B.2.1.2.2.2.2.2.2.2.2.2.2.1) f3_24
  have O_K5 : Old Z n0 h5 := O_K3.keep K5 (allS g4 all0)
  obtain ⟨_, h7, _, vm7, b7_0, X7, e7, hSq7, N7, K7, _, f7_2, f7_3, st7⟩ := g1_26 i0 i1 i2 (7:Int32) w8 (0:Int32) (1:Int32) b3_0 b3_1 b3_2 b3_3 b3_4 (0:Int32) ⟨X5, hx, hZ3, hw, hby, hml, hown3, e5, O_K5, N5, by decide, by decide, by decide, by decide⟩ (by decide) pin2 pin3
  obtain ⟨Y7, hS7, hZ7, hown7⟩ := rebS (s := s) (vm0 := vm3) hS3 (Nat.le_trans (Nat.le_refl _) K5.1) X7 hSq7 K7.1 hZ3 hown3
  have O_K7 : Old Z n0 h7 := O_K5.keep K7 all0
  obtain ⟨_, _, X8, e8, N8, st8⟩ := g1_27 i0 i1 i2 (7:Int32) w8 (0:Int32) (1:Int32) b3_0 b3_1 b3_2 b3_3 b3_4 (0:Int32) b7_0 (0:Int32) (0:Int32) ⟨Y7, hx, hZ7, hw, hby, hml, hown7, e7, O_K7, N7, by decide, by decide, by decide, by decide⟩ (by decide) (by decide)
  obtain ⟨_, _, X9, e9, N9, st9⟩ := g1_34 i0 i1 i2 (7:Int32) w8 (0:Int32) (1:Int32) b3_0 b3_1 b3_2 b3_3 b3_4 (0:Int32) b7_0 (0:Int32) ⟨X8, hx, hZ7, hw, hby, hml, hown7, e8, O_K7, N8, by decide, by decide, by decide, by decide⟩ (by decide) (by decide)
  have f10 := (f5_2.keep K7)
  have f11 := (f5_5.keep K7 nin0)
  have f12 := (f5_4.keep K7 nin0)
  have f13 := (f5_7.keep K7)
  have f14 := (f5_6.keep K7 nin0)
  have f15 := ((f3_24.keep K5).keep K7)
  have f16 := (f5_3.keep K7 nin0)
  have f17 := ((f3_27.keep K5 (ninS nq3_14 nin0)).keep K7 nin0)
  obtain ⟨_, h18, _, b18_0, _, X18, e18, N18, K18, _, _, _, _, _, _, _, _, _, _, st18⟩ := g1_29 i0 i1 i2 (7:Int32) w8 (0:Int32) (1:Int32) b3_0 b3_1 b3_2 b3_3 b3_4 (0:Int32) b7_0 (0:Int32) b5_0 wMir k5_0 b3_2 w14 w2 w3 w12 ⟨X9, hx, hZ7, hw, hby, hml, hown7, e9, O_K7, N9, by decide, by decide, by decide, by decide⟩ f10 f11 f12 f13 (B.2.2.2.2.2.2.2.2.2.2.2.2.2.2.2) f14 f15 (B.2.2.1.2.2.2.2.1) f7_2 f7_3 f16 f17 (B.1.2.2.2.2.1) (Ne.symm B.2.2.2.2.2.2.1.2.2.2.2.2.1) (B.1.2.2.2.2.2.2.1) (Ne.symm B.2.2.2.2.2.2.2.1.2.2.2.2.1) (B.2.2.1.1)
  have O_K18 : Old Z n0 h18 := O_K7.keep K18 all0
  obtain ⟨T19, _, X19, e19, N19, st19⟩ := g1_30 i0 i1 i2 (7:Int32) w8 (0:Int32) (1:Int32) b3_0 b3_1 b3_2 b3_3 b3_4 (0:Int32) b7_0 (0:Int32) b18_0 w12 w13 k_w13 ⟨X18, hx, hZ7, hw, hby, hml, hown7, e18, O_K18, N18, by decide, by decide, by decide, by decide⟩ (by decide) (B.2.2.1.2.1) (B.2.2.1.2.2.1) (B.2.2.2.1.2.2.2.2.2.2.2.2.1)
  obtain ⟨_, hr, hrun, hended, hE⟩ := Stand.leaveW (s := s) (vm₁ := vm7) X19 hS7 (by rw [e19]; exact (Nat.le_trans (Nat.le_refl _) K18.1)) (v := some (.int (1:Int32))) (fun h => by rw [Bd.returns] at h; cases h)
  refine ⟨_, _, ?_, hrun, hended, _, _, rfl, ?_, hE.1, hE.2.1, hE.2.2.1, hE.2.2.2.mono (by decide) (by decide)⟩
  · show St p e below s₁ m 0 #[iv i0, iv i1, iv i2, un, un, un, un, un, un, un, un, un, un, un, un, un, un, un, un] [] _
    refine iN X0 hx hby at_0 rfl ?_
    refine X0.ldcInt hx hown (mo hZ hw 0 rfl) (g := (mkF m 1 #[iv i0, iv i1, iv i2, un, un, un, un, un, un, un, un, un, un, un, un, un, un, un, un] [(.int i0)])) rfl (hb hby at_1) _ ?_
    refine XS.iand X0.here hx rfl (hb hby at_3) rfl ?_
    refine XS.bipush X0.here hx rfl (hb hby at_4) ?_
    refine Jvm.RoadKit.iremM (g := (mkF m 6 #[iv i0, iv i1, iv i2, un, un, un, un, un, un, un, un, un, un, un, un, un, un, un, un] [(.int (10:Int32)), (.int (i0 &&& (2147483647:Int32)))])) X0 hx rfl (hb hby at_6) rfl (by decide : ¬ ((10:Int32) = (0:Int32))) ?_
    show St p e below s₁ m 7 #[iv i0, iv i1, iv i2, un, un, un, un, un, un, un, un, un, un, un, un, un, un, un, un] [(.int ((i0 &&& (2147483647:Int32)) % (10:Int32)))] _
    rw [pin0]
    refine XS.istoreN X0.here hx rfl (hb hby at_7) rfl (l' := #[iv i0, iv i1, iv i2, iv (7:Int32), un, un, un, un, un, un, un, un, un, un, un, un, un, un, un]) rfl ?_
    refine iN X0 hx hby at_8 rfl ?_
    refine st1 _ ?_
    refine XS.astore X1.here hx rfl (hb hby at_12) rfl rfl (l' := #[iv i0, iv i1, iv i2, iv (7:Int32), rv w8, un, un, un, un, un, un, un, un, un, un, un, un, un, un]) rfl ?_
    refine st2 _ ?_
    refine st3 _ ?_
    refine st5 _ ?_
    refine st7 _ ?_
    refine st8 _ ?_
    refine st9 _ ?_
    refine st18 _ ?_
    refine st19 _ ?_
    exact retN X19 hx (t := .boolean) Bd.returns (by simp) (hb hby at_310) hr
  · show lawQ n0 _ T19.heap _
    rw [e19]
    exact ⟨rfl, N19⟩
theorem g1_35 (p1 p2 p3 p4:Int32) (a5 : Addr) (p6 p7:Int32) (a8 a9 a10 a11 a12 : Addr) (p13:Int32)
    (H0 : SG p l e R s m args below meth c T0 locs cells slots Z a0 h0 n0 5 31 3 40) (hc14 : ¬ (p7 = (0:Int32))) (pin15 : (p3 &&& (1:Int32)) = (1:Int32)) (hc16 : ¬ (p4 = (6:Int32))) (hc17 : p4 = (7:Int32)) :
    ∃ (T' : State) (h' : Heap) (L' : List Loc) (vm' : Vm) (b18 : Addr), Stand p l e R (s.setVm vm') m args below meth c T' L' (cells + 5) (slots + 31) ∧ T'.heap = h' ∧ s.Since vm' h'.size ∧ Fr n0 L' ∧ Keep h0 h' [] ∧ h0.size ≤ b18 ∧ xE26 Z h' b18 ∧ xF27 Z h' b18 (.int (1:Int32)) ∧
      ∀ target, St p e below T' m 246 #[iv p1, iv p2, iv p3, iv p4, rv a5, iv p6, iv p7, rv a8, rv a9, rv a10, rv a11, rv a12, iv p13, rv b18, iv (1:Int32), iv (0:Int32), un, un, un] [] target → St p e below T0 m 180 #[iv p1, iv p2, iv p3, iv p4, rv a5, iv p6, iv p7, rv a8, rv a9, rv a10, rv a11, rv a12, iv p13, un, un, un, un, un, un] [] target := by
  obtain ⟨X0, hx, hZ, hw, hby, hml, hown, e0, O0, N0, rc, rs, rf, rl⟩ := H0
  obtain ⟨_, h18, X18, e18, E18, A18, D18, -, st18⟩ := newO X0 hx hZ hown (ow hw 288 rfl) (ow hw 289 rfl) (ow hw 290 rfl) e0 (g := (mkF m 231 #[iv p1, iv p2, iv p3, iv p4, rv a5, iv p6, iv p7, rv a8, rv a9, rv a10, rv a11, rv a12, iv p13, .val .null, iv (1:Int32), iv (0:Int32), un, un, un] [])) rfl (hb hby at_231) (by omega) (by omega)
  obtain ⟨b18, g18⟩ : ∃ z, z = h0.size := ⟨_, rfl⟩
  rw [← g18] at A18 D18 st18
  have O_E18 : Old Z n0 h18 := O0.ext E18
  have Kp_E18 : Keep h0 h18 [] := (Keep.refl h0 []).ext E18
  obtain ⟨a19, T19, h19, _, X19, e19, E19, hS19, hk19, hZ19, hown19, st19⟩ := ldcS (s := s) (vm0 := s.vm) X18 hx hZ (own := "tabula/engine/ConceptOperandsPinLaw") hown (ow hw 291 rfl) (fun d hd => hw d (strW d hd)) e18 (State.WarmedH.since (State.WarmedH.refl s) 0) (Nat.zero_le _) (g := (mkF m 235 #[iv p1, iv p2, iv p3, iv p4, rv a5, iv p6, iv p7, rv a8, rv a9, rv a10, rv a11, rv a12, iv p13, .val .null, iv (1:Int32), iv (0:Int32), un, un, un] [(.ref b18), (.ref b18)])) rfl (hb hby at_235) (n := 4) (by decide) (by decide) (by omega) (by omega)
  have O_E19 : Old Z n0 h19 := O_E18.ext E19
  have Kp_E19 : Keep h0 h19 [] := Kp_E18.ext E19
  have f20 : xF25 Z h18 b18 .null := D18 (Or.inr (ow hw 306 rfl)) (ty := (.object "java/lang/String")) (by decide)
  have f21 := (f20.ext E19)
  have f22 := (A18.ext E19)
  have g23 : n0 ≤ b18 := Nat.le_trans (Nat.le_trans (Nat.le_of_eq O0.1.symm) O0.2.1) (Nat.le_of_eq g18.symm)
  have f24 : xF27 Z h18 b18 (.int (0:Int32)) := D18 (Or.inr (ow hw 308 rfl)) (ty := .boolean) (by decide)
  have f25 := (f24.ext E19)
  have f26 : xF28 Z h18 b18 (.int (0:Int32)) := D18 (Or.inr (ow hw 310 rfl)) (ty := .boolean) (by decide)
  have f27 := (f26.ext E19)
  obtain ⟨T28, _, _, X28, hSq28, hg28, hQ28, st28⟩ := flS X19 (X19.specialBackS hx (y := y46) rfl hown19 (mo hZ19 hw 292 rfl) (mo hZ19 hw 293 rfl) (mo hZ19 hw 294 rfl) (by decide) (backOfS (W := 1) (r46_2 hw b18 a19 O_E19 f21 f22 g23 f25 f27) hZ19 (ow hw 294 rfl) (ow hw 290 rfl) (by show 2 + 1 ≤ R.frames; omega) (by show 1 + (4 + 11) + 24 ≤ R.locals; omega)) (g := (mkF m 241 #[iv p1, iv p2, iv p3, iv p4, rv a5, iv p6, iv p7, rv a8, rv a9, rv a10, rv a11, rv a12, iv p13, .val .null, iv (1:Int32), iv (0:Int32), un, un, un] [(.int (0:Int32)), (.int (1:Int32)), (.ref a19), (.ref b18), (.ref b18)])) rfl (by rw [hml]; rfl) (Steps.refl _) (a := b18) (argsL := [(.ref a19), (.int (1:Int32)), (.int (0:Int32))]) (rest := [(.ref b18)]) (lenOf pd12 rfl) rfl wf (hb hby at_241) (fun _ _ => ⟨rfl, e19, (by show cells + 3 + 2 ≤ R.cells; omega), (by show slots + 11 + 20 ≤ R.slots; omega)⟩))
  obtain ⟨Y28, hS28, _, _⟩ := rebS (s := s) (vm0 := T19.vm) hS19 (by rw [e19]; exact hk19) X28 hSq28 hg28 hZ19 hown19
  obtain ⟨rfl, N28q, K28, f28_1, f28_2⟩ := hQ28
  have N28 := Fr.app N0 N28q
  have z29 : h0.size ≤ b18 := Nat.le_trans (Keep.refl h0 []).1 (Nat.le_of_eq g18.symm)
  have Kp_K28 : Keep h0 T28.heap [] := Kp_E19.trans K28 (allS (Or.inr z29) all0)
  replace Y28 : Stand p l e R _ m args below meth c T28 _ (cells + 5) (slots + 31) := Y28
  refine ⟨T28, _, _, T28.vm, b18, Y28.more (by omega) (by omega), rfl, own_since hS28 (Nat.le_refl _), N28, Kp_K28, z29, f28_1, f28_2, fun target kt => ?_⟩
  show St p e below T0 m 180 #[iv p1, iv p2, iv p3, iv p4, rv a5, iv p6, iv p7, rv a8, rv a9, rv a10, rv a11, rv a12, iv p13, un, un, un, un, un, un] [] _
  refine XS.aconstNull X0.here hx rfl (hb hby at_180) ?_
  refine XS.astore X0.here hx rfl (hb hby at_181) rfl rfl (l' := #[iv p1, iv p2, iv p3, iv p4, rv a5, iv p6, iv p7, rv a8, rv a9, rv a10, rv a11, rv a12, iv p13, .val .null, un, un, un, un, un]) rfl ?_
  refine iL X0 hx hby at_183 rfl ?_
  refine XS.ifNo X0.here hx rfl (hb hby at_185) rfl ((if0 _ _).trans (feq hc14).1) ?_
  refine iN X0 hx hby at_188 rfl ?_
  refine iC X0 hx hby at_189 ?_
  refine XS.iand X0.here hx rfl (hb hby at_190) rfl ?_
  show St p e below T0 m 191 #[iv p1, iv p2, iv p3, iv p4, rv a5, iv p6, iv p7, rv a8, rv a9, rv a10, rv a11, rv a12, iv p13, .val .null, un, un, un, un, un] [(.int (p3 &&& (1:Int32)))] _
  rw [pin15]
  refine XS.ifNo X0.here hx rfl (hb hby at_191) rfl ((if0 _ _).trans (feq (by decide : ¬ ((1:Int32) = (0:Int32)))).1) ?_
  refine iN X0 hx hby at_194 rfl ?_
  refine XS.bipush X0.here hx rfl (hb hby at_195) ?_
  refine XS.icmpNo X0.here hx rfl (hb hby at_197) rfl (feq hc16).1 ?_
  refine iN X0 hx hby at_200 rfl ?_
  refine XS.bipush X0.here hx rfl (hb hby at_201) ?_
  refine XS.icmpNo X0.here hx rfl (hb hby at_203) rfl (teq hc17).2 ?_
  refine iC X0 hx hby at_206 ?_
  refine XS.goto X0.here hx rfl (pc0 := 207) (pc' := 211) rfl (hb hby at_207) (by decide) (by decide) ?_
  refine XS.istore X0.here hx rfl (hb hby at_211) rfl (l' := #[iv p1, iv p2, iv p3, iv p4, rv a5, iv p6, iv p7, rv a8, rv a9, rv a10, rv a11, rv a12, iv p13, .val .null, iv (1:Int32), un, un, un, un]) rfl ?_
  refine iL X0 hx hby at_213 rfl ?_
  refine XS.ifYes X0.here hx rfl (pc0 := 215) (pc' := 228) rfl (hb hby at_215) rfl ((if0 _ _).trans (feq (by decide : ¬ ((1:Int32) = (0:Int32)))).2) (by decide) (by decide) ?_
  refine iC X0 hx hby at_228 ?_
  refine XS.istore X0.here hx rfl (hb hby at_229) rfl (l' := #[iv p1, iv p2, iv p3, iv p4, rv a5, iv p6, iv p7, rv a8, rv a9, rv a10, rv a11, rv a12, iv p13, .val .null, iv (1:Int32), iv (0:Int32), un, un, un]) rfl ?_
  refine st18 _ ?_
  refine XS.dup X18.here hx rfl (hb hby at_234) rfl rfl ?_
  refine st19 _ ?_
  refine iL X19 hx hby at_237 rfl ?_
  show St p e below T19 m 239 #[iv p1, iv p2, iv p3, iv p4, rv a5, iv p6, iv p7, rv a8, rv a9, rv a10, rv a11, rv a12, iv p13, .val .null, iv (1:Int32), iv (0:Int32), un, un, un] [(.int (1:Int32)), (.ref a19), (.ref b18), (.ref b18)] _
  refine iL X19 hx hby at_239 rfl ?_
  refine st28.trans ?_
  refine XS.astore Y28.here hx rfl (hb hby at_244) rfl rfl (l' := #[iv p1, iv p2, iv p3, iv p4, rv a5, iv p6, iv p7, rv a8, rv a9, rv a10, rv a11, rv a12, iv p13, rv b18, iv (1:Int32), iv (0:Int32), un, un, un]) rfl ?_
  exact kt
theorem law_13 (l : Launch) (Z : State) (a0 : Array Value) (hw : HW a0 Z) (ws : List Jvm.Cond) (w0 w1 w2 w3 w4 w5 w6 w7 w8 w9 w10 w11 w12 w13 w14 : Addr) (k_w10 k_w11 k_w13 : ClassId) (wMir : Addr) (B : Base Z w0 w1 w2 w3 w4 w5 w6 w7 w8 w9 w10 w11 w12 w13 w14 k_w10 k_w11 k_w13 wMir) (i0 i1 i2:Int32) (h0 : Heap) (n0 : Nat) (O0 : Old Z n0 h0) (pin0 : ((i0 &&& (2147483647:Int32)) % (10:Int32)) = (7:Int32)) (pin2 : (i2 &&& (1:Int32)) = (1:Int32)) :
    MetFree l x (head1 (Jvm.Cond.code x code maxLocals ret :: ws) room_1) (fun a U => a = #[(.int i0), (.int i1), (.int i2)] ∧ Z.Warmed39 U.vm ∧ U.heap = h0) (fun _ _ _ _ _ => True) (fun _ U o U' => ∃ v L, o = .returned v ∧ lawQ n0 v U'.heap L ∧ ReturnedEndW U o U' L room_1.cells room_1.slots) := by
  refine own_in (pq pn4) #[iv i0, iv i1, iv i2, un, un, un, un, un, un, un, un, un, un, un, un, un, un, un, un] (fun _ => by first | (simp [entryFrame, mkF, argsToLocals, Value.category, maxLocals]; done) | rfl) ?_
  intro p e s m below meth c s₁ Bd hx hby hml hown hnm hZ e0 X0
  have N0 := Fr.nil n0
  skip
  obtain ⟨_, _, _, X1, hQ1, st1⟩ := cS X0 hx hZ hw hown (y := y0) 1 rfl 2 rfl 3 rfl 4 rfl (by decide) (W := 0) (r0_8 hw w8 O0 (B.2.1.2.2.2.2.1)) (by decide) (by decide) e0 (g := (mkF m 9 #[iv i0, iv i1, iv i2, iv (7:Int32), un, un, un, un, un, un, un, un, un, un, un, un, un, un, un] [(.int (7:Int32))])) rfl (by rw [hml]; rfl) (argsL := [(.int (7:Int32))]) (rest := []) (lenOf pd9 rfl) rfl wf (hb hby at_9) rfl (by decide) (by decide)
  obtain ⟨rfl, N1q, e1⟩ := hQ1
  have N1 := Fr.app N0 N1q
  obtain ⟨_, _, X2, e2, N2, st2⟩ := g1_24 i0 i1 i2 (7:Int32) w8 ⟨X1, hx, hZ, hw, hby, hml, hown, e1, O0, N1, by decide, by decide, by decide, by decide⟩ (by decide) (by decide) (by decide)
  obtain ⟨_, h3, _, vm3, b3_0, b3_1, b3_2, b3_3, b3_4, X3, e3, hSq3, N3, K3, _, _, _, _, lo3_5, _, _, _, _, _, _, _, _, nq3_14, _, _, _, _, _, _, _, _, _, f3_24, _, _, f3_27, _, _, _, _, f3_32, f3_33, f3_34, f3_35, st3⟩ := g1_2 i0 i1 i2 (7:Int32) w8 (0:Int32) (1:Int32) w11 w1 w12 ⟨X2, hx, hZ, hw, hby, hml, hown, e2, O0, N2, by decide, by decide, by decide, by decide⟩ (B.2.1.2.2.2.2.2.2.2.2.2.2.1) (B.1.2.2.1) (B.2.2.1.1)
  obtain ⟨Y3, hS3, hZ3, hown3⟩ := rebS (s := s) (vm0 := s.vm) (State.WarmedH.since (State.WarmedH.refl s) 0) (Nat.zero_le _) X3 hSq3 K3.1 hZ hown
  have O_K3 : Old Z n0 h3 := O0.keep K3 all0
  have g4 : n0 ≤ b3_4 := Nat.le_trans (Nat.le_trans (Nat.le_of_eq O0.1.symm) O0.2.1) lo3_5
  obtain ⟨_, h5, _, b5_0, k5_0, X5, e5, N5, K5, _, f5_2, f5_3, f5_4, f5_5, f5_6, f5_7, _, st5⟩ := g1_25 i0 i1 i2 (7:Int32) w8 (0:Int32) (1:Int32) b3_0 b3_1 b3_2 b3_3 b3_4 (0:Int32) w11 k_w11 ⟨Y3, hx, hZ3, hw, hby, hml, hown3, e3, O_K3, N3, by decide, by decide, by decide, by decide⟩ (by decide) (by decide) f3_32 f3_33 g4 f3_34 f3_35 (B.2.2.2.1.2.2.2.2.2.2.2.1) (B.2.1.2.2.2.2.2.2.2.2.2.2.1) f3_24
  have O_K5 : Old Z n0 h5 := O_K3.keep K5 (allS g4 all0)
  obtain ⟨_, h7, _, vm7, b7_0, X7, e7, hSq7, N7, K7, _, f7_2, f7_3, st7⟩ := g1_35 i0 i1 i2 (7:Int32) w8 (0:Int32) (1:Int32) b3_0 b3_1 b3_2 b3_3 b3_4 (0:Int32) ⟨X5, hx, hZ3, hw, hby, hml, hown3, e5, O_K5, N5, by decide, by decide, by decide, by decide⟩ (by decide) pin2 (by decide) (by decide)
  obtain ⟨Y7, hS7, hZ7, hown7⟩ := rebS (s := s) (vm0 := vm3) hS3 (Nat.le_trans (Nat.le_refl _) K5.1) X7 hSq7 K7.1 hZ3 hown3
  have O_K7 : Old Z n0 h7 := O_K5.keep K7 all0
  obtain ⟨_, _, X8, e8, N8, st8⟩ := g1_27 i0 i1 i2 (7:Int32) w8 (0:Int32) (1:Int32) b3_0 b3_1 b3_2 b3_3 b3_4 (0:Int32) b7_0 (1:Int32) (0:Int32) ⟨Y7, hx, hZ7, hw, hby, hml, hown7, e7, O_K7, N7, by decide, by decide, by decide, by decide⟩ (by decide) (by decide)
  obtain ⟨_, _, X9, e9, N9, st9⟩ := g1_34 i0 i1 i2 (7:Int32) w8 (0:Int32) (1:Int32) b3_0 b3_1 b3_2 b3_3 b3_4 (0:Int32) b7_0 (0:Int32) ⟨X8, hx, hZ7, hw, hby, hml, hown7, e8, O_K7, N8, by decide, by decide, by decide, by decide⟩ (by decide) (by decide)
  have f10 := (f5_2.keep K7)
  have f11 := (f5_5.keep K7 nin0)
  have f12 := (f5_4.keep K7 nin0)
  have f13 := (f5_7.keep K7)
  have f14 := (f5_6.keep K7 nin0)
  have f15 := ((f3_24.keep K5).keep K7)
  have f16 := (f5_3.keep K7 nin0)
  have f17 := ((f3_27.keep K5 (ninS nq3_14 nin0)).keep K7 nin0)
  obtain ⟨_, h18, _, b18_0, _, X18, e18, N18, K18, _, _, _, _, _, _, _, _, _, _, st18⟩ := g1_32 i0 i1 i2 (7:Int32) w8 (0:Int32) (1:Int32) b3_0 b3_1 b3_2 b3_3 b3_4 (0:Int32) b7_0 (0:Int32) b5_0 wMir k5_0 b3_2 w14 w2 w3 w12 ⟨X9, hx, hZ7, hw, hby, hml, hown7, e9, O_K7, N9, by decide, by decide, by decide, by decide⟩ f10 f11 f12 f13 (B.2.2.2.2.2.2.2.2.2.2.2.2.2.2.2) f14 f15 (B.2.2.1.2.2.2.2.1) f7_2 f7_3 f16 f17 (B.1.2.2.2.2.1) (Ne.symm B.2.2.2.2.2.2.1.2.2.2.2.2.1) (B.1.2.2.2.2.2.2.1) (Ne.symm B.2.2.2.2.2.2.2.1.2.2.2.2.1) (B.2.2.1.1)
  have O_K18 : Old Z n0 h18 := O_K7.keep K18 all0
  obtain ⟨T19, _, X19, e19, N19, st19⟩ := g1_30 i0 i1 i2 (7:Int32) w8 (0:Int32) (1:Int32) b3_0 b3_1 b3_2 b3_3 b3_4 (0:Int32) b7_0 (0:Int32) b18_0 w12 w13 k_w13 ⟨X18, hx, hZ7, hw, hby, hml, hown7, e18, O_K18, N18, by decide, by decide, by decide, by decide⟩ (by decide) (B.2.2.1.2.1) (B.2.2.1.2.2.1) (B.2.2.2.1.2.2.2.2.2.2.2.2.1)
  obtain ⟨_, hr, hrun, hended, hE⟩ := Stand.leaveW (s := s) (vm₁ := vm7) X19 hS7 (by rw [e19]; exact (Nat.le_trans (Nat.le_refl _) K18.1)) (v := some (.int (1:Int32))) (fun h => by rw [Bd.returns] at h; cases h)
  refine ⟨_, _, ?_, hrun, hended, _, _, rfl, ?_, hE.1, hE.2.1, hE.2.2.1, hE.2.2.2.mono (by decide) (by decide)⟩
  · show St p e below s₁ m 0 #[iv i0, iv i1, iv i2, un, un, un, un, un, un, un, un, un, un, un, un, un, un, un, un] [] _
    refine iN X0 hx hby at_0 rfl ?_
    refine X0.ldcInt hx hown (mo hZ hw 0 rfl) (g := (mkF m 1 #[iv i0, iv i1, iv i2, un, un, un, un, un, un, un, un, un, un, un, un, un, un, un, un] [(.int i0)])) rfl (hb hby at_1) _ ?_
    refine XS.iand X0.here hx rfl (hb hby at_3) rfl ?_
    refine XS.bipush X0.here hx rfl (hb hby at_4) ?_
    refine Jvm.RoadKit.iremM (g := (mkF m 6 #[iv i0, iv i1, iv i2, un, un, un, un, un, un, un, un, un, un, un, un, un, un, un, un] [(.int (10:Int32)), (.int (i0 &&& (2147483647:Int32)))])) X0 hx rfl (hb hby at_6) rfl (by decide : ¬ ((10:Int32) = (0:Int32))) ?_
    show St p e below s₁ m 7 #[iv i0, iv i1, iv i2, un, un, un, un, un, un, un, un, un, un, un, un, un, un, un, un] [(.int ((i0 &&& (2147483647:Int32)) % (10:Int32)))] _
    rw [pin0]
    refine XS.istoreN X0.here hx rfl (hb hby at_7) rfl (l' := #[iv i0, iv i1, iv i2, iv (7:Int32), un, un, un, un, un, un, un, un, un, un, un, un, un, un, un]) rfl ?_
    refine iN X0 hx hby at_8 rfl ?_
    refine st1 _ ?_
    refine XS.astore X1.here hx rfl (hb hby at_12) rfl rfl (l' := #[iv i0, iv i1, iv i2, iv (7:Int32), rv w8, un, un, un, un, un, un, un, un, un, un, un, un, un, un]) rfl ?_
    refine st2 _ ?_
    refine st3 _ ?_
    refine st5 _ ?_
    refine st7 _ ?_
    refine st8 _ ?_
    refine st9 _ ?_
    refine st18 _ ?_
    refine st19 _ ?_
    exact retN X19 hx (t := .boolean) Bd.returns (by simp) (hb hby at_310) hr
  · show lawQ n0 _ T19.heap _
    rw [e19]
    exact ⟨rfl, N19⟩
theorem law_14 (l : Launch) (Z : State) (a0 : Array Value) (hw : HW a0 Z) (ws : List Jvm.Cond) (w0 w1 w2 w3 w4 w5 w6 w7 w8 w9 w10 w11 w12 w13 w14 : Addr) (k_w10 k_w11 k_w13 : ClassId) (wMir : Addr) (B : Base Z w0 w1 w2 w3 w4 w5 w6 w7 w8 w9 w10 w11 w12 w13 w14 k_w10 k_w11 k_w13 wMir) (i0 i1 i2:Int32) (h0 : Heap) (n0 : Nat) (O0 : Old Z n0 h0) (pin0 : ((i0 &&& (2147483647:Int32)) % (10:Int32)) = (7:Int32)) (pin2 : (i2 &&& (1:Int32)) = (0:Int32)) (pin3 : (i2 &&& (2:Int32)) = (2:Int32)) :
    MetFree l x (head1 (Jvm.Cond.code x code maxLocals ret :: ws) room_1) (fun a U => a = #[(.int i0), (.int i1), (.int i2)] ∧ Z.Warmed39 U.vm ∧ U.heap = h0) (fun _ _ _ _ _ => True) (fun _ U o U' => ∃ v L, o = .returned v ∧ lawQ n0 v U'.heap L ∧ ReturnedEndW U o U' L room_1.cells room_1.slots) := by
  refine own_in (pq pn4) #[iv i0, iv i1, iv i2, un, un, un, un, un, un, un, un, un, un, un, un, un, un, un, un] (fun _ => by first | (simp [entryFrame, mkF, argsToLocals, Value.category, maxLocals]; done) | rfl) ?_
  intro p e s m below meth c s₁ Bd hx hby hml hown hnm hZ e0 X0
  have N0 := Fr.nil n0
  skip
  obtain ⟨_, _, _, X1, hQ1, st1⟩ := cS X0 hx hZ hw hown (y := y0) 1 rfl 2 rfl 3 rfl 4 rfl (by decide) (W := 0) (r0_8 hw w8 O0 (B.2.1.2.2.2.2.1)) (by decide) (by decide) e0 (g := (mkF m 9 #[iv i0, iv i1, iv i2, iv (7:Int32), un, un, un, un, un, un, un, un, un, un, un, un, un, un, un] [(.int (7:Int32))])) rfl (by rw [hml]; rfl) (argsL := [(.int (7:Int32))]) (rest := []) (lenOf pd9 rfl) rfl wf (hb hby at_9) rfl (by decide) (by decide)
  obtain ⟨rfl, N1q, e1⟩ := hQ1
  have N1 := Fr.app N0 N1q
  obtain ⟨_, _, X2, e2, N2, st2⟩ := g1_24 i0 i1 i2 (7:Int32) w8 ⟨X1, hx, hZ, hw, hby, hml, hown, e1, O0, N1, by decide, by decide, by decide, by decide⟩ (by decide) (by decide) (by decide)
  obtain ⟨_, h3, _, vm3, b3_0, b3_1, b3_2, b3_3, b3_4, X3, e3, hSq3, N3, K3, _, _, _, _, lo3_5, _, _, _, _, _, _, _, _, nq3_14, _, _, _, _, _, _, _, _, _, f3_24, _, _, f3_27, _, _, _, _, f3_32, f3_33, f3_34, f3_35, st3⟩ := g1_2 i0 i1 i2 (7:Int32) w8 (0:Int32) (1:Int32) w11 w1 w12 ⟨X2, hx, hZ, hw, hby, hml, hown, e2, O0, N2, by decide, by decide, by decide, by decide⟩ (B.2.1.2.2.2.2.2.2.2.2.2.2.1) (B.1.2.2.1) (B.2.2.1.1)
  obtain ⟨Y3, hS3, hZ3, hown3⟩ := rebS (s := s) (vm0 := s.vm) (State.WarmedH.since (State.WarmedH.refl s) 0) (Nat.zero_le _) X3 hSq3 K3.1 hZ hown
  have O_K3 : Old Z n0 h3 := O0.keep K3 all0
  have g4 : n0 ≤ b3_4 := Nat.le_trans (Nat.le_trans (Nat.le_of_eq O0.1.symm) O0.2.1) lo3_5
  obtain ⟨_, h5, _, b5_0, k5_0, X5, e5, N5, K5, _, f5_2, f5_3, f5_4, f5_5, f5_6, f5_7, _, st5⟩ := g1_25 i0 i1 i2 (7:Int32) w8 (0:Int32) (1:Int32) b3_0 b3_1 b3_2 b3_3 b3_4 (0:Int32) w11 k_w11 ⟨Y3, hx, hZ3, hw, hby, hml, hown3, e3, O_K3, N3, by decide, by decide, by decide, by decide⟩ (by decide) (by decide) f3_32 f3_33 g4 f3_34 f3_35 (B.2.2.2.1.2.2.2.2.2.2.2.1) (B.2.1.2.2.2.2.2.2.2.2.2.2.1) f3_24
  have O_K5 : Old Z n0 h5 := O_K3.keep K5 (allS g4 all0)
  obtain ⟨_, h7, _, vm7, b7_0, X7, e7, hSq7, N7, K7, _, f7_2, f7_3, st7⟩ := g1_33 i0 i1 i2 (7:Int32) w8 (0:Int32) (1:Int32) b3_0 b3_1 b3_2 b3_3 b3_4 (0:Int32) ⟨X5, hx, hZ3, hw, hby, hml, hown3, e5, O_K5, N5, by decide, by decide, by decide, by decide⟩ (by decide) pin2 pin3
  obtain ⟨Y7, hS7, hZ7, hown7⟩ := rebS (s := s) (vm0 := vm3) hS3 (Nat.le_trans (Nat.le_refl _) K5.1) X7 hSq7 K7.1 hZ3 hown3
  have O_K7 : Old Z n0 h7 := O_K5.keep K7 all0
  obtain ⟨_, _, X8, e8, N8, st8⟩ := g1_27 i0 i1 i2 (7:Int32) w8 (0:Int32) (1:Int32) b3_0 b3_1 b3_2 b3_3 b3_4 (0:Int32) b7_0 (0:Int32) (1:Int32) ⟨Y7, hx, hZ7, hw, hby, hml, hown7, e7, O_K7, N7, by decide, by decide, by decide, by decide⟩ (by decide) (by decide)
  obtain ⟨_, _, X9, e9, N9, st9⟩ := g1_34 i0 i1 i2 (7:Int32) w8 (0:Int32) (1:Int32) b3_0 b3_1 b3_2 b3_3 b3_4 (0:Int32) b7_0 (1:Int32) ⟨X8, hx, hZ7, hw, hby, hml, hown7, e8, O_K7, N8, by decide, by decide, by decide, by decide⟩ (by decide) (by decide)
  have f10 := (f5_2.keep K7)
  have f11 := (f5_5.keep K7 nin0)
  have f12 := (f5_4.keep K7 nin0)
  have f13 := (f5_7.keep K7)
  have f14 := (f5_6.keep K7 nin0)
  have f15 := ((f3_24.keep K5).keep K7)
  have f16 := (f5_3.keep K7 nin0)
  have f17 := ((f3_27.keep K5 (ninS nq3_14 nin0)).keep K7 nin0)
  obtain ⟨_, h18, _, b18_0, _, X18, e18, N18, K18, _, _, _, _, _, _, _, _, _, _, st18⟩ := g1_29 i0 i1 i2 (7:Int32) w8 (0:Int32) (1:Int32) b3_0 b3_1 b3_2 b3_3 b3_4 (0:Int32) b7_0 (0:Int32) b5_0 wMir k5_0 b3_2 w14 w2 w3 w12 ⟨X9, hx, hZ7, hw, hby, hml, hown7, e9, O_K7, N9, by decide, by decide, by decide, by decide⟩ f10 f11 f12 f13 (B.2.2.2.2.2.2.2.2.2.2.2.2.2.2.2) f14 f15 (B.2.2.1.2.2.2.2.1) f7_2 f7_3 f16 f17 (B.1.2.2.2.2.1) (Ne.symm B.2.2.2.2.2.2.1.2.2.2.2.2.1) (B.1.2.2.2.2.2.2.1) (Ne.symm B.2.2.2.2.2.2.2.1.2.2.2.2.1) (B.2.2.1.1)
  have O_K18 : Old Z n0 h18 := O_K7.keep K18 all0
  obtain ⟨T19, _, X19, e19, N19, st19⟩ := g1_30 i0 i1 i2 (7:Int32) w8 (0:Int32) (1:Int32) b3_0 b3_1 b3_2 b3_3 b3_4 (0:Int32) b7_0 (0:Int32) b18_0 w12 w13 k_w13 ⟨X18, hx, hZ7, hw, hby, hml, hown7, e18, O_K18, N18, by decide, by decide, by decide, by decide⟩ (by decide) (B.2.2.1.2.1) (B.2.2.1.2.2.1) (B.2.2.2.1.2.2.2.2.2.2.2.2.1)
  obtain ⟨_, hr, hrun, hended, hE⟩ := Stand.leaveW (s := s) (vm₁ := vm7) X19 hS7 (by rw [e19]; exact (Nat.le_trans (Nat.le_refl _) K18.1)) (v := some (.int (1:Int32))) (fun h => by rw [Bd.returns] at h; cases h)
  refine ⟨_, _, ?_, hrun, hended, _, _, rfl, ?_, hE.1, hE.2.1, hE.2.2.1, hE.2.2.2.mono (by decide) (by decide)⟩
  · show St p e below s₁ m 0 #[iv i0, iv i1, iv i2, un, un, un, un, un, un, un, un, un, un, un, un, un, un, un, un] [] _
    refine iN X0 hx hby at_0 rfl ?_
    refine X0.ldcInt hx hown (mo hZ hw 0 rfl) (g := (mkF m 1 #[iv i0, iv i1, iv i2, un, un, un, un, un, un, un, un, un, un, un, un, un, un, un, un] [(.int i0)])) rfl (hb hby at_1) _ ?_
    refine XS.iand X0.here hx rfl (hb hby at_3) rfl ?_
    refine XS.bipush X0.here hx rfl (hb hby at_4) ?_
    refine Jvm.RoadKit.iremM (g := (mkF m 6 #[iv i0, iv i1, iv i2, un, un, un, un, un, un, un, un, un, un, un, un, un, un, un, un] [(.int (10:Int32)), (.int (i0 &&& (2147483647:Int32)))])) X0 hx rfl (hb hby at_6) rfl (by decide : ¬ ((10:Int32) = (0:Int32))) ?_
    show St p e below s₁ m 7 #[iv i0, iv i1, iv i2, un, un, un, un, un, un, un, un, un, un, un, un, un, un, un, un] [(.int ((i0 &&& (2147483647:Int32)) % (10:Int32)))] _
    rw [pin0]
    refine XS.istoreN X0.here hx rfl (hb hby at_7) rfl (l' := #[iv i0, iv i1, iv i2, iv (7:Int32), un, un, un, un, un, un, un, un, un, un, un, un, un, un, un]) rfl ?_
    refine iN X0 hx hby at_8 rfl ?_
    refine st1 _ ?_
    refine XS.astore X1.here hx rfl (hb hby at_12) rfl rfl (l' := #[iv i0, iv i1, iv i2, iv (7:Int32), rv w8, un, un, un, un, un, un, un, un, un, un, un, un, un, un]) rfl ?_
    refine st2 _ ?_
    refine st3 _ ?_
    refine st5 _ ?_
    refine st7 _ ?_
    refine st8 _ ?_
    refine st9 _ ?_
    refine st18 _ ?_
    refine st19 _ ?_
    exact retN X19 hx (t := .boolean) Bd.returns (by simp) (hb hby at_310) hr
  · show lawQ n0 _ T19.heap _
    rw [e19]
    exact ⟨rfl, N19⟩
theorem d0_73 : dk method_2_code 73 (.iload_n 0) 1 := by decide +kernel
theorem d0_74 : dk method_2_code 74 (.bipush 8) 2 := by decide +kernel
theorem d0_76 : dk method_2_code 76 (.if_icmp .ne 7) 3 := by decide +kernel
theorem d0_79 : dk method_2_code 79 (.getstatic 34) 3 := by decide +kernel
theorem d0_82 : dk method_2_code 82 .areturn 1 := by decide +kernel
def r0_9Q (Z : State) (a1 : Addr) (h0 : Heap) (n0 : Nat) : QT := fun v h L => v = some (.ref a1) ∧ Fr n0 L ∧ h = h0
theorem r0_9 (hw : HW a0 Z) (a1 : Addr) (O0 : Old Z n0 h0) (H2 : Sta Z Z.heap "tabula/engine/Concept$Kind" "AT_LEAST" "Ltabula/engine/Concept$Kind;" (.ref a1)) :
    MF l y0 method_2_code 1 (some (.object "tabula/engine/Concept$Kind")) [] (rM 0 0 0 0) Z #[(.int (8:Int32))] h0 (r0_9Q Z a1 h0 n0) := by
  refine own_in (pq pn4) #[iv (8:Int32)] (fun _ => by first | (simp [entryFrame, mkF, argsToLocals, Value.category]; done) | rfl) ?_
  intro p e s m below meth c s₁ Bd hx hby hml hown hnm hZ e0 X0
  have N0 := Fr.nil n0
  obtain ⟨_, X3, e3, st3⟩ := getS2 X0 hx hZ hown (host := "") (Or.inl (ow hw 286 rfl)) Via.refl e0 (H2.ext O0.2) (g := (mkF m 79 #[iv (8:Int32)] [])) rfl (hb hby d0_79)
  refine fin (Q := r0_9Q Z a1 h0 n0) (rm := (rM 0 0 0 0)) Bd X3 e3 (some (.ref a1)) nofun ⟨rfl, N0, rfl⟩ (by decide) (by decide) fun fs hr => ?_
  show St p e below s₁ m 0 #[iv (8:Int32)] [] _
  refine iN X0 hx hby d0_0 rfl ?_
  refine XS.ifYes X0.here hx rfl (pc0 := 1) (pc' := 8) rfl (hb hby d0_1) rfl ((if0 _ _).trans (feq (by decide : ¬ ((8:Int32) = (0:Int32)))).2) (by decide) (by decide) ?_
  refine iN X0 hx hby d0_8 rfl ?_
  refine iC X0 hx hby d0_9 ?_
  refine XS.icmpYes X0.here hx rfl (pc0 := 10) (pc' := 17) rfl (hb hby d0_10) rfl (feq (by decide : ¬ ((8:Int32) = (1:Int32)))).2 (by decide) (by decide) ?_
  refine iN X0 hx hby d0_17 rfl ?_
  refine iC X0 hx hby d0_18 ?_
  refine XS.icmpYes X0.here hx rfl (pc0 := 19) (pc' := 26) rfl (hb hby d0_19) rfl (feq (by decide : ¬ ((8:Int32) = (2:Int32)))).2 (by decide) (by decide) ?_
  refine iN X0 hx hby d0_26 rfl ?_
  refine iC X0 hx hby d0_27 ?_
  refine XS.icmpYes X0.here hx rfl (pc0 := 28) (pc' := 35) rfl (hb hby d0_28) rfl (feq (by decide : ¬ ((8:Int32) = (3:Int32)))).2 (by decide) (by decide) ?_
  refine iN X0 hx hby d0_35 rfl ?_
  refine iC X0 hx hby d0_36 ?_
  refine XS.icmpYes X0.here hx rfl (pc0 := 37) (pc' := 44) rfl (hb hby d0_37) rfl (feq (by decide : ¬ ((8:Int32) = (4:Int32)))).2 (by decide) (by decide) ?_
  refine iN X0 hx hby d0_44 rfl ?_
  refine iC X0 hx hby d0_45 ?_
  refine XS.icmpYes X0.here hx rfl (pc0 := 46) (pc' := 53) rfl (hb hby d0_46) rfl (feq (by decide : ¬ ((8:Int32) = (5:Int32)))).2 (by decide) (by decide) ?_
  refine iN X0 hx hby d0_53 rfl ?_
  refine XS.bipush X0.here hx rfl (hb hby d0_54) ?_
  refine XS.icmpYes X0.here hx rfl (pc0 := 56) (pc' := 63) rfl (hb hby d0_56) rfl (feq (by decide : ¬ ((8:Int32) = (6:Int32)))).2 (by decide) (by decide) ?_
  refine iN X0 hx hby d0_63 rfl ?_
  refine XS.bipush X0.here hx rfl (hb hby d0_64) ?_
  refine XS.icmpYes X0.here hx rfl (pc0 := 66) (pc' := 73) rfl (hb hby d0_66) rfl (feq (by decide : ¬ ((8:Int32) = (7:Int32)))).2 (by decide) (by decide) ?_
  refine iN X0 hx hby d0_73 rfl ?_
  refine XS.bipush X0.here hx rfl (hb hby d0_74) ?_
  show St p e below s₁ m 76 #[iv (8:Int32)] [(.int (8:Int32)), (.int (8:Int32))] _
  refine XS.icmpNo X0.here hx rfl (hb hby d0_76) rfl (teq (rfl : (8:Int32) = (8:Int32))).2 ?_
  refine st3 _ ?_
  exact retA X3 hx Bd.returns rfl rfl (hb hby d0_82) hr
theorem d16_22 : dk method_3_code 22 (.iconst 2) 1 := by decide +kernel
theorem d16_23 : dk method_3_code 23 (.iload_n 1) 1 := by decide +kernel
theorem d16_24 : dk method_3_code 24 (.iconst 3) 1 := by decide +kernel
theorem d16_25 : dk method_3_code 25 .iand 1 := by decide +kernel
theorem d16_26 : dk method_3_code 26 .iadd 1 := by decide +kernel
theorem d16_27 : dk method_3_code 27 .ireturn 1 := by decide +kernel
def r16_4Q (Z : State) (p1 p2:Int32) (h0 : Heap) (n0 : Nat) : QT := fun v h L => v = some (.int ((2:Int32) + (p2 &&& (3:Int32)))) ∧ Fr n0 L ∧ h = h0
theorem r16_4 (hw : HW a0 Z) (p1 p2:Int32) (O0 : Old Z n0 h0) (hc3 : ¬ (p1 = (6:Int32))) (hc4 : ¬ (p1 = (7:Int32))) (hc5 : p1 = (8:Int32)) :
    MF l y16 method_3_code 2 (some .int) [] (rM 0 0 0 0) Z #[(.int p1), (.int p2)] h0 (r16_4Q Z p1 p2 h0 n0) := by
  refine own_in (pq pn4) #[iv p1, iv p2] (fun _ => by first | (simp [entryFrame, mkF, argsToLocals, Value.category]; done) | rfl) ?_
  intro p e s m below meth c s₁ Bd hx hby hml hown hnm hZ e0 X0
  have N0 := Fr.nil n0
  refine fin (Q := r16_4Q Z p1 p2 h0 n0) (rm := (rM 0 0 0 0)) Bd X0 e0 (some (.int ((2:Int32) + (p2 &&& (3:Int32))))) nofun ⟨rfl, N0, rfl⟩ (by decide) (by decide) fun fs hr => ?_
  show St p e below s₁ m 0 #[iv p1, iv p2] [] _
  refine iN X0 hx hby d16_0 rfl ?_
  refine XS.bipush X0.here hx rfl (hb hby d16_1) ?_
  refine XS.icmpYes X0.here hx rfl (pc0 := 3) (pc' := 8) rfl (hb hby d16_3) rfl (feq hc3).2 (by decide) (by decide) ?_
  refine iN X0 hx hby d16_8 rfl ?_
  refine XS.bipush X0.here hx rfl (hb hby d16_9) ?_
  refine XS.icmpYes X0.here hx rfl (pc0 := 11) (pc' := 16) rfl (hb hby d16_11) rfl (feq hc4).2 (by decide) (by decide) ?_
  refine iN X0 hx hby d16_16 rfl ?_
  refine XS.bipush X0.here hx rfl (hb hby d16_17) ?_
  refine XS.icmpNo X0.here hx rfl (hb hby d16_19) rfl (teq hc5).2 ?_
  refine iC X0 hx hby d16_22 ?_
  refine iN X0 hx hby d16_23 rfl ?_
  refine iC X0 hx hby d16_24 ?_
  refine XS.iand X0.here hx rfl (hb hby d16_25) rfl ?_
  refine XS.iadd X0.here hx rfl (hb hby d16_26) rfl ?_
  exact retI X0 hx Bd.returns (hb hby d16_27) hr
theorem g1_36 (p1 p2 p3 p4:Int32) (a5 : Addr) (p6 p7:Int32) (a8 a9 a10 a11 a12 : Addr) (p13:Int32) (a14 : Addr) (p15:Int32)
    (H0 : SG p l e R s m args below meth c T0 locs cells slots Z a0 h0 n0 0 0 1 13) (hc16 : ¬ (p4 = (6:Int32))) (hc17 : ¬ (p4 = (7:Int32))) (hc18 : p4 = (8:Int32)) :
    ∃ (T' : State) (L' : List Loc), Stand p l e R s m args below meth c T' L' (cells + 0) (slots + 0) ∧ T'.heap = h0 ∧ Fr n0 L' ∧
      ∀ target, St p e below T' m 271 #[iv p1, iv p2, iv p3, iv p4, rv a5, iv p6, iv p7, rv a8, rv a9, rv a10, rv a11, rv a12, iv p13, rv a14, .val .null, iv ((2:Int32) + (p2 &&& (3:Int32))), un, un, un] [] target → St p e below T0 m 264 #[iv p1, iv p2, iv p3, iv p4, rv a5, iv p6, iv p7, rv a8, rv a9, rv a10, rv a11, rv a12, iv p13, rv a14, .val .null, iv p15, un, un, un] [] target := by
  obtain ⟨X0, hx, hZ, hw, hby, hml, hown, e0, O0, N0, rc, rs, rf, rl⟩ := H0
  obtain ⟨T19, _, _, X19, hQ19, st19⟩ := cS X0 hx hZ hw hown (y := y16) 133 rfl 134 rfl 3 rfl 135 rfl (by decide) (W := 0) (r16_4 hw p4 p2 O0 hc16 hc17 hc18) (by show 0 + 1 ≤ R.frames; omega) (by show 0 + (2 + 11) + 0 ≤ R.locals; omega) e0 (g := (mkF m 266 #[iv p1, iv p2, iv p3, iv p4, rv a5, iv p6, iv p7, rv a8, rv a9, rv a10, rv a11, rv a12, iv p13, rv a14, .val .null, iv p15, un, un, un] [(.int p2), (.int p4)])) rfl (by rw [hml]; rfl) (argsL := [(.int p4), (.int p2)]) (rest := []) (lenOf pd21 rfl) rfl wf (hb hby at_266) rfl (by show cells + 0 + 0 ≤ R.cells; omega) (by show slots + 0 + 0 ≤ R.slots; omega)
  obtain ⟨rfl, N19q, e19⟩ := hQ19
  have N19 := Fr.app N0 N19q
  replace X19 : Stand p l e R _ m args below meth c T19 _ (cells + 0) (slots + 0) := X19
  refine ⟨T19, _, X19.more (by omega) (by omega), e19, N19, fun target kt => ?_⟩
  show St p e below T0 m 264 #[iv p1, iv p2, iv p3, iv p4, rv a5, iv p6, iv p7, rv a8, rv a9, rv a10, rv a11, rv a12, iv p13, rv a14, .val .null, iv p15, un, un, un] [] _
  refine iN X0 hx hby at_264 rfl ?_
  refine iN X0 hx hby at_265 rfl ?_
  refine st19 _ ?_
  refine XS.istore X19.here hx rfl (hb hby at_269) rfl (l' := #[iv p1, iv p2, iv p3, iv p4, rv a5, iv p6, iv p7, rv a8, rv a9, rv a10, rv a11, rv a12, iv p13, rv a14, .val .null, iv ((2:Int32) + (p2 &&& (3:Int32))), un, un, un]) rfl ?_
  exact kt
theorem law_15 (l : Launch) (Z : State) (a0 : Array Value) (hw : HW a0 Z) (ws : List Jvm.Cond) (w0 w1 w2 w3 w4 w5 w6 w7 w8 w9 w10 w11 w12 w13 w14 : Addr) (k_w10 k_w11 k_w13 : ClassId) (wMir : Addr) (B : Base Z w0 w1 w2 w3 w4 w5 w6 w7 w8 w9 w10 w11 w12 w13 w14 k_w10 k_w11 k_w13 wMir) (i0 i1 i2:Int32) (h0 : Heap) (n0 : Nat) (O0 : Old Z n0 h0) (pin0 : ((i0 &&& (2147483647:Int32)) % (10:Int32)) = (8:Int32)) (pin2 : (i2 &&& (1:Int32)) = (0:Int32)) (pin3 : (i2 &&& (2:Int32)) = (0:Int32)) :
    MetFree l x (head1 (Jvm.Cond.code x code maxLocals ret :: ws) room_1) (fun a U => a = #[(.int i0), (.int i1), (.int i2)] ∧ Z.Warmed39 U.vm ∧ U.heap = h0) (fun _ _ _ _ _ => True) (fun _ U o U' => ∃ v L, o = .returned v ∧ lawQ n0 v U'.heap L ∧ ReturnedEndW U o U' L room_1.cells room_1.slots) := by
  refine own_in (pq pn4) #[iv i0, iv i1, iv i2, un, un, un, un, un, un, un, un, un, un, un, un, un, un, un, un] (fun _ => by first | (simp [entryFrame, mkF, argsToLocals, Value.category, maxLocals]; done) | rfl) ?_
  intro p e s m below meth c s₁ Bd hx hby hml hown hnm hZ e0 X0
  have N0 := Fr.nil n0
  skip
  obtain ⟨_, _, _, X1, hQ1, st1⟩ := cS X0 hx hZ hw hown (y := y0) 1 rfl 2 rfl 3 rfl 4 rfl (by decide) (W := 0) (r0_9 hw w5 O0 (B.1.2.2.2.2.2.2.2.2.2.2.1)) (by decide) (by decide) e0 (g := (mkF m 9 #[iv i0, iv i1, iv i2, iv (8:Int32), un, un, un, un, un, un, un, un, un, un, un, un, un, un, un] [(.int (8:Int32))])) rfl (by rw [hml]; rfl) (argsL := [(.int (8:Int32))]) (rest := []) (lenOf pd9 rfl) rfl wf (hb hby at_9) rfl (by decide) (by decide)
  obtain ⟨rfl, N1q, e1⟩ := hQ1
  have N1 := Fr.app N0 N1q
  obtain ⟨_, _, X2, e2, N2, st2⟩ := g1_24 i0 i1 i2 (8:Int32) w5 ⟨X1, hx, hZ, hw, hby, hml, hown, e1, O0, N1, by decide, by decide, by decide, by decide⟩ (by decide) (by decide) (by decide)
  obtain ⟨_, h3, _, vm3, b3_0, b3_1, b3_2, b3_3, b3_4, X3, e3, hSq3, N3, K3, _, _, _, _, lo3_5, _, _, _, _, _, _, _, _, nq3_14, _, _, _, _, _, _, _, _, _, f3_24, _, _, f3_27, _, _, _, _, f3_32, f3_33, f3_34, f3_35, st3⟩ := g1_2 i0 i1 i2 (8:Int32) w5 (0:Int32) (1:Int32) w11 w1 w12 ⟨X2, hx, hZ, hw, hby, hml, hown, e2, O0, N2, by decide, by decide, by decide, by decide⟩ (B.2.1.2.2.2.2.2.2.2.2.2.2.1) (B.1.2.2.1) (B.2.2.1.1)
  obtain ⟨Y3, hS3, hZ3, hown3⟩ := rebS (s := s) (vm0 := s.vm) (State.WarmedH.since (State.WarmedH.refl s) 0) (Nat.zero_le _) X3 hSq3 K3.1 hZ hown
  have O_K3 : Old Z n0 h3 := O0.keep K3 all0
  have g4 : n0 ≤ b3_4 := Nat.le_trans (Nat.le_trans (Nat.le_of_eq O0.1.symm) O0.2.1) lo3_5
  obtain ⟨_, h5, _, b5_0, k5_0, X5, e5, N5, K5, _, f5_2, f5_3, f5_4, f5_5, f5_6, f5_7, _, st5⟩ := g1_25 i0 i1 i2 (8:Int32) w5 (0:Int32) (1:Int32) b3_0 b3_1 b3_2 b3_3 b3_4 (0:Int32) w11 k_w11 ⟨Y3, hx, hZ3, hw, hby, hml, hown3, e3, O_K3, N3, by decide, by decide, by decide, by decide⟩ (by decide) (by decide) f3_32 f3_33 g4 f3_34 f3_35 (B.2.2.2.1.2.2.2.2.2.2.2.1) (B.2.1.2.2.2.2.2.2.2.2.2.2.1) f3_24
  have O_K5 : Old Z n0 h5 := O_K3.keep K5 (allS g4 all0)
  obtain ⟨_, h7, _, vm7, b7_0, X7, e7, hSq7, N7, K7, _, f7_2, f7_3, st7⟩ := g1_26 i0 i1 i2 (8:Int32) w5 (0:Int32) (1:Int32) b3_0 b3_1 b3_2 b3_3 b3_4 (0:Int32) ⟨X5, hx, hZ3, hw, hby, hml, hown3, e5, O_K5, N5, by decide, by decide, by decide, by decide⟩ (by decide) pin2 pin3
  obtain ⟨Y7, hS7, hZ7, hown7⟩ := rebS (s := s) (vm0 := vm3) hS3 (Nat.le_trans (Nat.le_refl _) K5.1) X7 hSq7 K7.1 hZ3 hown3
  have O_K7 : Old Z n0 h7 := O_K5.keep K7 all0
  obtain ⟨_, _, X8, e8, N8, st8⟩ := g1_27 i0 i1 i2 (8:Int32) w5 (0:Int32) (1:Int32) b3_0 b3_1 b3_2 b3_3 b3_4 (0:Int32) b7_0 (0:Int32) (0:Int32) ⟨Y7, hx, hZ7, hw, hby, hml, hown7, e7, O_K7, N7, by decide, by decide, by decide, by decide⟩ (by decide) (by decide)
  obtain ⟨_, _, X9, e9, N9, st9⟩ := g1_36 i0 i1 i2 (8:Int32) w5 (0:Int32) (1:Int32) b3_0 b3_1 b3_2 b3_3 b3_4 (0:Int32) b7_0 (0:Int32) ⟨X8, hx, hZ7, hw, hby, hml, hown7, e8, O_K7, N8, by decide, by decide, by decide, by decide⟩ (by decide) (by decide) (by decide)
  have f10 := (f5_2.keep K7)
  have f11 := (f5_5.keep K7 nin0)
  have f12 := (f5_4.keep K7 nin0)
  have f13 := (f5_7.keep K7)
  have f14 := (f5_6.keep K7 nin0)
  have f15 := ((f3_24.keep K5).keep K7)
  have f16 := (f5_3.keep K7 nin0)
  have f17 := ((f3_27.keep K5 (ninS nq3_14 nin0)).keep K7 nin0)
  obtain ⟨_, h18, _, b18_0, _, X18, e18, N18, K18, _, _, _, _, _, _, _, _, _, _, st18⟩ := g1_29 i0 i1 i2 (8:Int32) w5 (0:Int32) (1:Int32) b3_0 b3_1 b3_2 b3_3 b3_4 (0:Int32) b7_0 ((2:Int32) + (i1 &&& (3:Int32))) b5_0 wMir k5_0 b3_2 w14 w2 w3 w12 ⟨X9, hx, hZ7, hw, hby, hml, hown7, e9, O_K7, N9, by decide, by decide, by decide, by decide⟩ f10 f11 f12 f13 (B.2.2.2.2.2.2.2.2.2.2.2.2.2.2.2) f14 f15 (B.2.2.1.2.2.2.2.1) f7_2 f7_3 f16 f17 (B.1.2.2.2.2.1) (Ne.symm B.2.2.2.2.2.2.1.2.2.1) (B.1.2.2.2.2.2.2.1) (Ne.symm B.2.2.2.2.2.2.2.1.2.1) (B.2.2.1.1)
  have O_K18 : Old Z n0 h18 := O_K7.keep K18 all0
  obtain ⟨T19, _, X19, e19, N19, st19⟩ := g1_30 i0 i1 i2 (8:Int32) w5 (0:Int32) (1:Int32) b3_0 b3_1 b3_2 b3_3 b3_4 (0:Int32) b7_0 ((2:Int32) + (i1 &&& (3:Int32))) b18_0 w12 w13 k_w13 ⟨X18, hx, hZ7, hw, hby, hml, hown7, e18, O_K18, N18, by decide, by decide, by decide, by decide⟩ (by decide) (B.2.2.1.2.1) (B.2.2.1.2.2.1) (B.2.2.2.1.2.2.2.2.2.2.2.2.1)
  obtain ⟨_, hr, hrun, hended, hE⟩ := Stand.leaveW (s := s) (vm₁ := vm7) X19 hS7 (by rw [e19]; exact (Nat.le_trans (Nat.le_refl _) K18.1)) (v := some (.int (1:Int32))) (fun h => by rw [Bd.returns] at h; cases h)
  refine ⟨_, _, ?_, hrun, hended, _, _, rfl, ?_, hE.1, hE.2.1, hE.2.2.1, hE.2.2.2.mono (by decide) (by decide)⟩
  · show St p e below s₁ m 0 #[iv i0, iv i1, iv i2, un, un, un, un, un, un, un, un, un, un, un, un, un, un, un, un] [] _
    refine iN X0 hx hby at_0 rfl ?_
    refine X0.ldcInt hx hown (mo hZ hw 0 rfl) (g := (mkF m 1 #[iv i0, iv i1, iv i2, un, un, un, un, un, un, un, un, un, un, un, un, un, un, un, un] [(.int i0)])) rfl (hb hby at_1) _ ?_
    refine XS.iand X0.here hx rfl (hb hby at_3) rfl ?_
    refine XS.bipush X0.here hx rfl (hb hby at_4) ?_
    refine Jvm.RoadKit.iremM (g := (mkF m 6 #[iv i0, iv i1, iv i2, un, un, un, un, un, un, un, un, un, un, un, un, un, un, un, un] [(.int (10:Int32)), (.int (i0 &&& (2147483647:Int32)))])) X0 hx rfl (hb hby at_6) rfl (by decide : ¬ ((10:Int32) = (0:Int32))) ?_
    show St p e below s₁ m 7 #[iv i0, iv i1, iv i2, un, un, un, un, un, un, un, un, un, un, un, un, un, un, un, un] [(.int ((i0 &&& (2147483647:Int32)) % (10:Int32)))] _
    rw [pin0]
    refine XS.istoreN X0.here hx rfl (hb hby at_7) rfl (l' := #[iv i0, iv i1, iv i2, iv (8:Int32), un, un, un, un, un, un, un, un, un, un, un, un, un, un, un]) rfl ?_
    refine iN X0 hx hby at_8 rfl ?_
    refine st1 _ ?_
    refine XS.astore X1.here hx rfl (hb hby at_12) rfl rfl (l' := #[iv i0, iv i1, iv i2, iv (8:Int32), rv w5, un, un, un, un, un, un, un, un, un, un, un, un, un, un]) rfl ?_
    refine st2 _ ?_
    refine st3 _ ?_
    refine st5 _ ?_
    refine st7 _ ?_
    refine st8 _ ?_
    refine st9 _ ?_
    refine st18 _ ?_
    refine st19 _ ?_
    exact retN X19 hx (t := .boolean) Bd.returns (by simp) (hb hby at_310) hr
  · show lawQ n0 _ T19.heap _
    rw [e19]
    exact ⟨rfl, N19⟩
theorem g1_37 (p1 p2 p3 p4:Int32) (a5 : Addr) (p6 p7:Int32) (a8 a9 a10 a11 a12 : Addr) (p13:Int32)
    (H0 : SG p l e R s m args below meth c T0 locs cells slots Z a0 h0 n0 5 31 3 40) (hc14 : ¬ (p7 = (0:Int32))) (pin15 : (p3 &&& (1:Int32)) = (1:Int32)) (hc16 : ¬ (p4 = (6:Int32))) (hc17 : ¬ (p4 = (7:Int32))) (pin18 : (p3 &&& (2:Int32)) = (0:Int32)) :
    ∃ (T' : State) (h' : Heap) (L' : List Loc) (vm' : Vm) (b19 : Addr), Stand p l e R (s.setVm vm') m args below meth c T' L' (cells + 5) (slots + 31) ∧ T'.heap = h' ∧ s.Since vm' h'.size ∧ Fr n0 L' ∧ Keep h0 h' [] ∧ h0.size ≤ b19 ∧ xE26 Z h' b19 ∧ xF27 Z h' b19 (.int (0:Int32)) ∧
      ∀ target, St p e below T' m 246 #[iv p1, iv p2, iv p3, iv p4, rv a5, iv p6, iv p7, rv a8, rv a9, rv a10, rv a11, rv a12, iv p13, rv b19, iv (0:Int32), iv (0:Int32), un, un, un] [] target → St p e below T0 m 180 #[iv p1, iv p2, iv p3, iv p4, rv a5, iv p6, iv p7, rv a8, rv a9, rv a10, rv a11, rv a12, iv p13, un, un, un, un, un, un] [] target := by
  obtain ⟨X0, hx, hZ, hw, hby, hml, hown, e0, O0, N0, rc, rs, rf, rl⟩ := H0
  obtain ⟨T19, h19, X19, e19, E19, A19, D19, -, st19⟩ := newO X0 hx hZ hown (ow hw 288 rfl) (ow hw 289 rfl) (ow hw 290 rfl) e0 (g := (mkF m 231 #[iv p1, iv p2, iv p3, iv p4, rv a5, iv p6, iv p7, rv a8, rv a9, rv a10, rv a11, rv a12, iv p13, .val .null, iv (0:Int32), iv (0:Int32), un, un, un] [])) rfl (hb hby at_231) (by omega) (by omega)
  obtain ⟨b19, g19⟩ : ∃ z, z = h0.size := ⟨_, rfl⟩
  rw [← g19] at A19 D19 st19
  have O_E19 : Old Z n0 h19 := O0.ext E19
  have Kp_E19 : Keep h0 h19 [] := (Keep.refl h0 []).ext E19
  obtain ⟨a20, T20, h20, _, X20, e20, E20, hS20, hk20, hZ20, hown20, st20⟩ := ldcS (s := s) (vm0 := s.vm) X19 hx hZ (own := "tabula/engine/ConceptOperandsPinLaw") hown (ow hw 291 rfl) (fun d hd => hw d (strW d hd)) e19 (State.WarmedH.since (State.WarmedH.refl s) 0) (Nat.zero_le _) (g := (mkF m 235 #[iv p1, iv p2, iv p3, iv p4, rv a5, iv p6, iv p7, rv a8, rv a9, rv a10, rv a11, rv a12, iv p13, .val .null, iv (0:Int32), iv (0:Int32), un, un, un] [(.ref b19), (.ref b19)])) rfl (hb hby at_235) (n := 4) (by decide) (by decide) (by omega) (by omega)
  have O_E20 : Old Z n0 h20 := O_E19.ext E20
  have Kp_E20 : Keep h0 h20 [] := Kp_E19.ext E20
  have f21 : xF25 Z h19 b19 .null := D19 (Or.inr (ow hw 306 rfl)) (ty := (.object "java/lang/String")) (by decide)
  have f22 := (f21.ext E20)
  have f23 := (A19.ext E20)
  have g24 : n0 ≤ b19 := Nat.le_trans (Nat.le_trans (Nat.le_of_eq O0.1.symm) O0.2.1) (Nat.le_of_eq g19.symm)
  have f25 : xF27 Z h19 b19 (.int (0:Int32)) := D19 (Or.inr (ow hw 308 rfl)) (ty := .boolean) (by decide)
  have f26 := (f25.ext E20)
  have f27 : xF28 Z h19 b19 (.int (0:Int32)) := D19 (Or.inr (ow hw 310 rfl)) (ty := .boolean) (by decide)
  have f28 := (f27.ext E20)
  obtain ⟨T29, _, _, X29, hSq29, hg29, hQ29, st29⟩ := flS X20 (X20.specialBackS hx (y := y46) rfl hown20 (mo hZ20 hw 292 rfl) (mo hZ20 hw 293 rfl) (mo hZ20 hw 294 rfl) (by decide) (backOfS (W := 1) (r46_1 hw b19 a20 O_E20 f22 f23 g24 f26 f28) hZ20 (ow hw 294 rfl) (ow hw 290 rfl) (by show 2 + 1 ≤ R.frames; omega) (by show 1 + (4 + 11) + 24 ≤ R.locals; omega)) (g := (mkF m 241 #[iv p1, iv p2, iv p3, iv p4, rv a5, iv p6, iv p7, rv a8, rv a9, rv a10, rv a11, rv a12, iv p13, .val .null, iv (0:Int32), iv (0:Int32), un, un, un] [(.int (0:Int32)), (.int (0:Int32)), (.ref a20), (.ref b19), (.ref b19)])) rfl (by rw [hml]; rfl) (Steps.refl _) (a := b19) (argsL := [(.ref a20), (.int (0:Int32)), (.int (0:Int32))]) (rest := [(.ref b19)]) (lenOf pd12 rfl) rfl wf (hb hby at_241) (fun _ _ => ⟨rfl, e20, (by show cells + 3 + 2 ≤ R.cells; omega), (by show slots + 11 + 20 ≤ R.slots; omega)⟩))
  obtain ⟨Y29, hS29, _, _⟩ := rebS (s := s) (vm0 := T20.vm) hS20 (by rw [e20]; exact hk20) X29 hSq29 hg29 hZ20 hown20
  obtain ⟨rfl, N29q, K29, f29_1, f29_2⟩ := hQ29
  have N29 := Fr.app N0 N29q
  have z30 : h0.size ≤ b19 := Nat.le_trans (Keep.refl h0 []).1 (Nat.le_of_eq g19.symm)
  have Kp_K29 : Keep h0 T29.heap [] := Kp_E20.trans K29 (allS (Or.inr z30) all0)
  replace Y29 : Stand p l e R _ m args below meth c T29 _ (cells + 5) (slots + 31) := Y29
  refine ⟨T29, _, _, T29.vm, b19, Y29.more (by omega) (by omega), rfl, own_since hS29 (Nat.le_refl _), N29, Kp_K29, z30, f29_1, f29_2, fun target kt => ?_⟩
  show St p e below T0 m 180 #[iv p1, iv p2, iv p3, iv p4, rv a5, iv p6, iv p7, rv a8, rv a9, rv a10, rv a11, rv a12, iv p13, un, un, un, un, un, un] [] _
  refine XS.aconstNull X0.here hx rfl (hb hby at_180) ?_
  refine XS.astore X0.here hx rfl (hb hby at_181) rfl rfl (l' := #[iv p1, iv p2, iv p3, iv p4, rv a5, iv p6, iv p7, rv a8, rv a9, rv a10, rv a11, rv a12, iv p13, .val .null, un, un, un, un, un]) rfl ?_
  refine iL X0 hx hby at_183 rfl ?_
  refine XS.ifNo X0.here hx rfl (hb hby at_185) rfl ((if0 _ _).trans (feq hc14).1) ?_
  refine iN X0 hx hby at_188 rfl ?_
  refine iC X0 hx hby at_189 ?_
  refine XS.iand X0.here hx rfl (hb hby at_190) rfl ?_
  show St p e below T0 m 191 #[iv p1, iv p2, iv p3, iv p4, rv a5, iv p6, iv p7, rv a8, rv a9, rv a10, rv a11, rv a12, iv p13, .val .null, un, un, un, un, un] [(.int (p3 &&& (1:Int32)))] _
  rw [pin15]
  refine XS.ifNo X0.here hx rfl (hb hby at_191) rfl ((if0 _ _).trans (feq (by decide : ¬ ((1:Int32) = (0:Int32)))).1) ?_
  refine iN X0 hx hby at_194 rfl ?_
  refine XS.bipush X0.here hx rfl (hb hby at_195) ?_
  refine XS.icmpNo X0.here hx rfl (hb hby at_197) rfl (feq hc16).1 ?_
  refine iN X0 hx hby at_200 rfl ?_
  refine XS.bipush X0.here hx rfl (hb hby at_201) ?_
  refine XS.icmpYes X0.here hx rfl (pc0 := 203) (pc' := 210) rfl (hb hby at_203) rfl (feq hc17).2 (by decide) (by decide) ?_
  refine iC X0 hx hby at_210 ?_
  refine XS.istore X0.here hx rfl (hb hby at_211) rfl (l' := #[iv p1, iv p2, iv p3, iv p4, rv a5, iv p6, iv p7, rv a8, rv a9, rv a10, rv a11, rv a12, iv p13, .val .null, iv (0:Int32), un, un, un, un]) rfl ?_
  refine iL X0 hx hby at_213 rfl ?_
  refine XS.ifNo X0.here hx rfl (hb hby at_215) rfl ((if0 _ _).trans (teq (rfl : (0:Int32) = (0:Int32))).2) ?_
  refine iN X0 hx hby at_218 rfl ?_
  refine iC X0 hx hby at_219 ?_
  refine XS.iand X0.here hx rfl (hb hby at_220) rfl ?_
  show St p e below T0 m 221 #[iv p1, iv p2, iv p3, iv p4, rv a5, iv p6, iv p7, rv a8, rv a9, rv a10, rv a11, rv a12, iv p13, .val .null, iv (0:Int32), un, un, un, un] [(.int (p3 &&& (2:Int32)))] _
  rw [pin18]
  refine XS.ifYes X0.here hx rfl (pc0 := 221) (pc' := 228) rfl (hb hby at_221) rfl ((if0 _ _).trans (teq (rfl : (0:Int32) = (0:Int32))).1) (by decide) (by decide) ?_
  refine iC X0 hx hby at_228 ?_
  refine XS.istore X0.here hx rfl (hb hby at_229) rfl (l' := #[iv p1, iv p2, iv p3, iv p4, rv a5, iv p6, iv p7, rv a8, rv a9, rv a10, rv a11, rv a12, iv p13, .val .null, iv (0:Int32), iv (0:Int32), un, un, un]) rfl ?_
  refine st19 _ ?_
  show St p e below T19 m 234 #[iv p1, iv p2, iv p3, iv p4, rv a5, iv p6, iv p7, rv a8, rv a9, rv a10, rv a11, rv a12, iv p13, .val .null, iv (0:Int32), iv (0:Int32), un, un, un] [(.ref b19)] _
  refine XS.dup X19.here hx rfl (hb hby at_234) rfl rfl ?_
  refine st20 _ ?_
  refine iL X20 hx hby at_237 rfl ?_
  refine iL X20 hx hby at_239 rfl ?_
  refine st29.trans ?_
  refine XS.astore Y29.here hx rfl (hb hby at_244) rfl rfl (l' := #[iv p1, iv p2, iv p3, iv p4, rv a5, iv p6, iv p7, rv a8, rv a9, rv a10, rv a11, rv a12, iv p13, rv b19, iv (0:Int32), iv (0:Int32), un, un, un]) rfl ?_
  exact kt
theorem law_16 (l : Launch) (Z : State) (a0 : Array Value) (hw : HW a0 Z) (ws : List Jvm.Cond) (w0 w1 w2 w3 w4 w5 w6 w7 w8 w9 w10 w11 w12 w13 w14 : Addr) (k_w10 k_w11 k_w13 : ClassId) (wMir : Addr) (B : Base Z w0 w1 w2 w3 w4 w5 w6 w7 w8 w9 w10 w11 w12 w13 w14 k_w10 k_w11 k_w13 wMir) (i0 i1 i2:Int32) (h0 : Heap) (n0 : Nat) (O0 : Old Z n0 h0) (pin0 : ((i0 &&& (2147483647:Int32)) % (10:Int32)) = (8:Int32)) (pin2 : (i2 &&& (1:Int32)) = (1:Int32)) (pin3 : (i2 &&& (2:Int32)) = (0:Int32)) :
    MetFree l x (head1 (Jvm.Cond.code x code maxLocals ret :: ws) room_1) (fun a U => a = #[(.int i0), (.int i1), (.int i2)] ∧ Z.Warmed39 U.vm ∧ U.heap = h0) (fun _ _ _ _ _ => True) (fun _ U o U' => ∃ v L, o = .returned v ∧ lawQ n0 v U'.heap L ∧ ReturnedEndW U o U' L room_1.cells room_1.slots) := by
  refine own_in (pq pn4) #[iv i0, iv i1, iv i2, un, un, un, un, un, un, un, un, un, un, un, un, un, un, un, un] (fun _ => by first | (simp [entryFrame, mkF, argsToLocals, Value.category, maxLocals]; done) | rfl) ?_
  intro p e s m below meth c s₁ Bd hx hby hml hown hnm hZ e0 X0
  have N0 := Fr.nil n0
  skip
  obtain ⟨_, _, _, X1, hQ1, st1⟩ := cS X0 hx hZ hw hown (y := y0) 1 rfl 2 rfl 3 rfl 4 rfl (by decide) (W := 0) (r0_9 hw w5 O0 (B.1.2.2.2.2.2.2.2.2.2.2.1)) (by decide) (by decide) e0 (g := (mkF m 9 #[iv i0, iv i1, iv i2, iv (8:Int32), un, un, un, un, un, un, un, un, un, un, un, un, un, un, un] [(.int (8:Int32))])) rfl (by rw [hml]; rfl) (argsL := [(.int (8:Int32))]) (rest := []) (lenOf pd9 rfl) rfl wf (hb hby at_9) rfl (by decide) (by decide)
  obtain ⟨rfl, N1q, e1⟩ := hQ1
  have N1 := Fr.app N0 N1q
  obtain ⟨_, _, X2, e2, N2, st2⟩ := g1_24 i0 i1 i2 (8:Int32) w5 ⟨X1, hx, hZ, hw, hby, hml, hown, e1, O0, N1, by decide, by decide, by decide, by decide⟩ (by decide) (by decide) (by decide)
  obtain ⟨_, h3, _, vm3, b3_0, b3_1, b3_2, b3_3, b3_4, X3, e3, hSq3, N3, K3, _, _, _, _, lo3_5, _, _, _, _, _, _, _, _, nq3_14, _, _, _, _, _, _, _, _, _, f3_24, _, _, f3_27, _, _, _, _, f3_32, f3_33, f3_34, f3_35, st3⟩ := g1_2 i0 i1 i2 (8:Int32) w5 (0:Int32) (1:Int32) w11 w1 w12 ⟨X2, hx, hZ, hw, hby, hml, hown, e2, O0, N2, by decide, by decide, by decide, by decide⟩ (B.2.1.2.2.2.2.2.2.2.2.2.2.1) (B.1.2.2.1) (B.2.2.1.1)
  obtain ⟨Y3, hS3, hZ3, hown3⟩ := rebS (s := s) (vm0 := s.vm) (State.WarmedH.since (State.WarmedH.refl s) 0) (Nat.zero_le _) X3 hSq3 K3.1 hZ hown
  have O_K3 : Old Z n0 h3 := O0.keep K3 all0
  have g4 : n0 ≤ b3_4 := Nat.le_trans (Nat.le_trans (Nat.le_of_eq O0.1.symm) O0.2.1) lo3_5
  obtain ⟨_, h5, _, b5_0, k5_0, X5, e5, N5, K5, _, f5_2, f5_3, f5_4, f5_5, f5_6, f5_7, _, st5⟩ := g1_25 i0 i1 i2 (8:Int32) w5 (0:Int32) (1:Int32) b3_0 b3_1 b3_2 b3_3 b3_4 (0:Int32) w11 k_w11 ⟨Y3, hx, hZ3, hw, hby, hml, hown3, e3, O_K3, N3, by decide, by decide, by decide, by decide⟩ (by decide) (by decide) f3_32 f3_33 g4 f3_34 f3_35 (B.2.2.2.1.2.2.2.2.2.2.2.1) (B.2.1.2.2.2.2.2.2.2.2.2.2.1) f3_24
  have O_K5 : Old Z n0 h5 := O_K3.keep K5 (allS g4 all0)
  obtain ⟨_, h7, _, vm7, b7_0, X7, e7, hSq7, N7, K7, _, f7_2, f7_3, st7⟩ := g1_37 i0 i1 i2 (8:Int32) w5 (0:Int32) (1:Int32) b3_0 b3_1 b3_2 b3_3 b3_4 (0:Int32) ⟨X5, hx, hZ3, hw, hby, hml, hown3, e5, O_K5, N5, by decide, by decide, by decide, by decide⟩ (by decide) pin2 (by decide) (by decide) pin3
  obtain ⟨Y7, hS7, hZ7, hown7⟩ := rebS (s := s) (vm0 := vm3) hS3 (Nat.le_trans (Nat.le_refl _) K5.1) X7 hSq7 K7.1 hZ3 hown3
  have O_K7 : Old Z n0 h7 := O_K5.keep K7 all0
  obtain ⟨_, _, X8, e8, N8, st8⟩ := g1_27 i0 i1 i2 (8:Int32) w5 (0:Int32) (1:Int32) b3_0 b3_1 b3_2 b3_3 b3_4 (0:Int32) b7_0 (0:Int32) (0:Int32) ⟨Y7, hx, hZ7, hw, hby, hml, hown7, e7, O_K7, N7, by decide, by decide, by decide, by decide⟩ (by decide) (by decide)
  obtain ⟨_, _, X9, e9, N9, st9⟩ := g1_36 i0 i1 i2 (8:Int32) w5 (0:Int32) (1:Int32) b3_0 b3_1 b3_2 b3_3 b3_4 (0:Int32) b7_0 (0:Int32) ⟨X8, hx, hZ7, hw, hby, hml, hown7, e8, O_K7, N8, by decide, by decide, by decide, by decide⟩ (by decide) (by decide) (by decide)
  have f10 := (f5_2.keep K7)
  have f11 := (f5_5.keep K7 nin0)
  have f12 := (f5_4.keep K7 nin0)
  have f13 := (f5_7.keep K7)
  have f14 := (f5_6.keep K7 nin0)
  have f15 := ((f3_24.keep K5).keep K7)
  have f16 := (f5_3.keep K7 nin0)
  have f17 := ((f3_27.keep K5 (ninS nq3_14 nin0)).keep K7 nin0)
  obtain ⟨_, h18, _, b18_0, _, X18, e18, N18, K18, _, _, _, _, _, _, _, _, _, _, st18⟩ := g1_29 i0 i1 i2 (8:Int32) w5 (0:Int32) (1:Int32) b3_0 b3_1 b3_2 b3_3 b3_4 (0:Int32) b7_0 ((2:Int32) + (i1 &&& (3:Int32))) b5_0 wMir k5_0 b3_2 w14 w2 w3 w12 ⟨X9, hx, hZ7, hw, hby, hml, hown7, e9, O_K7, N9, by decide, by decide, by decide, by decide⟩ f10 f11 f12 f13 (B.2.2.2.2.2.2.2.2.2.2.2.2.2.2.2) f14 f15 (B.2.2.1.2.2.2.2.1) f7_2 f7_3 f16 f17 (B.1.2.2.2.2.1) (Ne.symm B.2.2.2.2.2.2.1.2.2.1) (B.1.2.2.2.2.2.2.1) (Ne.symm B.2.2.2.2.2.2.2.1.2.1) (B.2.2.1.1)
  have O_K18 : Old Z n0 h18 := O_K7.keep K18 all0
  obtain ⟨T19, _, X19, e19, N19, st19⟩ := g1_30 i0 i1 i2 (8:Int32) w5 (0:Int32) (1:Int32) b3_0 b3_1 b3_2 b3_3 b3_4 (0:Int32) b7_0 ((2:Int32) + (i1 &&& (3:Int32))) b18_0 w12 w13 k_w13 ⟨X18, hx, hZ7, hw, hby, hml, hown7, e18, O_K18, N18, by decide, by decide, by decide, by decide⟩ (by decide) (B.2.2.1.2.1) (B.2.2.1.2.2.1) (B.2.2.2.1.2.2.2.2.2.2.2.2.1)
  obtain ⟨_, hr, hrun, hended, hE⟩ := Stand.leaveW (s := s) (vm₁ := vm7) X19 hS7 (by rw [e19]; exact (Nat.le_trans (Nat.le_refl _) K18.1)) (v := some (.int (1:Int32))) (fun h => by rw [Bd.returns] at h; cases h)
  refine ⟨_, _, ?_, hrun, hended, _, _, rfl, ?_, hE.1, hE.2.1, hE.2.2.1, hE.2.2.2.mono (by decide) (by decide)⟩
  · show St p e below s₁ m 0 #[iv i0, iv i1, iv i2, un, un, un, un, un, un, un, un, un, un, un, un, un, un, un, un] [] _
    refine iN X0 hx hby at_0 rfl ?_
    refine X0.ldcInt hx hown (mo hZ hw 0 rfl) (g := (mkF m 1 #[iv i0, iv i1, iv i2, un, un, un, un, un, un, un, un, un, un, un, un, un, un, un, un] [(.int i0)])) rfl (hb hby at_1) _ ?_
    refine XS.iand X0.here hx rfl (hb hby at_3) rfl ?_
    refine XS.bipush X0.here hx rfl (hb hby at_4) ?_
    refine Jvm.RoadKit.iremM (g := (mkF m 6 #[iv i0, iv i1, iv i2, un, un, un, un, un, un, un, un, un, un, un, un, un, un, un, un] [(.int (10:Int32)), (.int (i0 &&& (2147483647:Int32)))])) X0 hx rfl (hb hby at_6) rfl (by decide : ¬ ((10:Int32) = (0:Int32))) ?_
    show St p e below s₁ m 7 #[iv i0, iv i1, iv i2, un, un, un, un, un, un, un, un, un, un, un, un, un, un, un, un] [(.int ((i0 &&& (2147483647:Int32)) % (10:Int32)))] _
    rw [pin0]
    refine XS.istoreN X0.here hx rfl (hb hby at_7) rfl (l' := #[iv i0, iv i1, iv i2, iv (8:Int32), un, un, un, un, un, un, un, un, un, un, un, un, un, un, un]) rfl ?_
    refine iN X0 hx hby at_8 rfl ?_
    refine st1 _ ?_
    refine XS.astore X1.here hx rfl (hb hby at_12) rfl rfl (l' := #[iv i0, iv i1, iv i2, iv (8:Int32), rv w5, un, un, un, un, un, un, un, un, un, un, un, un, un, un]) rfl ?_
    refine st2 _ ?_
    refine st3 _ ?_
    refine st5 _ ?_
    refine st7 _ ?_
    refine st8 _ ?_
    refine st9 _ ?_
    refine st18 _ ?_
    refine st19 _ ?_
    exact retN X19 hx (t := .boolean) Bd.returns (by simp) (hb hby at_310) hr
  · show lawQ n0 _ T19.heap _
    rw [e19]
    exact ⟨rfl, N19⟩
theorem law_17 (l : Launch) (Z : State) (a0 : Array Value) (hw : HW a0 Z) (ws : List Jvm.Cond) (w0 w1 w2 w3 w4 w5 w6 w7 w8 w9 w10 w11 w12 w13 w14 : Addr) (k_w10 k_w11 k_w13 : ClassId) (wMir : Addr) (B : Base Z w0 w1 w2 w3 w4 w5 w6 w7 w8 w9 w10 w11 w12 w13 w14 k_w10 k_w11 k_w13 wMir) (i0 i1 i2:Int32) (h0 : Heap) (n0 : Nat) (O0 : Old Z n0 h0) (pin0 : ((i0 &&& (2147483647:Int32)) % (10:Int32)) = (8:Int32)) (pin2 : (i2 &&& (1:Int32)) = (0:Int32)) (pin3 : (i2 &&& (2:Int32)) = (2:Int32)) :
    MetFree l x (head1 (Jvm.Cond.code x code maxLocals ret :: ws) room_1) (fun a U => a = #[(.int i0), (.int i1), (.int i2)] ∧ Z.Warmed39 U.vm ∧ U.heap = h0) (fun _ _ _ _ _ => True) (fun _ U o U' => ∃ v L, o = .returned v ∧ lawQ n0 v U'.heap L ∧ ReturnedEndW U o U' L room_1.cells room_1.slots) := by
  refine own_in (pq pn4) #[iv i0, iv i1, iv i2, un, un, un, un, un, un, un, un, un, un, un, un, un, un, un, un] (fun _ => by first | (simp [entryFrame, mkF, argsToLocals, Value.category, maxLocals]; done) | rfl) ?_
  intro p e s m below meth c s₁ Bd hx hby hml hown hnm hZ e0 X0
  have N0 := Fr.nil n0
  skip
  obtain ⟨_, _, _, X1, hQ1, st1⟩ := cS X0 hx hZ hw hown (y := y0) 1 rfl 2 rfl 3 rfl 4 rfl (by decide) (W := 0) (r0_9 hw w5 O0 (B.1.2.2.2.2.2.2.2.2.2.2.1)) (by decide) (by decide) e0 (g := (mkF m 9 #[iv i0, iv i1, iv i2, iv (8:Int32), un, un, un, un, un, un, un, un, un, un, un, un, un, un, un] [(.int (8:Int32))])) rfl (by rw [hml]; rfl) (argsL := [(.int (8:Int32))]) (rest := []) (lenOf pd9 rfl) rfl wf (hb hby at_9) rfl (by decide) (by decide)
  obtain ⟨rfl, N1q, e1⟩ := hQ1
  have N1 := Fr.app N0 N1q
  obtain ⟨_, _, X2, e2, N2, st2⟩ := g1_24 i0 i1 i2 (8:Int32) w5 ⟨X1, hx, hZ, hw, hby, hml, hown, e1, O0, N1, by decide, by decide, by decide, by decide⟩ (by decide) (by decide) (by decide)
  obtain ⟨_, h3, _, vm3, b3_0, b3_1, b3_2, b3_3, b3_4, X3, e3, hSq3, N3, K3, _, _, _, _, lo3_5, _, _, _, _, _, _, _, _, nq3_14, _, _, _, _, _, _, _, _, _, f3_24, _, _, f3_27, _, _, _, _, f3_32, f3_33, f3_34, f3_35, st3⟩ := g1_2 i0 i1 i2 (8:Int32) w5 (0:Int32) (1:Int32) w11 w1 w12 ⟨X2, hx, hZ, hw, hby, hml, hown, e2, O0, N2, by decide, by decide, by decide, by decide⟩ (B.2.1.2.2.2.2.2.2.2.2.2.2.1) (B.1.2.2.1) (B.2.2.1.1)
  obtain ⟨Y3, hS3, hZ3, hown3⟩ := rebS (s := s) (vm0 := s.vm) (State.WarmedH.since (State.WarmedH.refl s) 0) (Nat.zero_le _) X3 hSq3 K3.1 hZ hown
  have O_K3 : Old Z n0 h3 := O0.keep K3 all0
  have g4 : n0 ≤ b3_4 := Nat.le_trans (Nat.le_trans (Nat.le_of_eq O0.1.symm) O0.2.1) lo3_5
  obtain ⟨_, h5, _, b5_0, k5_0, X5, e5, N5, K5, _, f5_2, f5_3, f5_4, f5_5, f5_6, f5_7, _, st5⟩ := g1_25 i0 i1 i2 (8:Int32) w5 (0:Int32) (1:Int32) b3_0 b3_1 b3_2 b3_3 b3_4 (0:Int32) w11 k_w11 ⟨Y3, hx, hZ3, hw, hby, hml, hown3, e3, O_K3, N3, by decide, by decide, by decide, by decide⟩ (by decide) (by decide) f3_32 f3_33 g4 f3_34 f3_35 (B.2.2.2.1.2.2.2.2.2.2.2.1) (B.2.1.2.2.2.2.2.2.2.2.2.2.1) f3_24
  have O_K5 : Old Z n0 h5 := O_K3.keep K5 (allS g4 all0)
  obtain ⟨_, h7, _, vm7, b7_0, X7, e7, hSq7, N7, K7, _, f7_2, f7_3, st7⟩ := g1_33 i0 i1 i2 (8:Int32) w5 (0:Int32) (1:Int32) b3_0 b3_1 b3_2 b3_3 b3_4 (0:Int32) ⟨X5, hx, hZ3, hw, hby, hml, hown3, e5, O_K5, N5, by decide, by decide, by decide, by decide⟩ (by decide) pin2 pin3
  obtain ⟨Y7, hS7, hZ7, hown7⟩ := rebS (s := s) (vm0 := vm3) hS3 (Nat.le_trans (Nat.le_refl _) K5.1) X7 hSq7 K7.1 hZ3 hown3
  have O_K7 : Old Z n0 h7 := O_K5.keep K7 all0
  obtain ⟨_, _, X8, e8, N8, st8⟩ := g1_27 i0 i1 i2 (8:Int32) w5 (0:Int32) (1:Int32) b3_0 b3_1 b3_2 b3_3 b3_4 (0:Int32) b7_0 (0:Int32) (1:Int32) ⟨Y7, hx, hZ7, hw, hby, hml, hown7, e7, O_K7, N7, by decide, by decide, by decide, by decide⟩ (by decide) (by decide)
  obtain ⟨_, _, X9, e9, N9, st9⟩ := g1_36 i0 i1 i2 (8:Int32) w5 (0:Int32) (1:Int32) b3_0 b3_1 b3_2 b3_3 b3_4 (0:Int32) b7_0 (1:Int32) ⟨X8, hx, hZ7, hw, hby, hml, hown7, e8, O_K7, N8, by decide, by decide, by decide, by decide⟩ (by decide) (by decide) (by decide)
  have f10 := (f5_2.keep K7)
  have f11 := (f5_5.keep K7 nin0)
  have f12 := (f5_4.keep K7 nin0)
  have f13 := (f5_7.keep K7)
  have f14 := (f5_6.keep K7 nin0)
  have f15 := ((f3_24.keep K5).keep K7)
  have f16 := (f5_3.keep K7 nin0)
  have f17 := ((f3_27.keep K5 (ninS nq3_14 nin0)).keep K7 nin0)
  obtain ⟨_, h18, _, b18_0, _, X18, e18, N18, K18, _, _, _, _, _, _, _, _, _, _, st18⟩ := g1_29 i0 i1 i2 (8:Int32) w5 (0:Int32) (1:Int32) b3_0 b3_1 b3_2 b3_3 b3_4 (0:Int32) b7_0 ((2:Int32) + (i1 &&& (3:Int32))) b5_0 wMir k5_0 b3_2 w14 w2 w3 w12 ⟨X9, hx, hZ7, hw, hby, hml, hown7, e9, O_K7, N9, by decide, by decide, by decide, by decide⟩ f10 f11 f12 f13 (B.2.2.2.2.2.2.2.2.2.2.2.2.2.2.2) f14 f15 (B.2.2.1.2.2.2.2.1) f7_2 f7_3 f16 f17 (B.1.2.2.2.2.1) (Ne.symm B.2.2.2.2.2.2.1.2.2.1) (B.1.2.2.2.2.2.2.1) (Ne.symm B.2.2.2.2.2.2.2.1.2.1) (B.2.2.1.1)
  have O_K18 : Old Z n0 h18 := O_K7.keep K18 all0
  obtain ⟨T19, _, X19, e19, N19, st19⟩ := g1_30 i0 i1 i2 (8:Int32) w5 (0:Int32) (1:Int32) b3_0 b3_1 b3_2 b3_3 b3_4 (0:Int32) b7_0 ((2:Int32) + (i1 &&& (3:Int32))) b18_0 w12 w13 k_w13 ⟨X18, hx, hZ7, hw, hby, hml, hown7, e18, O_K18, N18, by decide, by decide, by decide, by decide⟩ (by decide) (B.2.2.1.2.1) (B.2.2.1.2.2.1) (B.2.2.2.1.2.2.2.2.2.2.2.2.1)
  obtain ⟨_, hr, hrun, hended, hE⟩ := Stand.leaveW (s := s) (vm₁ := vm7) X19 hS7 (by rw [e19]; exact (Nat.le_trans (Nat.le_refl _) K18.1)) (v := some (.int (1:Int32))) (fun h => by rw [Bd.returns] at h; cases h)
  refine ⟨_, _, ?_, hrun, hended, _, _, rfl, ?_, hE.1, hE.2.1, hE.2.2.1, hE.2.2.2.mono (by decide) (by decide)⟩
  · show St p e below s₁ m 0 #[iv i0, iv i1, iv i2, un, un, un, un, un, un, un, un, un, un, un, un, un, un, un, un] [] _
    refine iN X0 hx hby at_0 rfl ?_
    refine X0.ldcInt hx hown (mo hZ hw 0 rfl) (g := (mkF m 1 #[iv i0, iv i1, iv i2, un, un, un, un, un, un, un, un, un, un, un, un, un, un, un, un] [(.int i0)])) rfl (hb hby at_1) _ ?_
    refine XS.iand X0.here hx rfl (hb hby at_3) rfl ?_
    refine XS.bipush X0.here hx rfl (hb hby at_4) ?_
    refine Jvm.RoadKit.iremM (g := (mkF m 6 #[iv i0, iv i1, iv i2, un, un, un, un, un, un, un, un, un, un, un, un, un, un, un, un] [(.int (10:Int32)), (.int (i0 &&& (2147483647:Int32)))])) X0 hx rfl (hb hby at_6) rfl (by decide : ¬ ((10:Int32) = (0:Int32))) ?_
    show St p e below s₁ m 7 #[iv i0, iv i1, iv i2, un, un, un, un, un, un, un, un, un, un, un, un, un, un, un, un] [(.int ((i0 &&& (2147483647:Int32)) % (10:Int32)))] _
    rw [pin0]
    refine XS.istoreN X0.here hx rfl (hb hby at_7) rfl (l' := #[iv i0, iv i1, iv i2, iv (8:Int32), un, un, un, un, un, un, un, un, un, un, un, un, un, un, un]) rfl ?_
    refine iN X0 hx hby at_8 rfl ?_
    refine st1 _ ?_
    refine XS.astore X1.here hx rfl (hb hby at_12) rfl rfl (l' := #[iv i0, iv i1, iv i2, iv (8:Int32), rv w5, un, un, un, un, un, un, un, un, un, un, un, un, un, un]) rfl ?_
    refine st2 _ ?_
    refine st3 _ ?_
    refine st5 _ ?_
    refine st7 _ ?_
    refine st8 _ ?_
    refine st9 _ ?_
    refine st18 _ ?_
    refine st19 _ ?_
    exact retN X19 hx (t := .boolean) Bd.returns (by simp) (hb hby at_310) hr
  · show lawQ n0 _ T19.heap _
    rw [e19]
    exact ⟨rfl, N19⟩
theorem g1_38 (p1 p2 p3 p4:Int32) (a5 : Addr) (p6 p7:Int32) (a8 a9 a10 a11 a12 : Addr) (p13:Int32)
    (H0 : SG p l e R s m args below meth c T0 locs cells slots Z a0 h0 n0 5 31 3 40) (hc14 : ¬ (p7 = (0:Int32))) (pin15 : (p3 &&& (1:Int32)) = (1:Int32)) (hc16 : ¬ (p4 = (6:Int32))) (hc17 : ¬ (p4 = (7:Int32))) (pin18 : (p3 &&& (2:Int32)) = (2:Int32)) :
    ∃ (T' : State) (h' : Heap) (L' : List Loc) (vm' : Vm) (b19 : Addr), Stand p l e R (s.setVm vm') m args below meth c T' L' (cells + 5) (slots + 31) ∧ T'.heap = h' ∧ s.Since vm' h'.size ∧ Fr n0 L' ∧ Keep h0 h' [] ∧ h0.size ≤ b19 ∧ xE26 Z h' b19 ∧ xF27 Z h' b19 (.int (0:Int32)) ∧
      ∀ target, St p e below T' m 246 #[iv p1, iv p2, iv p3, iv p4, rv a5, iv p6, iv p7, rv a8, rv a9, rv a10, rv a11, rv a12, iv p13, rv b19, iv (0:Int32), iv (1:Int32), un, un, un] [] target → St p e below T0 m 180 #[iv p1, iv p2, iv p3, iv p4, rv a5, iv p6, iv p7, rv a8, rv a9, rv a10, rv a11, rv a12, iv p13, un, un, un, un, un, un] [] target := by
  obtain ⟨X0, hx, hZ, hw, hby, hml, hown, e0, O0, N0, rc, rs, rf, rl⟩ := H0
  obtain ⟨_, h19, X19, e19, E19, A19, D19, -, st19⟩ := newO X0 hx hZ hown (ow hw 288 rfl) (ow hw 289 rfl) (ow hw 290 rfl) e0 (g := (mkF m 231 #[iv p1, iv p2, iv p3, iv p4, rv a5, iv p6, iv p7, rv a8, rv a9, rv a10, rv a11, rv a12, iv p13, .val .null, iv (0:Int32), iv (1:Int32), un, un, un] [])) rfl (hb hby at_231) (by omega) (by omega)
  obtain ⟨b19, g19⟩ : ∃ z, z = h0.size := ⟨_, rfl⟩
  rw [← g19] at A19 D19 st19
  have O_E19 : Old Z n0 h19 := O0.ext E19
  have Kp_E19 : Keep h0 h19 [] := (Keep.refl h0 []).ext E19
  obtain ⟨a20, T20, h20, _, X20, e20, E20, hS20, hk20, hZ20, hown20, st20⟩ := ldcS (s := s) (vm0 := s.vm) X19 hx hZ (own := "tabula/engine/ConceptOperandsPinLaw") hown (ow hw 291 rfl) (fun d hd => hw d (strW d hd)) e19 (State.WarmedH.since (State.WarmedH.refl s) 0) (Nat.zero_le _) (g := (mkF m 235 #[iv p1, iv p2, iv p3, iv p4, rv a5, iv p6, iv p7, rv a8, rv a9, rv a10, rv a11, rv a12, iv p13, .val .null, iv (0:Int32), iv (1:Int32), un, un, un] [(.ref b19), (.ref b19)])) rfl (hb hby at_235) (n := 4) (by decide) (by decide) (by omega) (by omega)
  have O_E20 : Old Z n0 h20 := O_E19.ext E20
  have Kp_E20 : Keep h0 h20 [] := Kp_E19.ext E20
  have f21 : xF25 Z h19 b19 .null := D19 (Or.inr (ow hw 306 rfl)) (ty := (.object "java/lang/String")) (by decide)
  have f22 := (f21.ext E20)
  have f23 := (A19.ext E20)
  have g24 : n0 ≤ b19 := Nat.le_trans (Nat.le_trans (Nat.le_of_eq O0.1.symm) O0.2.1) (Nat.le_of_eq g19.symm)
  have f25 : xF27 Z h19 b19 (.int (0:Int32)) := D19 (Or.inr (ow hw 308 rfl)) (ty := .boolean) (by decide)
  have f26 := (f25.ext E20)
  have f27 : xF28 Z h19 b19 (.int (0:Int32)) := D19 (Or.inr (ow hw 310 rfl)) (ty := .boolean) (by decide)
  have f28 := (f27.ext E20)
  obtain ⟨T29, _, _, X29, hSq29, hg29, hQ29, st29⟩ := flS X20 (X20.specialBackS hx (y := y46) rfl hown20 (mo hZ20 hw 292 rfl) (mo hZ20 hw 293 rfl) (mo hZ20 hw 294 rfl) (by decide) (backOfS (W := 1) (r46_3 hw b19 a20 O_E20 f22 f23 g24 f26 f28) hZ20 (ow hw 294 rfl) (ow hw 290 rfl) (by show 2 + 1 ≤ R.frames; omega) (by show 1 + (4 + 11) + 24 ≤ R.locals; omega)) (g := (mkF m 241 #[iv p1, iv p2, iv p3, iv p4, rv a5, iv p6, iv p7, rv a8, rv a9, rv a10, rv a11, rv a12, iv p13, .val .null, iv (0:Int32), iv (1:Int32), un, un, un] [(.int (1:Int32)), (.int (0:Int32)), (.ref a20), (.ref b19), (.ref b19)])) rfl (by rw [hml]; rfl) (Steps.refl _) (a := b19) (argsL := [(.ref a20), (.int (0:Int32)), (.int (1:Int32))]) (rest := [(.ref b19)]) (lenOf pd12 rfl) rfl wf (hb hby at_241) (fun _ _ => ⟨rfl, e20, (by show cells + 3 + 2 ≤ R.cells; omega), (by show slots + 11 + 20 ≤ R.slots; omega)⟩))
  obtain ⟨Y29, hS29, _, _⟩ := rebS (s := s) (vm0 := T20.vm) hS20 (by rw [e20]; exact hk20) X29 hSq29 hg29 hZ20 hown20
  obtain ⟨rfl, N29q, K29, f29_1, f29_2⟩ := hQ29
  have N29 := Fr.app N0 N29q
  have z30 : h0.size ≤ b19 := Nat.le_trans (Keep.refl h0 []).1 (Nat.le_of_eq g19.symm)
  have Kp_K29 : Keep h0 T29.heap [] := Kp_E20.trans K29 (allS (Or.inr z30) all0)
  replace Y29 : Stand p l e R _ m args below meth c T29 _ (cells + 5) (slots + 31) := Y29
  refine ⟨T29, _, _, T29.vm, b19, Y29.more (by omega) (by omega), rfl, own_since hS29 (Nat.le_refl _), N29, Kp_K29, z30, f29_1, f29_2, fun target kt => ?_⟩
  show St p e below T0 m 180 #[iv p1, iv p2, iv p3, iv p4, rv a5, iv p6, iv p7, rv a8, rv a9, rv a10, rv a11, rv a12, iv p13, un, un, un, un, un, un] [] _
  refine XS.aconstNull X0.here hx rfl (hb hby at_180) ?_
  refine XS.astore X0.here hx rfl (hb hby at_181) rfl rfl (l' := #[iv p1, iv p2, iv p3, iv p4, rv a5, iv p6, iv p7, rv a8, rv a9, rv a10, rv a11, rv a12, iv p13, .val .null, un, un, un, un, un]) rfl ?_
  refine iL X0 hx hby at_183 rfl ?_
  refine XS.ifNo X0.here hx rfl (hb hby at_185) rfl ((if0 _ _).trans (feq hc14).1) ?_
  refine iN X0 hx hby at_188 rfl ?_
  refine iC X0 hx hby at_189 ?_
  refine XS.iand X0.here hx rfl (hb hby at_190) rfl ?_
  show St p e below T0 m 191 #[iv p1, iv p2, iv p3, iv p4, rv a5, iv p6, iv p7, rv a8, rv a9, rv a10, rv a11, rv a12, iv p13, .val .null, un, un, un, un, un] [(.int (p3 &&& (1:Int32)))] _
  rw [pin15]
  refine XS.ifNo X0.here hx rfl (hb hby at_191) rfl ((if0 _ _).trans (feq (by decide : ¬ ((1:Int32) = (0:Int32)))).1) ?_
  refine iN X0 hx hby at_194 rfl ?_
  refine XS.bipush X0.here hx rfl (hb hby at_195) ?_
  refine XS.icmpNo X0.here hx rfl (hb hby at_197) rfl (feq hc16).1 ?_
  refine iN X0 hx hby at_200 rfl ?_
  refine XS.bipush X0.here hx rfl (hb hby at_201) ?_
  refine XS.icmpYes X0.here hx rfl (pc0 := 203) (pc' := 210) rfl (hb hby at_203) rfl (feq hc17).2 (by decide) (by decide) ?_
  refine iC X0 hx hby at_210 ?_
  refine XS.istore X0.here hx rfl (hb hby at_211) rfl (l' := #[iv p1, iv p2, iv p3, iv p4, rv a5, iv p6, iv p7, rv a8, rv a9, rv a10, rv a11, rv a12, iv p13, .val .null, iv (0:Int32), un, un, un, un]) rfl ?_
  refine iL X0 hx hby at_213 rfl ?_
  refine XS.ifNo X0.here hx rfl (hb hby at_215) rfl ((if0 _ _).trans (teq (rfl : (0:Int32) = (0:Int32))).2) ?_
  refine iN X0 hx hby at_218 rfl ?_
  refine iC X0 hx hby at_219 ?_
  refine XS.iand X0.here hx rfl (hb hby at_220) rfl ?_
  show St p e below T0 m 221 #[iv p1, iv p2, iv p3, iv p4, rv a5, iv p6, iv p7, rv a8, rv a9, rv a10, rv a11, rv a12, iv p13, .val .null, iv (0:Int32), un, un, un, un] [(.int (p3 &&& (2:Int32)))] _
  rw [pin18]
  refine XS.ifNo X0.here hx rfl (hb hby at_221) rfl ((if0 _ _).trans (feq (by decide : ¬ ((2:Int32) = (0:Int32)))).1) ?_
  refine iC X0 hx hby at_224 ?_
  refine XS.goto X0.here hx rfl (pc0 := 225) (pc' := 229) rfl (hb hby at_225) (by decide) (by decide) ?_
  refine XS.istore X0.here hx rfl (hb hby at_229) rfl (l' := #[iv p1, iv p2, iv p3, iv p4, rv a5, iv p6, iv p7, rv a8, rv a9, rv a10, rv a11, rv a12, iv p13, .val .null, iv (0:Int32), iv (1:Int32), un, un, un]) rfl ?_
  show St p e below T0 m 231 #[iv p1, iv p2, iv p3, iv p4, rv a5, iv p6, iv p7, rv a8, rv a9, rv a10, rv a11, rv a12, iv p13, .val .null, iv (0:Int32), iv (1:Int32), un, un, un] [] _
  refine st19 _ ?_
  refine XS.dup X19.here hx rfl (hb hby at_234) rfl rfl ?_
  refine st20 _ ?_
  refine iL X20 hx hby at_237 rfl ?_
  refine iL X20 hx hby at_239 rfl ?_
  refine st29.trans ?_
  refine XS.astore Y29.here hx rfl (hb hby at_244) rfl rfl (l' := #[iv p1, iv p2, iv p3, iv p4, rv a5, iv p6, iv p7, rv a8, rv a9, rv a10, rv a11, rv a12, iv p13, rv b19, iv (0:Int32), iv (1:Int32), un, un, un]) rfl ?_
  exact kt
theorem law_18 (l : Launch) (Z : State) (a0 : Array Value) (hw : HW a0 Z) (ws : List Jvm.Cond) (w0 w1 w2 w3 w4 w5 w6 w7 w8 w9 w10 w11 w12 w13 w14 : Addr) (k_w10 k_w11 k_w13 : ClassId) (wMir : Addr) (B : Base Z w0 w1 w2 w3 w4 w5 w6 w7 w8 w9 w10 w11 w12 w13 w14 k_w10 k_w11 k_w13 wMir) (i0 i1 i2:Int32) (h0 : Heap) (n0 : Nat) (O0 : Old Z n0 h0) (pin0 : ((i0 &&& (2147483647:Int32)) % (10:Int32)) = (8:Int32)) (pin2 : (i2 &&& (1:Int32)) = (1:Int32)) (pin3 : (i2 &&& (2:Int32)) = (2:Int32)) :
    MetFree l x (head1 (Jvm.Cond.code x code maxLocals ret :: ws) room_1) (fun a U => a = #[(.int i0), (.int i1), (.int i2)] ∧ Z.Warmed39 U.vm ∧ U.heap = h0) (fun _ _ _ _ _ => True) (fun _ U o U' => ∃ v L, o = .returned v ∧ lawQ n0 v U'.heap L ∧ ReturnedEndW U o U' L room_1.cells room_1.slots) := by
  refine own_in (pq pn4) #[iv i0, iv i1, iv i2, un, un, un, un, un, un, un, un, un, un, un, un, un, un, un, un] (fun _ => by first | (simp [entryFrame, mkF, argsToLocals, Value.category, maxLocals]; done) | rfl) ?_
  intro p e s m below meth c s₁ Bd hx hby hml hown hnm hZ e0 X0
  have N0 := Fr.nil n0
  skip
  obtain ⟨_, _, _, X1, hQ1, st1⟩ := cS X0 hx hZ hw hown (y := y0) 1 rfl 2 rfl 3 rfl 4 rfl (by decide) (W := 0) (r0_9 hw w5 O0 (B.1.2.2.2.2.2.2.2.2.2.2.1)) (by decide) (by decide) e0 (g := (mkF m 9 #[iv i0, iv i1, iv i2, iv (8:Int32), un, un, un, un, un, un, un, un, un, un, un, un, un, un, un] [(.int (8:Int32))])) rfl (by rw [hml]; rfl) (argsL := [(.int (8:Int32))]) (rest := []) (lenOf pd9 rfl) rfl wf (hb hby at_9) rfl (by decide) (by decide)
  obtain ⟨rfl, N1q, e1⟩ := hQ1
  have N1 := Fr.app N0 N1q
  obtain ⟨_, _, X2, e2, N2, st2⟩ := g1_24 i0 i1 i2 (8:Int32) w5 ⟨X1, hx, hZ, hw, hby, hml, hown, e1, O0, N1, by decide, by decide, by decide, by decide⟩ (by decide) (by decide) (by decide)
  obtain ⟨_, h3, _, vm3, b3_0, b3_1, b3_2, b3_3, b3_4, X3, e3, hSq3, N3, K3, _, _, _, _, lo3_5, _, _, _, _, _, _, _, _, nq3_14, _, _, _, _, _, _, _, _, _, f3_24, _, _, f3_27, _, _, _, _, f3_32, f3_33, f3_34, f3_35, st3⟩ := g1_2 i0 i1 i2 (8:Int32) w5 (0:Int32) (1:Int32) w11 w1 w12 ⟨X2, hx, hZ, hw, hby, hml, hown, e2, O0, N2, by decide, by decide, by decide, by decide⟩ (B.2.1.2.2.2.2.2.2.2.2.2.2.1) (B.1.2.2.1) (B.2.2.1.1)
  obtain ⟨Y3, hS3, hZ3, hown3⟩ := rebS (s := s) (vm0 := s.vm) (State.WarmedH.since (State.WarmedH.refl s) 0) (Nat.zero_le _) X3 hSq3 K3.1 hZ hown
  have O_K3 : Old Z n0 h3 := O0.keep K3 all0
  have g4 : n0 ≤ b3_4 := Nat.le_trans (Nat.le_trans (Nat.le_of_eq O0.1.symm) O0.2.1) lo3_5
  obtain ⟨_, h5, _, b5_0, k5_0, X5, e5, N5, K5, _, f5_2, f5_3, f5_4, f5_5, f5_6, f5_7, _, st5⟩ := g1_25 i0 i1 i2 (8:Int32) w5 (0:Int32) (1:Int32) b3_0 b3_1 b3_2 b3_3 b3_4 (0:Int32) w11 k_w11 ⟨Y3, hx, hZ3, hw, hby, hml, hown3, e3, O_K3, N3, by decide, by decide, by decide, by decide⟩ (by decide) (by decide) f3_32 f3_33 g4 f3_34 f3_35 (B.2.2.2.1.2.2.2.2.2.2.2.1) (B.2.1.2.2.2.2.2.2.2.2.2.2.1) f3_24
  have O_K5 : Old Z n0 h5 := O_K3.keep K5 (allS g4 all0)
  obtain ⟨_, h7, _, vm7, b7_0, X7, e7, hSq7, N7, K7, _, f7_2, f7_3, st7⟩ := g1_38 i0 i1 i2 (8:Int32) w5 (0:Int32) (1:Int32) b3_0 b3_1 b3_2 b3_3 b3_4 (0:Int32) ⟨X5, hx, hZ3, hw, hby, hml, hown3, e5, O_K5, N5, by decide, by decide, by decide, by decide⟩ (by decide) pin2 (by decide) (by decide) pin3
  obtain ⟨Y7, hS7, hZ7, hown7⟩ := rebS (s := s) (vm0 := vm3) hS3 (Nat.le_trans (Nat.le_refl _) K5.1) X7 hSq7 K7.1 hZ3 hown3
  have O_K7 : Old Z n0 h7 := O_K5.keep K7 all0
  obtain ⟨_, _, X8, e8, N8, st8⟩ := g1_27 i0 i1 i2 (8:Int32) w5 (0:Int32) (1:Int32) b3_0 b3_1 b3_2 b3_3 b3_4 (0:Int32) b7_0 (0:Int32) (1:Int32) ⟨Y7, hx, hZ7, hw, hby, hml, hown7, e7, O_K7, N7, by decide, by decide, by decide, by decide⟩ (by decide) (by decide)
  obtain ⟨_, _, X9, e9, N9, st9⟩ := g1_36 i0 i1 i2 (8:Int32) w5 (0:Int32) (1:Int32) b3_0 b3_1 b3_2 b3_3 b3_4 (0:Int32) b7_0 (1:Int32) ⟨X8, hx, hZ7, hw, hby, hml, hown7, e8, O_K7, N8, by decide, by decide, by decide, by decide⟩ (by decide) (by decide) (by decide)
  have f10 := (f5_2.keep K7)
  have f11 := (f5_5.keep K7 nin0)
  have f12 := (f5_4.keep K7 nin0)
  have f13 := (f5_7.keep K7)
  have f14 := (f5_6.keep K7 nin0)
  have f15 := ((f3_24.keep K5).keep K7)
  have f16 := (f5_3.keep K7 nin0)
  have f17 := ((f3_27.keep K5 (ninS nq3_14 nin0)).keep K7 nin0)
  obtain ⟨_, h18, _, b18_0, _, X18, e18, N18, K18, _, _, _, _, _, _, _, _, _, _, st18⟩ := g1_29 i0 i1 i2 (8:Int32) w5 (0:Int32) (1:Int32) b3_0 b3_1 b3_2 b3_3 b3_4 (0:Int32) b7_0 ((2:Int32) + (i1 &&& (3:Int32))) b5_0 wMir k5_0 b3_2 w14 w2 w3 w12 ⟨X9, hx, hZ7, hw, hby, hml, hown7, e9, O_K7, N9, by decide, by decide, by decide, by decide⟩ f10 f11 f12 f13 (B.2.2.2.2.2.2.2.2.2.2.2.2.2.2.2) f14 f15 (B.2.2.1.2.2.2.2.1) f7_2 f7_3 f16 f17 (B.1.2.2.2.2.1) (Ne.symm B.2.2.2.2.2.2.1.2.2.1) (B.1.2.2.2.2.2.2.1) (Ne.symm B.2.2.2.2.2.2.2.1.2.1) (B.2.2.1.1)
  have O_K18 : Old Z n0 h18 := O_K7.keep K18 all0
  obtain ⟨T19, _, X19, e19, N19, st19⟩ := g1_30 i0 i1 i2 (8:Int32) w5 (0:Int32) (1:Int32) b3_0 b3_1 b3_2 b3_3 b3_4 (0:Int32) b7_0 ((2:Int32) + (i1 &&& (3:Int32))) b18_0 w12 w13 k_w13 ⟨X18, hx, hZ7, hw, hby, hml, hown7, e18, O_K18, N18, by decide, by decide, by decide, by decide⟩ (by decide) (B.2.2.1.2.1) (B.2.2.1.2.2.1) (B.2.2.2.1.2.2.2.2.2.2.2.2.1)
  obtain ⟨_, hr, hrun, hended, hE⟩ := Stand.leaveW (s := s) (vm₁ := vm7) X19 hS7 (by rw [e19]; exact (Nat.le_trans (Nat.le_refl _) K18.1)) (v := some (.int (1:Int32))) (fun h => by rw [Bd.returns] at h; cases h)
  refine ⟨_, _, ?_, hrun, hended, _, _, rfl, ?_, hE.1, hE.2.1, hE.2.2.1, hE.2.2.2.mono (by decide) (by decide)⟩
  · show St p e below s₁ m 0 #[iv i0, iv i1, iv i2, un, un, un, un, un, un, un, un, un, un, un, un, un, un, un, un] [] _
    refine iN X0 hx hby at_0 rfl ?_
    refine X0.ldcInt hx hown (mo hZ hw 0 rfl) (g := (mkF m 1 #[iv i0, iv i1, iv i2, un, un, un, un, un, un, un, un, un, un, un, un, un, un, un, un] [(.int i0)])) rfl (hb hby at_1) _ ?_
    refine XS.iand X0.here hx rfl (hb hby at_3) rfl ?_
    refine XS.bipush X0.here hx rfl (hb hby at_4) ?_
    refine Jvm.RoadKit.iremM (g := (mkF m 6 #[iv i0, iv i1, iv i2, un, un, un, un, un, un, un, un, un, un, un, un, un, un, un, un] [(.int (10:Int32)), (.int (i0 &&& (2147483647:Int32)))])) X0 hx rfl (hb hby at_6) rfl (by decide : ¬ ((10:Int32) = (0:Int32))) ?_
    show St p e below s₁ m 7 #[iv i0, iv i1, iv i2, un, un, un, un, un, un, un, un, un, un, un, un, un, un, un, un] [(.int ((i0 &&& (2147483647:Int32)) % (10:Int32)))] _
    rw [pin0]
    refine XS.istoreN X0.here hx rfl (hb hby at_7) rfl (l' := #[iv i0, iv i1, iv i2, iv (8:Int32), un, un, un, un, un, un, un, un, un, un, un, un, un, un, un]) rfl ?_
    refine iN X0 hx hby at_8 rfl ?_
    refine st1 _ ?_
    refine XS.astore X1.here hx rfl (hb hby at_12) rfl rfl (l' := #[iv i0, iv i1, iv i2, iv (8:Int32), rv w5, un, un, un, un, un, un, un, un, un, un, un, un, un, un]) rfl ?_
    refine st2 _ ?_
    refine st3 _ ?_
    refine st5 _ ?_
    refine st7 _ ?_
    refine st8 _ ?_
    refine st9 _ ?_
    refine st18 _ ?_
    refine st19 _ ?_
    exact retN X19 hx (t := .boolean) Bd.returns (by simp) (hb hby at_310) hr
  · show lawQ n0 _ T19.heap _
    rw [e19]
    exact ⟨rfl, N19⟩
theorem d0_83 : dk method_2_code 83 (.getstatic 37) 3 := by decide +kernel
theorem d0_86 : dk method_2_code 86 .areturn 1 := by decide +kernel
def r0_10Q (Z : State) (a1 : Addr) (h0 : Heap) (n0 : Nat) : QT := fun v h L => v = some (.ref a1) ∧ Fr n0 L ∧ h = h0
theorem r0_10 (hw : HW a0 Z) (a1 : Addr) (O0 : Old Z n0 h0) (H2 : Sta Z Z.heap "tabula/engine/Concept$Kind" "AT_MOST" "Ltabula/engine/Concept$Kind;" (.ref a1)) :
    MF l y0 method_2_code 1 (some (.object "tabula/engine/Concept$Kind")) [] (rM 0 0 0 0) Z #[(.int (9:Int32))] h0 (r0_10Q Z a1 h0 n0) := by
  refine own_in (pq pn4) #[iv (9:Int32)] (fun _ => by first | (simp [entryFrame, mkF, argsToLocals, Value.category]; done) | rfl) ?_
  intro p e s m below meth c s₁ Bd hx hby hml hown hnm hZ e0 X0
  have N0 := Fr.nil n0
  obtain ⟨_, X3, e3, st3⟩ := getS2 X0 hx hZ hown (host := "") (Or.inl (ow hw 352 rfl)) Via.refl e0 (H2.ext O0.2) (g := (mkF m 83 #[iv (9:Int32)] [])) rfl (hb hby d0_83)
  refine fin (Q := r0_10Q Z a1 h0 n0) (rm := (rM 0 0 0 0)) Bd X3 e3 (some (.ref a1)) nofun ⟨rfl, N0, rfl⟩ (by decide) (by decide) fun fs hr => ?_
  show St p e below s₁ m 0 #[iv (9:Int32)] [] _
  refine iN X0 hx hby d0_0 rfl ?_
  refine XS.ifYes X0.here hx rfl (pc0 := 1) (pc' := 8) rfl (hb hby d0_1) rfl ((if0 _ _).trans (feq (by decide : ¬ ((9:Int32) = (0:Int32)))).2) (by decide) (by decide) ?_
  refine iN X0 hx hby d0_8 rfl ?_
  refine iC X0 hx hby d0_9 ?_
  refine XS.icmpYes X0.here hx rfl (pc0 := 10) (pc' := 17) rfl (hb hby d0_10) rfl (feq (by decide : ¬ ((9:Int32) = (1:Int32)))).2 (by decide) (by decide) ?_
  refine iN X0 hx hby d0_17 rfl ?_
  refine iC X0 hx hby d0_18 ?_
  refine XS.icmpYes X0.here hx rfl (pc0 := 19) (pc' := 26) rfl (hb hby d0_19) rfl (feq (by decide : ¬ ((9:Int32) = (2:Int32)))).2 (by decide) (by decide) ?_
  refine iN X0 hx hby d0_26 rfl ?_
  refine iC X0 hx hby d0_27 ?_
  refine XS.icmpYes X0.here hx rfl (pc0 := 28) (pc' := 35) rfl (hb hby d0_28) rfl (feq (by decide : ¬ ((9:Int32) = (3:Int32)))).2 (by decide) (by decide) ?_
  refine iN X0 hx hby d0_35 rfl ?_
  refine iC X0 hx hby d0_36 ?_
  refine XS.icmpYes X0.here hx rfl (pc0 := 37) (pc' := 44) rfl (hb hby d0_37) rfl (feq (by decide : ¬ ((9:Int32) = (4:Int32)))).2 (by decide) (by decide) ?_
  refine iN X0 hx hby d0_44 rfl ?_
  refine iC X0 hx hby d0_45 ?_
  refine XS.icmpYes X0.here hx rfl (pc0 := 46) (pc' := 53) rfl (hb hby d0_46) rfl (feq (by decide : ¬ ((9:Int32) = (5:Int32)))).2 (by decide) (by decide) ?_
  refine iN X0 hx hby d0_53 rfl ?_
  refine XS.bipush X0.here hx rfl (hb hby d0_54) ?_
  refine XS.icmpYes X0.here hx rfl (pc0 := 56) (pc' := 63) rfl (hb hby d0_56) rfl (feq (by decide : ¬ ((9:Int32) = (6:Int32)))).2 (by decide) (by decide) ?_
  refine iN X0 hx hby d0_63 rfl ?_
  refine XS.bipush X0.here hx rfl (hb hby d0_64) ?_
  refine XS.icmpYes X0.here hx rfl (pc0 := 66) (pc' := 73) rfl (hb hby d0_66) rfl (feq (by decide : ¬ ((9:Int32) = (7:Int32)))).2 (by decide) (by decide) ?_
  refine iN X0 hx hby d0_73 rfl ?_
  refine XS.bipush X0.here hx rfl (hb hby d0_74) ?_
  show St p e below s₁ m 76 #[iv (9:Int32)] [(.int (8:Int32)), (.int (9:Int32))] _
  refine XS.icmpYes X0.here hx rfl (pc0 := 76) (pc' := 83) rfl (hb hby d0_76) rfl (feq (by decide : ¬ ((9:Int32) = (8:Int32)))).2 (by decide) (by decide) ?_
  refine st3 _ ?_
  exact retA X3 hx Bd.returns rfl rfl (hb hby d0_86) hr
theorem d16_34 : dk method_3_code 34 (.iconst 1) 1 := by decide +kernel
theorem d16_35 : dk method_3_code 35 (.iload_n 1) 1 := by decide +kernel
theorem d16_36 : dk method_3_code 36 (.iconst 3) 1 := by decide +kernel
theorem d16_37 : dk method_3_code 37 .iand 1 := by decide +kernel
theorem d16_38 : dk method_3_code 38 .iadd 1 := by decide +kernel
theorem d16_39 : dk method_3_code 39 .ireturn 1 := by decide +kernel
def r16_5Q (Z : State) (p1 p2:Int32) (h0 : Heap) (n0 : Nat) : QT := fun v h L => v = some (.int ((1:Int32) + (p2 &&& (3:Int32)))) ∧ Fr n0 L ∧ h = h0
theorem r16_5 (hw : HW a0 Z) (p1 p2:Int32) (O0 : Old Z n0 h0) (hc3 : ¬ (p1 = (6:Int32))) (hc4 : ¬ (p1 = (7:Int32))) (hc5 : ¬ (p1 = (8:Int32))) (hc6 : p1 = (9:Int32)) :
    MF l y16 method_3_code 2 (some .int) [] (rM 0 0 0 0) Z #[(.int p1), (.int p2)] h0 (r16_5Q Z p1 p2 h0 n0) := by
  refine own_in (pq pn4) #[iv p1, iv p2] (fun _ => by first | (simp [entryFrame, mkF, argsToLocals, Value.category]; done) | rfl) ?_
  intro p e s m below meth c s₁ Bd hx hby hml hown hnm hZ e0 X0
  have N0 := Fr.nil n0
  refine fin (Q := r16_5Q Z p1 p2 h0 n0) (rm := (rM 0 0 0 0)) Bd X0 e0 (some (.int ((1:Int32) + (p2 &&& (3:Int32))))) nofun ⟨rfl, N0, rfl⟩ (by decide) (by decide) fun fs hr => ?_
  show St p e below s₁ m 0 #[iv p1, iv p2] [] _
  refine iN X0 hx hby d16_0 rfl ?_
  refine XS.bipush X0.here hx rfl (hb hby d16_1) ?_
  refine XS.icmpYes X0.here hx rfl (pc0 := 3) (pc' := 8) rfl (hb hby d16_3) rfl (feq hc3).2 (by decide) (by decide) ?_
  refine iN X0 hx hby d16_8 rfl ?_
  refine XS.bipush X0.here hx rfl (hb hby d16_9) ?_
  refine XS.icmpYes X0.here hx rfl (pc0 := 11) (pc' := 16) rfl (hb hby d16_11) rfl (feq hc4).2 (by decide) (by decide) ?_
  refine iN X0 hx hby d16_16 rfl ?_
  refine XS.bipush X0.here hx rfl (hb hby d16_17) ?_
  refine XS.icmpYes X0.here hx rfl (pc0 := 19) (pc' := 28) rfl (hb hby d16_19) rfl (feq hc5).2 (by decide) (by decide) ?_
  refine iN X0 hx hby d16_28 rfl ?_
  refine XS.bipush X0.here hx rfl (hb hby d16_29) ?_
  refine XS.icmpNo X0.here hx rfl (hb hby d16_31) rfl (teq hc6).2 ?_
  refine iC X0 hx hby d16_34 ?_
  refine iN X0 hx hby d16_35 rfl ?_
  refine iC X0 hx hby d16_36 ?_
  refine XS.iand X0.here hx rfl (hb hby d16_37) rfl ?_
  refine XS.iadd X0.here hx rfl (hb hby d16_38) rfl ?_
  exact retI X0 hx Bd.returns (hb hby d16_39) hr
theorem g1_39 (p1 p2 p3 p4:Int32) (a5 : Addr) (p6 p7:Int32) (a8 a9 a10 a11 a12 : Addr) (p13:Int32) (a14 : Addr) (p15:Int32)
    (H0 : SG p l e R s m args below meth c T0 locs cells slots Z a0 h0 n0 0 0 1 13) (hc16 : ¬ (p4 = (6:Int32))) (hc17 : ¬ (p4 = (7:Int32))) (hc18 : ¬ (p4 = (8:Int32))) (hc19 : p4 = (9:Int32)) :
    ∃ (T' : State) (L' : List Loc), Stand p l e R s m args below meth c T' L' (cells + 0) (slots + 0) ∧ T'.heap = h0 ∧ Fr n0 L' ∧
      ∀ target, St p e below T' m 271 #[iv p1, iv p2, iv p3, iv p4, rv a5, iv p6, iv p7, rv a8, rv a9, rv a10, rv a11, rv a12, iv p13, rv a14, .val .null, iv ((1:Int32) + (p2 &&& (3:Int32))), un, un, un] [] target → St p e below T0 m 264 #[iv p1, iv p2, iv p3, iv p4, rv a5, iv p6, iv p7, rv a8, rv a9, rv a10, rv a11, rv a12, iv p13, rv a14, .val .null, iv p15, un, un, un] [] target := by
  obtain ⟨X0, hx, hZ, hw, hby, hml, hown, e0, O0, N0, rc, rs, rf, rl⟩ := H0
  obtain ⟨T20, _, _, X20, hQ20, st20⟩ := cS X0 hx hZ hw hown (y := y16) 133 rfl 134 rfl 3 rfl 135 rfl (by decide) (W := 0) (r16_5 hw p4 p2 O0 hc16 hc17 hc18 hc19) (by show 0 + 1 ≤ R.frames; omega) (by show 0 + (2 + 11) + 0 ≤ R.locals; omega) e0 (g := (mkF m 266 #[iv p1, iv p2, iv p3, iv p4, rv a5, iv p6, iv p7, rv a8, rv a9, rv a10, rv a11, rv a12, iv p13, rv a14, .val .null, iv p15, un, un, un] [(.int p2), (.int p4)])) rfl (by rw [hml]; rfl) (argsL := [(.int p4), (.int p2)]) (rest := []) (lenOf pd21 rfl) rfl wf (hb hby at_266) rfl (by show cells + 0 + 0 ≤ R.cells; omega) (by show slots + 0 + 0 ≤ R.slots; omega)
  obtain ⟨rfl, N20q, e20⟩ := hQ20
  have N20 := Fr.app N0 N20q
  replace X20 : Stand p l e R _ m args below meth c T20 _ (cells + 0) (slots + 0) := X20
  refine ⟨T20, _, X20.more (by omega) (by omega), e20, N20, fun target kt => ?_⟩
  show St p e below T0 m 264 #[iv p1, iv p2, iv p3, iv p4, rv a5, iv p6, iv p7, rv a8, rv a9, rv a10, rv a11, rv a12, iv p13, rv a14, .val .null, iv p15, un, un, un] [] _
  refine iN X0 hx hby at_264 rfl ?_
  refine iN X0 hx hby at_265 rfl ?_
  refine st20 _ ?_
  refine XS.istore X20.here hx rfl (hb hby at_269) rfl (l' := #[iv p1, iv p2, iv p3, iv p4, rv a5, iv p6, iv p7, rv a8, rv a9, rv a10, rv a11, rv a12, iv p13, rv a14, .val .null, iv ((1:Int32) + (p2 &&& (3:Int32))), un, un, un]) rfl ?_
  exact kt
theorem law_19 (l : Launch) (Z : State) (a0 : Array Value) (hw : HW a0 Z) (ws : List Jvm.Cond) (w0 w1 w2 w3 w4 w5 w6 w7 w8 w9 w10 w11 w12 w13 w14 : Addr) (k_w10 k_w11 k_w13 : ClassId) (wMir : Addr) (B : Base Z w0 w1 w2 w3 w4 w5 w6 w7 w8 w9 w10 w11 w12 w13 w14 k_w10 k_w11 k_w13 wMir) (i0 i1 i2:Int32) (h0 : Heap) (n0 : Nat) (O0 : Old Z n0 h0) (pin0 : ((i0 &&& (2147483647:Int32)) % (10:Int32)) = (9:Int32)) (pin2 : (i2 &&& (1:Int32)) = (0:Int32)) (pin3 : (i2 &&& (2:Int32)) = (0:Int32)) :
    MetFree l x (head1 (Jvm.Cond.code x code maxLocals ret :: ws) room_1) (fun a U => a = #[(.int i0), (.int i1), (.int i2)] ∧ Z.Warmed39 U.vm ∧ U.heap = h0) (fun _ _ _ _ _ => True) (fun _ U o U' => ∃ v L, o = .returned v ∧ lawQ n0 v U'.heap L ∧ ReturnedEndW U o U' L room_1.cells room_1.slots) := by
  refine own_in (pq pn4) #[iv i0, iv i1, iv i2, un, un, un, un, un, un, un, un, un, un, un, un, un, un, un, un] (fun _ => by first | (simp [entryFrame, mkF, argsToLocals, Value.category, maxLocals]; done) | rfl) ?_
  intro p e s m below meth c s₁ Bd hx hby hml hown hnm hZ e0 X0
  have N0 := Fr.nil n0
  skip
  obtain ⟨_, _, _, X1, hQ1, st1⟩ := cS X0 hx hZ hw hown (y := y0) 1 rfl 2 rfl 3 rfl 4 rfl (by decide) (W := 0) (r0_10 hw w9 O0 (B.2.1.2.2.2.2.2.2.1)) (by decide) (by decide) e0 (g := (mkF m 9 #[iv i0, iv i1, iv i2, iv (9:Int32), un, un, un, un, un, un, un, un, un, un, un, un, un, un, un] [(.int (9:Int32))])) rfl (by rw [hml]; rfl) (argsL := [(.int (9:Int32))]) (rest := []) (lenOf pd9 rfl) rfl wf (hb hby at_9) rfl (by decide) (by decide)
  obtain ⟨rfl, N1q, e1⟩ := hQ1
  have N1 := Fr.app N0 N1q
  obtain ⟨_, _, X2, e2, N2, st2⟩ := g1_24 i0 i1 i2 (9:Int32) w9 ⟨X1, hx, hZ, hw, hby, hml, hown, e1, O0, N1, by decide, by decide, by decide, by decide⟩ (by decide) (by decide) (by decide)
  obtain ⟨_, h3, _, vm3, b3_0, b3_1, b3_2, b3_3, b3_4, X3, e3, hSq3, N3, K3, _, _, _, _, lo3_5, _, _, _, _, _, _, _, _, nq3_14, _, _, _, _, _, _, _, _, _, f3_24, _, _, f3_27, _, _, _, _, f3_32, f3_33, f3_34, f3_35, st3⟩ := g1_2 i0 i1 i2 (9:Int32) w9 (0:Int32) (1:Int32) w11 w1 w12 ⟨X2, hx, hZ, hw, hby, hml, hown, e2, O0, N2, by decide, by decide, by decide, by decide⟩ (B.2.1.2.2.2.2.2.2.2.2.2.2.1) (B.1.2.2.1) (B.2.2.1.1)
  obtain ⟨Y3, hS3, hZ3, hown3⟩ := rebS (s := s) (vm0 := s.vm) (State.WarmedH.since (State.WarmedH.refl s) 0) (Nat.zero_le _) X3 hSq3 K3.1 hZ hown
  have O_K3 : Old Z n0 h3 := O0.keep K3 all0
  have g4 : n0 ≤ b3_4 := Nat.le_trans (Nat.le_trans (Nat.le_of_eq O0.1.symm) O0.2.1) lo3_5
  obtain ⟨_, h5, _, b5_0, k5_0, X5, e5, N5, K5, _, f5_2, f5_3, f5_4, f5_5, f5_6, f5_7, _, st5⟩ := g1_25 i0 i1 i2 (9:Int32) w9 (0:Int32) (1:Int32) b3_0 b3_1 b3_2 b3_3 b3_4 (0:Int32) w11 k_w11 ⟨Y3, hx, hZ3, hw, hby, hml, hown3, e3, O_K3, N3, by decide, by decide, by decide, by decide⟩ (by decide) (by decide) f3_32 f3_33 g4 f3_34 f3_35 (B.2.2.2.1.2.2.2.2.2.2.2.1) (B.2.1.2.2.2.2.2.2.2.2.2.2.1) f3_24
  have O_K5 : Old Z n0 h5 := O_K3.keep K5 (allS g4 all0)
  obtain ⟨_, h7, _, vm7, b7_0, X7, e7, hSq7, N7, K7, _, f7_2, f7_3, st7⟩ := g1_26 i0 i1 i2 (9:Int32) w9 (0:Int32) (1:Int32) b3_0 b3_1 b3_2 b3_3 b3_4 (0:Int32) ⟨X5, hx, hZ3, hw, hby, hml, hown3, e5, O_K5, N5, by decide, by decide, by decide, by decide⟩ (by decide) pin2 pin3
  obtain ⟨Y7, hS7, hZ7, hown7⟩ := rebS (s := s) (vm0 := vm3) hS3 (Nat.le_trans (Nat.le_refl _) K5.1) X7 hSq7 K7.1 hZ3 hown3
  have O_K7 : Old Z n0 h7 := O_K5.keep K7 all0
  obtain ⟨_, _, X8, e8, N8, st8⟩ := g1_27 i0 i1 i2 (9:Int32) w9 (0:Int32) (1:Int32) b3_0 b3_1 b3_2 b3_3 b3_4 (0:Int32) b7_0 (0:Int32) (0:Int32) ⟨Y7, hx, hZ7, hw, hby, hml, hown7, e7, O_K7, N7, by decide, by decide, by decide, by decide⟩ (by decide) (by decide)
  obtain ⟨_, _, X9, e9, N9, st9⟩ := g1_39 i0 i1 i2 (9:Int32) w9 (0:Int32) (1:Int32) b3_0 b3_1 b3_2 b3_3 b3_4 (0:Int32) b7_0 (0:Int32) ⟨X8, hx, hZ7, hw, hby, hml, hown7, e8, O_K7, N8, by decide, by decide, by decide, by decide⟩ (by decide) (by decide) (by decide) (by decide)
  have f10 := (f5_2.keep K7)
  have f11 := (f5_5.keep K7 nin0)
  have f12 := (f5_4.keep K7 nin0)
  have f13 := (f5_7.keep K7)
  have f14 := (f5_6.keep K7 nin0)
  have f15 := ((f3_24.keep K5).keep K7)
  have f16 := (f5_3.keep K7 nin0)
  have f17 := ((f3_27.keep K5 (ninS nq3_14 nin0)).keep K7 nin0)
  obtain ⟨_, h18, _, b18_0, _, X18, e18, N18, K18, _, _, _, _, _, _, _, _, _, _, st18⟩ := g1_29 i0 i1 i2 (9:Int32) w9 (0:Int32) (1:Int32) b3_0 b3_1 b3_2 b3_3 b3_4 (0:Int32) b7_0 ((1:Int32) + (i1 &&& (3:Int32))) b5_0 wMir k5_0 b3_2 w14 w2 w3 w12 ⟨X9, hx, hZ7, hw, hby, hml, hown7, e9, O_K7, N9, by decide, by decide, by decide, by decide⟩ f10 f11 f12 f13 (B.2.2.2.2.2.2.2.2.2.2.2.2.2.2.2) f14 f15 (B.2.2.1.2.2.2.2.1) f7_2 f7_3 f16 f17 (B.1.2.2.2.2.1) (Ne.symm B.2.2.2.2.2.2.1.2.2.2.2.2.2.1) (B.1.2.2.2.2.2.2.1) (Ne.symm B.2.2.2.2.2.2.2.1.2.2.2.2.2.1) (B.2.2.1.1)
  have O_K18 : Old Z n0 h18 := O_K7.keep K18 all0
  obtain ⟨T19, _, X19, e19, N19, st19⟩ := g1_30 i0 i1 i2 (9:Int32) w9 (0:Int32) (1:Int32) b3_0 b3_1 b3_2 b3_3 b3_4 (0:Int32) b7_0 ((1:Int32) + (i1 &&& (3:Int32))) b18_0 w12 w13 k_w13 ⟨X18, hx, hZ7, hw, hby, hml, hown7, e18, O_K18, N18, by decide, by decide, by decide, by decide⟩ (by decide) (B.2.2.1.2.1) (B.2.2.1.2.2.1) (B.2.2.2.1.2.2.2.2.2.2.2.2.1)
  obtain ⟨_, hr, hrun, hended, hE⟩ := Stand.leaveW (s := s) (vm₁ := vm7) X19 hS7 (by rw [e19]; exact (Nat.le_trans (Nat.le_refl _) K18.1)) (v := some (.int (1:Int32))) (fun h => by rw [Bd.returns] at h; cases h)
  refine ⟨_, _, ?_, hrun, hended, _, _, rfl, ?_, hE.1, hE.2.1, hE.2.2.1, hE.2.2.2.mono (by decide) (by decide)⟩
  · show St p e below s₁ m 0 #[iv i0, iv i1, iv i2, un, un, un, un, un, un, un, un, un, un, un, un, un, un, un, un] [] _
    refine iN X0 hx hby at_0 rfl ?_
    refine X0.ldcInt hx hown (mo hZ hw 0 rfl) (g := (mkF m 1 #[iv i0, iv i1, iv i2, un, un, un, un, un, un, un, un, un, un, un, un, un, un, un, un] [(.int i0)])) rfl (hb hby at_1) _ ?_
    refine XS.iand X0.here hx rfl (hb hby at_3) rfl ?_
    refine XS.bipush X0.here hx rfl (hb hby at_4) ?_
    refine Jvm.RoadKit.iremM (g := (mkF m 6 #[iv i0, iv i1, iv i2, un, un, un, un, un, un, un, un, un, un, un, un, un, un, un, un] [(.int (10:Int32)), (.int (i0 &&& (2147483647:Int32)))])) X0 hx rfl (hb hby at_6) rfl (by decide : ¬ ((10:Int32) = (0:Int32))) ?_
    show St p e below s₁ m 7 #[iv i0, iv i1, iv i2, un, un, un, un, un, un, un, un, un, un, un, un, un, un, un, un] [(.int ((i0 &&& (2147483647:Int32)) % (10:Int32)))] _
    rw [pin0]
    refine XS.istoreN X0.here hx rfl (hb hby at_7) rfl (l' := #[iv i0, iv i1, iv i2, iv (9:Int32), un, un, un, un, un, un, un, un, un, un, un, un, un, un, un]) rfl ?_
    refine iN X0 hx hby at_8 rfl ?_
    refine st1 _ ?_
    refine XS.astore X1.here hx rfl (hb hby at_12) rfl rfl (l' := #[iv i0, iv i1, iv i2, iv (9:Int32), rv w9, un, un, un, un, un, un, un, un, un, un, un, un, un, un]) rfl ?_
    refine st2 _ ?_
    refine st3 _ ?_
    refine st5 _ ?_
    refine st7 _ ?_
    refine st8 _ ?_
    refine st9 _ ?_
    refine st18 _ ?_
    refine st19 _ ?_
    exact retN X19 hx (t := .boolean) Bd.returns (by simp) (hb hby at_310) hr
  · show lawQ n0 _ T19.heap _
    rw [e19]
    exact ⟨rfl, N19⟩
theorem law_20 (l : Launch) (Z : State) (a0 : Array Value) (hw : HW a0 Z) (ws : List Jvm.Cond) (w0 w1 w2 w3 w4 w5 w6 w7 w8 w9 w10 w11 w12 w13 w14 : Addr) (k_w10 k_w11 k_w13 : ClassId) (wMir : Addr) (B : Base Z w0 w1 w2 w3 w4 w5 w6 w7 w8 w9 w10 w11 w12 w13 w14 k_w10 k_w11 k_w13 wMir) (i0 i1 i2:Int32) (h0 : Heap) (n0 : Nat) (O0 : Old Z n0 h0) (pin0 : ((i0 &&& (2147483647:Int32)) % (10:Int32)) = (9:Int32)) (pin2 : (i2 &&& (1:Int32)) = (1:Int32)) (pin3 : (i2 &&& (2:Int32)) = (0:Int32)) :
    MetFree l x (head1 (Jvm.Cond.code x code maxLocals ret :: ws) room_1) (fun a U => a = #[(.int i0), (.int i1), (.int i2)] ∧ Z.Warmed39 U.vm ∧ U.heap = h0) (fun _ _ _ _ _ => True) (fun _ U o U' => ∃ v L, o = .returned v ∧ lawQ n0 v U'.heap L ∧ ReturnedEndW U o U' L room_1.cells room_1.slots) := by
  refine own_in (pq pn4) #[iv i0, iv i1, iv i2, un, un, un, un, un, un, un, un, un, un, un, un, un, un, un, un] (fun _ => by first | (simp [entryFrame, mkF, argsToLocals, Value.category, maxLocals]; done) | rfl) ?_
  intro p e s m below meth c s₁ Bd hx hby hml hown hnm hZ e0 X0
  have N0 := Fr.nil n0
  skip
  obtain ⟨_, _, _, X1, hQ1, st1⟩ := cS X0 hx hZ hw hown (y := y0) 1 rfl 2 rfl 3 rfl 4 rfl (by decide) (W := 0) (r0_10 hw w9 O0 (B.2.1.2.2.2.2.2.2.1)) (by decide) (by decide) e0 (g := (mkF m 9 #[iv i0, iv i1, iv i2, iv (9:Int32), un, un, un, un, un, un, un, un, un, un, un, un, un, un, un] [(.int (9:Int32))])) rfl (by rw [hml]; rfl) (argsL := [(.int (9:Int32))]) (rest := []) (lenOf pd9 rfl) rfl wf (hb hby at_9) rfl (by decide) (by decide)
  obtain ⟨rfl, N1q, e1⟩ := hQ1
  have N1 := Fr.app N0 N1q
  obtain ⟨_, _, X2, e2, N2, st2⟩ := g1_24 i0 i1 i2 (9:Int32) w9 ⟨X1, hx, hZ, hw, hby, hml, hown, e1, O0, N1, by decide, by decide, by decide, by decide⟩ (by decide) (by decide) (by decide)
  obtain ⟨_, h3, _, vm3, b3_0, b3_1, b3_2, b3_3, b3_4, X3, e3, hSq3, N3, K3, _, _, _, _, lo3_5, _, _, _, _, _, _, _, _, nq3_14, _, _, _, _, _, _, _, _, _, f3_24, _, _, f3_27, _, _, _, _, f3_32, f3_33, f3_34, f3_35, st3⟩ := g1_2 i0 i1 i2 (9:Int32) w9 (0:Int32) (1:Int32) w11 w1 w12 ⟨X2, hx, hZ, hw, hby, hml, hown, e2, O0, N2, by decide, by decide, by decide, by decide⟩ (B.2.1.2.2.2.2.2.2.2.2.2.2.1) (B.1.2.2.1) (B.2.2.1.1)
  obtain ⟨Y3, hS3, hZ3, hown3⟩ := rebS (s := s) (vm0 := s.vm) (State.WarmedH.since (State.WarmedH.refl s) 0) (Nat.zero_le _) X3 hSq3 K3.1 hZ hown
  have O_K3 : Old Z n0 h3 := O0.keep K3 all0
  have g4 : n0 ≤ b3_4 := Nat.le_trans (Nat.le_trans (Nat.le_of_eq O0.1.symm) O0.2.1) lo3_5
  obtain ⟨_, h5, _, b5_0, k5_0, X5, e5, N5, K5, _, f5_2, f5_3, f5_4, f5_5, f5_6, f5_7, _, st5⟩ := g1_25 i0 i1 i2 (9:Int32) w9 (0:Int32) (1:Int32) b3_0 b3_1 b3_2 b3_3 b3_4 (0:Int32) w11 k_w11 ⟨Y3, hx, hZ3, hw, hby, hml, hown3, e3, O_K3, N3, by decide, by decide, by decide, by decide⟩ (by decide) (by decide) f3_32 f3_33 g4 f3_34 f3_35 (B.2.2.2.1.2.2.2.2.2.2.2.1) (B.2.1.2.2.2.2.2.2.2.2.2.2.1) f3_24
  have O_K5 : Old Z n0 h5 := O_K3.keep K5 (allS g4 all0)
  obtain ⟨_, h7, _, vm7, b7_0, X7, e7, hSq7, N7, K7, _, f7_2, f7_3, st7⟩ := g1_37 i0 i1 i2 (9:Int32) w9 (0:Int32) (1:Int32) b3_0 b3_1 b3_2 b3_3 b3_4 (0:Int32) ⟨X5, hx, hZ3, hw, hby, hml, hown3, e5, O_K5, N5, by decide, by decide, by decide, by decide⟩ (by decide) pin2 (by decide) (by decide) pin3
  obtain ⟨Y7, hS7, hZ7, hown7⟩ := rebS (s := s) (vm0 := vm3) hS3 (Nat.le_trans (Nat.le_refl _) K5.1) X7 hSq7 K7.1 hZ3 hown3
  have O_K7 : Old Z n0 h7 := O_K5.keep K7 all0
  obtain ⟨_, _, X8, e8, N8, st8⟩ := g1_27 i0 i1 i2 (9:Int32) w9 (0:Int32) (1:Int32) b3_0 b3_1 b3_2 b3_3 b3_4 (0:Int32) b7_0 (0:Int32) (0:Int32) ⟨Y7, hx, hZ7, hw, hby, hml, hown7, e7, O_K7, N7, by decide, by decide, by decide, by decide⟩ (by decide) (by decide)
  obtain ⟨_, _, X9, e9, N9, st9⟩ := g1_39 i0 i1 i2 (9:Int32) w9 (0:Int32) (1:Int32) b3_0 b3_1 b3_2 b3_3 b3_4 (0:Int32) b7_0 (0:Int32) ⟨X8, hx, hZ7, hw, hby, hml, hown7, e8, O_K7, N8, by decide, by decide, by decide, by decide⟩ (by decide) (by decide) (by decide) (by decide)
  have f10 := (f5_2.keep K7)
  have f11 := (f5_5.keep K7 nin0)
  have f12 := (f5_4.keep K7 nin0)
  have f13 := (f5_7.keep K7)
  have f14 := (f5_6.keep K7 nin0)
  have f15 := ((f3_24.keep K5).keep K7)
  have f16 := (f5_3.keep K7 nin0)
  have f17 := ((f3_27.keep K5 (ninS nq3_14 nin0)).keep K7 nin0)
  obtain ⟨_, h18, _, b18_0, _, X18, e18, N18, K18, _, _, _, _, _, _, _, _, _, _, st18⟩ := g1_29 i0 i1 i2 (9:Int32) w9 (0:Int32) (1:Int32) b3_0 b3_1 b3_2 b3_3 b3_4 (0:Int32) b7_0 ((1:Int32) + (i1 &&& (3:Int32))) b5_0 wMir k5_0 b3_2 w14 w2 w3 w12 ⟨X9, hx, hZ7, hw, hby, hml, hown7, e9, O_K7, N9, by decide, by decide, by decide, by decide⟩ f10 f11 f12 f13 (B.2.2.2.2.2.2.2.2.2.2.2.2.2.2.2) f14 f15 (B.2.2.1.2.2.2.2.1) f7_2 f7_3 f16 f17 (B.1.2.2.2.2.1) (Ne.symm B.2.2.2.2.2.2.1.2.2.2.2.2.2.1) (B.1.2.2.2.2.2.2.1) (Ne.symm B.2.2.2.2.2.2.2.1.2.2.2.2.2.1) (B.2.2.1.1)
  have O_K18 : Old Z n0 h18 := O_K7.keep K18 all0
  obtain ⟨T19, _, X19, e19, N19, st19⟩ := g1_30 i0 i1 i2 (9:Int32) w9 (0:Int32) (1:Int32) b3_0 b3_1 b3_2 b3_3 b3_4 (0:Int32) b7_0 ((1:Int32) + (i1 &&& (3:Int32))) b18_0 w12 w13 k_w13 ⟨X18, hx, hZ7, hw, hby, hml, hown7, e18, O_K18, N18, by decide, by decide, by decide, by decide⟩ (by decide) (B.2.2.1.2.1) (B.2.2.1.2.2.1) (B.2.2.2.1.2.2.2.2.2.2.2.2.1)
  obtain ⟨_, hr, hrun, hended, hE⟩ := Stand.leaveW (s := s) (vm₁ := vm7) X19 hS7 (by rw [e19]; exact (Nat.le_trans (Nat.le_refl _) K18.1)) (v := some (.int (1:Int32))) (fun h => by rw [Bd.returns] at h; cases h)
  refine ⟨_, _, ?_, hrun, hended, _, _, rfl, ?_, hE.1, hE.2.1, hE.2.2.1, hE.2.2.2.mono (by decide) (by decide)⟩
  · show St p e below s₁ m 0 #[iv i0, iv i1, iv i2, un, un, un, un, un, un, un, un, un, un, un, un, un, un, un, un] [] _
    refine iN X0 hx hby at_0 rfl ?_
    refine X0.ldcInt hx hown (mo hZ hw 0 rfl) (g := (mkF m 1 #[iv i0, iv i1, iv i2, un, un, un, un, un, un, un, un, un, un, un, un, un, un, un, un] [(.int i0)])) rfl (hb hby at_1) _ ?_
    refine XS.iand X0.here hx rfl (hb hby at_3) rfl ?_
    refine XS.bipush X0.here hx rfl (hb hby at_4) ?_
    refine Jvm.RoadKit.iremM (g := (mkF m 6 #[iv i0, iv i1, iv i2, un, un, un, un, un, un, un, un, un, un, un, un, un, un, un, un] [(.int (10:Int32)), (.int (i0 &&& (2147483647:Int32)))])) X0 hx rfl (hb hby at_6) rfl (by decide : ¬ ((10:Int32) = (0:Int32))) ?_
    show St p e below s₁ m 7 #[iv i0, iv i1, iv i2, un, un, un, un, un, un, un, un, un, un, un, un, un, un, un, un] [(.int ((i0 &&& (2147483647:Int32)) % (10:Int32)))] _
    rw [pin0]
    refine XS.istoreN X0.here hx rfl (hb hby at_7) rfl (l' := #[iv i0, iv i1, iv i2, iv (9:Int32), un, un, un, un, un, un, un, un, un, un, un, un, un, un, un]) rfl ?_
    refine iN X0 hx hby at_8 rfl ?_
    refine st1 _ ?_
    refine XS.astore X1.here hx rfl (hb hby at_12) rfl rfl (l' := #[iv i0, iv i1, iv i2, iv (9:Int32), rv w9, un, un, un, un, un, un, un, un, un, un, un, un, un, un]) rfl ?_
    refine st2 _ ?_
    refine st3 _ ?_
    refine st5 _ ?_
    refine st7 _ ?_
    refine st8 _ ?_
    refine st9 _ ?_
    refine st18 _ ?_
    refine st19 _ ?_
    exact retN X19 hx (t := .boolean) Bd.returns (by simp) (hb hby at_310) hr
  · show lawQ n0 _ T19.heap _
    rw [e19]
    exact ⟨rfl, N19⟩
theorem law_21 (l : Launch) (Z : State) (a0 : Array Value) (hw : HW a0 Z) (ws : List Jvm.Cond) (w0 w1 w2 w3 w4 w5 w6 w7 w8 w9 w10 w11 w12 w13 w14 : Addr) (k_w10 k_w11 k_w13 : ClassId) (wMir : Addr) (B : Base Z w0 w1 w2 w3 w4 w5 w6 w7 w8 w9 w10 w11 w12 w13 w14 k_w10 k_w11 k_w13 wMir) (i0 i1 i2:Int32) (h0 : Heap) (n0 : Nat) (O0 : Old Z n0 h0) (pin0 : ((i0 &&& (2147483647:Int32)) % (10:Int32)) = (9:Int32)) (pin2 : (i2 &&& (1:Int32)) = (0:Int32)) (pin3 : (i2 &&& (2:Int32)) = (2:Int32)) :
    MetFree l x (head1 (Jvm.Cond.code x code maxLocals ret :: ws) room_1) (fun a U => a = #[(.int i0), (.int i1), (.int i2)] ∧ Z.Warmed39 U.vm ∧ U.heap = h0) (fun _ _ _ _ _ => True) (fun _ U o U' => ∃ v L, o = .returned v ∧ lawQ n0 v U'.heap L ∧ ReturnedEndW U o U' L room_1.cells room_1.slots) := by
  refine own_in (pq pn4) #[iv i0, iv i1, iv i2, un, un, un, un, un, un, un, un, un, un, un, un, un, un, un, un] (fun _ => by first | (simp [entryFrame, mkF, argsToLocals, Value.category, maxLocals]; done) | rfl) ?_
  intro p e s m below meth c s₁ Bd hx hby hml hown hnm hZ e0 X0
  have N0 := Fr.nil n0
  skip
  obtain ⟨_, _, _, X1, hQ1, st1⟩ := cS X0 hx hZ hw hown (y := y0) 1 rfl 2 rfl 3 rfl 4 rfl (by decide) (W := 0) (r0_10 hw w9 O0 (B.2.1.2.2.2.2.2.2.1)) (by decide) (by decide) e0 (g := (mkF m 9 #[iv i0, iv i1, iv i2, iv (9:Int32), un, un, un, un, un, un, un, un, un, un, un, un, un, un, un] [(.int (9:Int32))])) rfl (by rw [hml]; rfl) (argsL := [(.int (9:Int32))]) (rest := []) (lenOf pd9 rfl) rfl wf (hb hby at_9) rfl (by decide) (by decide)
  obtain ⟨rfl, N1q, e1⟩ := hQ1
  have N1 := Fr.app N0 N1q
  obtain ⟨_, _, X2, e2, N2, st2⟩ := g1_24 i0 i1 i2 (9:Int32) w9 ⟨X1, hx, hZ, hw, hby, hml, hown, e1, O0, N1, by decide, by decide, by decide, by decide⟩ (by decide) (by decide) (by decide)
  obtain ⟨_, h3, _, vm3, b3_0, b3_1, b3_2, b3_3, b3_4, X3, e3, hSq3, N3, K3, _, _, _, _, lo3_5, _, _, _, _, _, _, _, _, nq3_14, _, _, _, _, _, _, _, _, _, f3_24, _, _, f3_27, _, _, _, _, f3_32, f3_33, f3_34, f3_35, st3⟩ := g1_2 i0 i1 i2 (9:Int32) w9 (0:Int32) (1:Int32) w11 w1 w12 ⟨X2, hx, hZ, hw, hby, hml, hown, e2, O0, N2, by decide, by decide, by decide, by decide⟩ (B.2.1.2.2.2.2.2.2.2.2.2.2.1) (B.1.2.2.1) (B.2.2.1.1)
  obtain ⟨Y3, hS3, hZ3, hown3⟩ := rebS (s := s) (vm0 := s.vm) (State.WarmedH.since (State.WarmedH.refl s) 0) (Nat.zero_le _) X3 hSq3 K3.1 hZ hown
  have O_K3 : Old Z n0 h3 := O0.keep K3 all0
  have g4 : n0 ≤ b3_4 := Nat.le_trans (Nat.le_trans (Nat.le_of_eq O0.1.symm) O0.2.1) lo3_5
  obtain ⟨_, h5, _, b5_0, k5_0, X5, e5, N5, K5, _, f5_2, f5_3, f5_4, f5_5, f5_6, f5_7, _, st5⟩ := g1_25 i0 i1 i2 (9:Int32) w9 (0:Int32) (1:Int32) b3_0 b3_1 b3_2 b3_3 b3_4 (0:Int32) w11 k_w11 ⟨Y3, hx, hZ3, hw, hby, hml, hown3, e3, O_K3, N3, by decide, by decide, by decide, by decide⟩ (by decide) (by decide) f3_32 f3_33 g4 f3_34 f3_35 (B.2.2.2.1.2.2.2.2.2.2.2.1) (B.2.1.2.2.2.2.2.2.2.2.2.2.1) f3_24
  have O_K5 : Old Z n0 h5 := O_K3.keep K5 (allS g4 all0)
  obtain ⟨_, h7, _, vm7, b7_0, X7, e7, hSq7, N7, K7, _, f7_2, f7_3, st7⟩ := g1_33 i0 i1 i2 (9:Int32) w9 (0:Int32) (1:Int32) b3_0 b3_1 b3_2 b3_3 b3_4 (0:Int32) ⟨X5, hx, hZ3, hw, hby, hml, hown3, e5, O_K5, N5, by decide, by decide, by decide, by decide⟩ (by decide) pin2 pin3
  obtain ⟨Y7, hS7, hZ7, hown7⟩ := rebS (s := s) (vm0 := vm3) hS3 (Nat.le_trans (Nat.le_refl _) K5.1) X7 hSq7 K7.1 hZ3 hown3
  have O_K7 : Old Z n0 h7 := O_K5.keep K7 all0
  obtain ⟨_, _, X8, e8, N8, st8⟩ := g1_27 i0 i1 i2 (9:Int32) w9 (0:Int32) (1:Int32) b3_0 b3_1 b3_2 b3_3 b3_4 (0:Int32) b7_0 (0:Int32) (1:Int32) ⟨Y7, hx, hZ7, hw, hby, hml, hown7, e7, O_K7, N7, by decide, by decide, by decide, by decide⟩ (by decide) (by decide)
  obtain ⟨_, _, X9, e9, N9, st9⟩ := g1_39 i0 i1 i2 (9:Int32) w9 (0:Int32) (1:Int32) b3_0 b3_1 b3_2 b3_3 b3_4 (0:Int32) b7_0 (1:Int32) ⟨X8, hx, hZ7, hw, hby, hml, hown7, e8, O_K7, N8, by decide, by decide, by decide, by decide⟩ (by decide) (by decide) (by decide) (by decide)
  have f10 := (f5_2.keep K7)
  have f11 := (f5_5.keep K7 nin0)
  have f12 := (f5_4.keep K7 nin0)
  have f13 := (f5_7.keep K7)
  have f14 := (f5_6.keep K7 nin0)
  have f15 := ((f3_24.keep K5).keep K7)
  have f16 := (f5_3.keep K7 nin0)
  have f17 := ((f3_27.keep K5 (ninS nq3_14 nin0)).keep K7 nin0)
  obtain ⟨_, h18, _, b18_0, _, X18, e18, N18, K18, _, _, _, _, _, _, _, _, _, _, st18⟩ := g1_29 i0 i1 i2 (9:Int32) w9 (0:Int32) (1:Int32) b3_0 b3_1 b3_2 b3_3 b3_4 (0:Int32) b7_0 ((1:Int32) + (i1 &&& (3:Int32))) b5_0 wMir k5_0 b3_2 w14 w2 w3 w12 ⟨X9, hx, hZ7, hw, hby, hml, hown7, e9, O_K7, N9, by decide, by decide, by decide, by decide⟩ f10 f11 f12 f13 (B.2.2.2.2.2.2.2.2.2.2.2.2.2.2.2) f14 f15 (B.2.2.1.2.2.2.2.1) f7_2 f7_3 f16 f17 (B.1.2.2.2.2.1) (Ne.symm B.2.2.2.2.2.2.1.2.2.2.2.2.2.1) (B.1.2.2.2.2.2.2.1) (Ne.symm B.2.2.2.2.2.2.2.1.2.2.2.2.2.1) (B.2.2.1.1)
  have O_K18 : Old Z n0 h18 := O_K7.keep K18 all0
  obtain ⟨T19, _, X19, e19, N19, st19⟩ := g1_30 i0 i1 i2 (9:Int32) w9 (0:Int32) (1:Int32) b3_0 b3_1 b3_2 b3_3 b3_4 (0:Int32) b7_0 ((1:Int32) + (i1 &&& (3:Int32))) b18_0 w12 w13 k_w13 ⟨X18, hx, hZ7, hw, hby, hml, hown7, e18, O_K18, N18, by decide, by decide, by decide, by decide⟩ (by decide) (B.2.2.1.2.1) (B.2.2.1.2.2.1) (B.2.2.2.1.2.2.2.2.2.2.2.2.1)
  obtain ⟨_, hr, hrun, hended, hE⟩ := Stand.leaveW (s := s) (vm₁ := vm7) X19 hS7 (by rw [e19]; exact (Nat.le_trans (Nat.le_refl _) K18.1)) (v := some (.int (1:Int32))) (fun h => by rw [Bd.returns] at h; cases h)
  refine ⟨_, _, ?_, hrun, hended, _, _, rfl, ?_, hE.1, hE.2.1, hE.2.2.1, hE.2.2.2.mono (by decide) (by decide)⟩
  · show St p e below s₁ m 0 #[iv i0, iv i1, iv i2, un, un, un, un, un, un, un, un, un, un, un, un, un, un, un, un] [] _
    refine iN X0 hx hby at_0 rfl ?_
    refine X0.ldcInt hx hown (mo hZ hw 0 rfl) (g := (mkF m 1 #[iv i0, iv i1, iv i2, un, un, un, un, un, un, un, un, un, un, un, un, un, un, un, un] [(.int i0)])) rfl (hb hby at_1) _ ?_
    refine XS.iand X0.here hx rfl (hb hby at_3) rfl ?_
    refine XS.bipush X0.here hx rfl (hb hby at_4) ?_
    refine Jvm.RoadKit.iremM (g := (mkF m 6 #[iv i0, iv i1, iv i2, un, un, un, un, un, un, un, un, un, un, un, un, un, un, un, un] [(.int (10:Int32)), (.int (i0 &&& (2147483647:Int32)))])) X0 hx rfl (hb hby at_6) rfl (by decide : ¬ ((10:Int32) = (0:Int32))) ?_
    show St p e below s₁ m 7 #[iv i0, iv i1, iv i2, un, un, un, un, un, un, un, un, un, un, un, un, un, un, un, un] [(.int ((i0 &&& (2147483647:Int32)) % (10:Int32)))] _
    rw [pin0]
    refine XS.istoreN X0.here hx rfl (hb hby at_7) rfl (l' := #[iv i0, iv i1, iv i2, iv (9:Int32), un, un, un, un, un, un, un, un, un, un, un, un, un, un, un]) rfl ?_
    refine iN X0 hx hby at_8 rfl ?_
    refine st1 _ ?_
    refine XS.astore X1.here hx rfl (hb hby at_12) rfl rfl (l' := #[iv i0, iv i1, iv i2, iv (9:Int32), rv w9, un, un, un, un, un, un, un, un, un, un, un, un, un, un]) rfl ?_
    refine st2 _ ?_
    refine st3 _ ?_
    refine st5 _ ?_
    refine st7 _ ?_
    refine st8 _ ?_
    refine st9 _ ?_
    refine st18 _ ?_
    refine st19 _ ?_
    exact retN X19 hx (t := .boolean) Bd.returns (by simp) (hb hby at_310) hr
  · show lawQ n0 _ T19.heap _
    rw [e19]
    exact ⟨rfl, N19⟩
theorem law_22 (l : Launch) (Z : State) (a0 : Array Value) (hw : HW a0 Z) (ws : List Jvm.Cond) (w0 w1 w2 w3 w4 w5 w6 w7 w8 w9 w10 w11 w12 w13 w14 : Addr) (k_w10 k_w11 k_w13 : ClassId) (wMir : Addr) (B : Base Z w0 w1 w2 w3 w4 w5 w6 w7 w8 w9 w10 w11 w12 w13 w14 k_w10 k_w11 k_w13 wMir) (i0 i1 i2:Int32) (h0 : Heap) (n0 : Nat) (O0 : Old Z n0 h0) (pin0 : ((i0 &&& (2147483647:Int32)) % (10:Int32)) = (9:Int32)) (pin2 : (i2 &&& (1:Int32)) = (1:Int32)) (pin3 : (i2 &&& (2:Int32)) = (2:Int32)) :
    MetFree l x (head1 (Jvm.Cond.code x code maxLocals ret :: ws) room_1) (fun a U => a = #[(.int i0), (.int i1), (.int i2)] ∧ Z.Warmed39 U.vm ∧ U.heap = h0) (fun _ _ _ _ _ => True) (fun _ U o U' => ∃ v L, o = .returned v ∧ lawQ n0 v U'.heap L ∧ ReturnedEndW U o U' L room_1.cells room_1.slots) := by
  refine own_in (pq pn4) #[iv i0, iv i1, iv i2, un, un, un, un, un, un, un, un, un, un, un, un, un, un, un, un] (fun _ => by first | (simp [entryFrame, mkF, argsToLocals, Value.category, maxLocals]; done) | rfl) ?_
  intro p e s m below meth c s₁ Bd hx hby hml hown hnm hZ e0 X0
  have N0 := Fr.nil n0
  skip
  obtain ⟨_, _, _, X1, hQ1, st1⟩ := cS X0 hx hZ hw hown (y := y0) 1 rfl 2 rfl 3 rfl 4 rfl (by decide) (W := 0) (r0_10 hw w9 O0 (B.2.1.2.2.2.2.2.2.1)) (by decide) (by decide) e0 (g := (mkF m 9 #[iv i0, iv i1, iv i2, iv (9:Int32), un, un, un, un, un, un, un, un, un, un, un, un, un, un, un] [(.int (9:Int32))])) rfl (by rw [hml]; rfl) (argsL := [(.int (9:Int32))]) (rest := []) (lenOf pd9 rfl) rfl wf (hb hby at_9) rfl (by decide) (by decide)
  obtain ⟨rfl, N1q, e1⟩ := hQ1
  have N1 := Fr.app N0 N1q
  obtain ⟨_, _, X2, e2, N2, st2⟩ := g1_24 i0 i1 i2 (9:Int32) w9 ⟨X1, hx, hZ, hw, hby, hml, hown, e1, O0, N1, by decide, by decide, by decide, by decide⟩ (by decide) (by decide) (by decide)
  obtain ⟨_, h3, _, vm3, b3_0, b3_1, b3_2, b3_3, b3_4, X3, e3, hSq3, N3, K3, _, _, _, _, lo3_5, _, _, _, _, _, _, _, _, nq3_14, _, _, _, _, _, _, _, _, _, f3_24, _, _, f3_27, _, _, _, _, f3_32, f3_33, f3_34, f3_35, st3⟩ := g1_2 i0 i1 i2 (9:Int32) w9 (0:Int32) (1:Int32) w11 w1 w12 ⟨X2, hx, hZ, hw, hby, hml, hown, e2, O0, N2, by decide, by decide, by decide, by decide⟩ (B.2.1.2.2.2.2.2.2.2.2.2.2.1) (B.1.2.2.1) (B.2.2.1.1)
  obtain ⟨Y3, hS3, hZ3, hown3⟩ := rebS (s := s) (vm0 := s.vm) (State.WarmedH.since (State.WarmedH.refl s) 0) (Nat.zero_le _) X3 hSq3 K3.1 hZ hown
  have O_K3 : Old Z n0 h3 := O0.keep K3 all0
  have g4 : n0 ≤ b3_4 := Nat.le_trans (Nat.le_trans (Nat.le_of_eq O0.1.symm) O0.2.1) lo3_5
  obtain ⟨_, h5, _, b5_0, k5_0, X5, e5, N5, K5, _, f5_2, f5_3, f5_4, f5_5, f5_6, f5_7, _, st5⟩ := g1_25 i0 i1 i2 (9:Int32) w9 (0:Int32) (1:Int32) b3_0 b3_1 b3_2 b3_3 b3_4 (0:Int32) w11 k_w11 ⟨Y3, hx, hZ3, hw, hby, hml, hown3, e3, O_K3, N3, by decide, by decide, by decide, by decide⟩ (by decide) (by decide) f3_32 f3_33 g4 f3_34 f3_35 (B.2.2.2.1.2.2.2.2.2.2.2.1) (B.2.1.2.2.2.2.2.2.2.2.2.2.1) f3_24
  have O_K5 : Old Z n0 h5 := O_K3.keep K5 (allS g4 all0)
  obtain ⟨_, h7, _, vm7, b7_0, X7, e7, hSq7, N7, K7, _, f7_2, f7_3, st7⟩ := g1_38 i0 i1 i2 (9:Int32) w9 (0:Int32) (1:Int32) b3_0 b3_1 b3_2 b3_3 b3_4 (0:Int32) ⟨X5, hx, hZ3, hw, hby, hml, hown3, e5, O_K5, N5, by decide, by decide, by decide, by decide⟩ (by decide) pin2 (by decide) (by decide) pin3
  obtain ⟨Y7, hS7, hZ7, hown7⟩ := rebS (s := s) (vm0 := vm3) hS3 (Nat.le_trans (Nat.le_refl _) K5.1) X7 hSq7 K7.1 hZ3 hown3
  have O_K7 : Old Z n0 h7 := O_K5.keep K7 all0
  obtain ⟨_, _, X8, e8, N8, st8⟩ := g1_27 i0 i1 i2 (9:Int32) w9 (0:Int32) (1:Int32) b3_0 b3_1 b3_2 b3_3 b3_4 (0:Int32) b7_0 (0:Int32) (1:Int32) ⟨Y7, hx, hZ7, hw, hby, hml, hown7, e7, O_K7, N7, by decide, by decide, by decide, by decide⟩ (by decide) (by decide)
  obtain ⟨_, _, X9, e9, N9, st9⟩ := g1_39 i0 i1 i2 (9:Int32) w9 (0:Int32) (1:Int32) b3_0 b3_1 b3_2 b3_3 b3_4 (0:Int32) b7_0 (1:Int32) ⟨X8, hx, hZ7, hw, hby, hml, hown7, e8, O_K7, N8, by decide, by decide, by decide, by decide⟩ (by decide) (by decide) (by decide) (by decide)
  have f10 := (f5_2.keep K7)
  have f11 := (f5_5.keep K7 nin0)
  have f12 := (f5_4.keep K7 nin0)
  have f13 := (f5_7.keep K7)
  have f14 := (f5_6.keep K7 nin0)
  have f15 := ((f3_24.keep K5).keep K7)
  have f16 := (f5_3.keep K7 nin0)
  have f17 := ((f3_27.keep K5 (ninS nq3_14 nin0)).keep K7 nin0)
  obtain ⟨_, h18, _, b18_0, _, X18, e18, N18, K18, _, _, _, _, _, _, _, _, _, _, st18⟩ := g1_29 i0 i1 i2 (9:Int32) w9 (0:Int32) (1:Int32) b3_0 b3_1 b3_2 b3_3 b3_4 (0:Int32) b7_0 ((1:Int32) + (i1 &&& (3:Int32))) b5_0 wMir k5_0 b3_2 w14 w2 w3 w12 ⟨X9, hx, hZ7, hw, hby, hml, hown7, e9, O_K7, N9, by decide, by decide, by decide, by decide⟩ f10 f11 f12 f13 (B.2.2.2.2.2.2.2.2.2.2.2.2.2.2.2) f14 f15 (B.2.2.1.2.2.2.2.1) f7_2 f7_3 f16 f17 (B.1.2.2.2.2.1) (Ne.symm B.2.2.2.2.2.2.1.2.2.2.2.2.2.1) (B.1.2.2.2.2.2.2.1) (Ne.symm B.2.2.2.2.2.2.2.1.2.2.2.2.2.1) (B.2.2.1.1)
  have O_K18 : Old Z n0 h18 := O_K7.keep K18 all0
  obtain ⟨T19, _, X19, e19, N19, st19⟩ := g1_30 i0 i1 i2 (9:Int32) w9 (0:Int32) (1:Int32) b3_0 b3_1 b3_2 b3_3 b3_4 (0:Int32) b7_0 ((1:Int32) + (i1 &&& (3:Int32))) b18_0 w12 w13 k_w13 ⟨X18, hx, hZ7, hw, hby, hml, hown7, e18, O_K18, N18, by decide, by decide, by decide, by decide⟩ (by decide) (B.2.2.1.2.1) (B.2.2.1.2.2.1) (B.2.2.2.1.2.2.2.2.2.2.2.2.1)
  obtain ⟨_, hr, hrun, hended, hE⟩ := Stand.leaveW (s := s) (vm₁ := vm7) X19 hS7 (by rw [e19]; exact (Nat.le_trans (Nat.le_refl _) K18.1)) (v := some (.int (1:Int32))) (fun h => by rw [Bd.returns] at h; cases h)
  refine ⟨_, _, ?_, hrun, hended, _, _, rfl, ?_, hE.1, hE.2.1, hE.2.2.1, hE.2.2.2.mono (by decide) (by decide)⟩
  · show St p e below s₁ m 0 #[iv i0, iv i1, iv i2, un, un, un, un, un, un, un, un, un, un, un, un, un, un, un, un] [] _
    refine iN X0 hx hby at_0 rfl ?_
    refine X0.ldcInt hx hown (mo hZ hw 0 rfl) (g := (mkF m 1 #[iv i0, iv i1, iv i2, un, un, un, un, un, un, un, un, un, un, un, un, un, un, un, un] [(.int i0)])) rfl (hb hby at_1) _ ?_
    refine XS.iand X0.here hx rfl (hb hby at_3) rfl ?_
    refine XS.bipush X0.here hx rfl (hb hby at_4) ?_
    refine Jvm.RoadKit.iremM (g := (mkF m 6 #[iv i0, iv i1, iv i2, un, un, un, un, un, un, un, un, un, un, un, un, un, un, un, un] [(.int (10:Int32)), (.int (i0 &&& (2147483647:Int32)))])) X0 hx rfl (hb hby at_6) rfl (by decide : ¬ ((10:Int32) = (0:Int32))) ?_
    show St p e below s₁ m 7 #[iv i0, iv i1, iv i2, un, un, un, un, un, un, un, un, un, un, un, un, un, un, un, un] [(.int ((i0 &&& (2147483647:Int32)) % (10:Int32)))] _
    rw [pin0]
    refine XS.istoreN X0.here hx rfl (hb hby at_7) rfl (l' := #[iv i0, iv i1, iv i2, iv (9:Int32), un, un, un, un, un, un, un, un, un, un, un, un, un, un, un]) rfl ?_
    refine iN X0 hx hby at_8 rfl ?_
    refine st1 _ ?_
    refine XS.astore X1.here hx rfl (hb hby at_12) rfl rfl (l' := #[iv i0, iv i1, iv i2, iv (9:Int32), rv w9, un, un, un, un, un, un, un, un, un, un, un, un, un, un]) rfl ?_
    refine st2 _ ?_
    refine st3 _ ?_
    refine st5 _ ?_
    refine st7 _ ?_
    refine st8 _ ?_
    refine st9 _ ?_
    refine st18 _ ?_
    refine st19 _ ?_
    exact retN X19 hx (t := .boolean) Bd.returns (by simp) (hb hby at_310) hr
  · show lawQ n0 _ T19.heap _
    rw [e19]
    exact ⟨rfl, N19⟩
theorem own_rem10 (x:Int32) : ((x &&& (2147483647:Int32)) % (10:Int32)) = (0:Int32) ∨ ((x &&& (2147483647:Int32)) % (10:Int32)) = (1:Int32) ∨ ((x &&& (2147483647:Int32)) % (10:Int32)) = (2:Int32) ∨ ((x &&& (2147483647:Int32)) % (10:Int32)) = (3:Int32) ∨ ((x &&& (2147483647:Int32)) % (10:Int32)) = (4:Int32) ∨ ((x &&& (2147483647:Int32)) % (10:Int32)) = (5:Int32) ∨ ((x &&& (2147483647:Int32)) % (10:Int32)) = (6:Int32) ∨ ((x &&& (2147483647:Int32)) % (10:Int32)) = (7:Int32) ∨ ((x &&& (2147483647:Int32)) % (10:Int32)) = (8:Int32) ∨ ((x &&& (2147483647:Int32)) % (10:Int32)) = (9:Int32) := by
  have a := c_mask x 2147483647 31 (by decide) (by decide)
  have b := (c_irem (x &&& 2147483647) 10 10 (by decide)).1 (by omega)
  have h0 : (0:Int32).toInt = 0 := rfl
  have h1 : (1:Int32).toInt = 1 := rfl
  have h2 : (2:Int32).toInt = 2 := rfl
  have h3 : (3:Int32).toInt = 3 := rfl
  have h4 : (4:Int32).toInt = 4 := rfl
  have h5 : (5:Int32).toInt = 5 := rfl
  have h6 : (6:Int32).toInt = 6 := rfl
  have h7 : (7:Int32).toInt = 7 := rfl
  have h8 : (8:Int32).toInt = 8 := rfl
  have h9 : (9:Int32).toInt = 9 := rfl
  simp only [← Int32.toInt_inj, h0, h1, h2, h3, h4, h5, h6, h7, h8, h9]
  omega
theorem own_and1 (x:Int32) : (x &&& (1:Int32)) = (0:Int32) ∨ (x &&& (1:Int32)) = (1:Int32) := by
  have a := c_mask x 1 1 (by decide) (by decide)
  have h0 : (0:Int32).toInt = 0 := rfl
  have h1 : (1:Int32).toInt = 1 := rfl
  simp only [← Int32.toInt_inj, h0, h1]
  omega
theorem own_and2 (x:Int32) : (x &&& (2:Int32)) = (0:Int32) ∨ (x &&& (2:Int32)) = (2:Int32) := by
  have e : (x &&& 2).toBitVec = x.toBitVec &&& BitVec.twoPow 32 1 := rfl
  have z : (0:Int32).toBitVec = 0#32 := rfl
  have t : (2:Int32).toBitVec = BitVec.twoPow 32 1 := rfl
  simp only [← Int32.toBitVec_inj, e, z, t]
  rw [BitVec.and_twoPow]
  split
  · exact Or.inr rfl
  · exact Or.inl rfl
theorem all_roads (l : Launch) (Z : State) (a0 : Array Value) (hw : ∀ d ∈ tables_1, d.before a0 Z = true) (ws : List Jvm.Cond) (w0 w1 w2 w3 w4 w5 w6 w7 w8 w9 w10 w11 w12 w13 w14 : Addr) (k_w10 k_w11 k_w13 : ClassId) (wMir : Addr) (B : Base Z w0 w1 w2 w3 w4 w5 w6 w7 w8 w9 w10 w11 w12 w13 w14 k_w10 k_w11 k_w13 wMir) (i0 i1 i2:Int32) (h0 : Heap) (n0 : Nat) (O0 : Old Z n0 h0) :
    MetFree l x (head1 (Jvm.Cond.code x code maxLocals ret :: ws) room_1) (fun a U => a = #[(.int i0), (.int i1), (.int i2)] ∧ Z.Warmed39 U.vm ∧ U.heap = h0) (fun _ _ _ _ _ => True) (fun _ U o U' => ∃ v L, o = .returned v ∧ (v = some (.int (1:Int32)) ∧ Fr n0 L) ∧ ReturnedEndW U o U' L room_1.cells room_1.slots) := by
  rcases own_rem10 i0 with p | p | p | p | p | p | p | p | p | p
  · exact law_1 l Z a0 hw ws w0 w1 w2 w3 w4 w5 w6 w7 w8 w9 w10 w11 w12 w13 w14 k_w10 k_w11 k_w13 wMir B i0 i1 i2 h0 n0 O0 p
  · exact law_2 l Z a0 hw ws w0 w1 w2 w3 w4 w5 w6 w7 w8 w9 w10 w11 w12 w13 w14 k_w10 k_w11 k_w13 wMir B i0 i1 i2 h0 n0 O0 p
  · exact law_3 l Z a0 hw ws w0 w1 w2 w3 w4 w5 w6 w7 w8 w9 w10 w11 w12 w13 w14 k_w10 k_w11 k_w13 wMir B i0 i1 i2 h0 n0 O0 p
  · exact law_4 l Z a0 hw ws w0 w1 w2 w3 w4 w5 w6 w7 w8 w9 w10 w11 w12 w13 w14 k_w10 k_w11 k_w13 wMir B i0 i1 i2 h0 n0 O0 p
  · rcases own_and1 i1 with c | c
    · exact law_5 l Z a0 hw ws w0 w1 w2 w3 w4 w5 w6 w7 w8 w9 w10 w11 w12 w13 w14 k_w10 k_w11 k_w13 wMir B i0 i1 i2 h0 n0 O0 p c
    · exact law_6 l Z a0 hw ws w0 w1 w2 w3 w4 w5 w6 w7 w8 w9 w10 w11 w12 w13 w14 k_w10 k_w11 k_w13 wMir B i0 i1 i2 h0 n0 O0 p c
  · rcases own_and1 i1 with c | c
    · exact law_7 l Z a0 hw ws w0 w1 w2 w3 w4 w5 w6 w7 w8 w9 w10 w11 w12 w13 w14 k_w10 k_w11 k_w13 wMir B i0 i1 i2 h0 n0 O0 p c
    · exact law_8 l Z a0 hw ws w0 w1 w2 w3 w4 w5 w6 w7 w8 w9 w10 w11 w12 w13 w14 k_w10 k_w11 k_w13 wMir B i0 i1 i2 h0 n0 O0 p c
  · rcases own_and1 i2 with u | u <;> rcases own_and2 i2 with v | v
    · exact law_9 l Z a0 hw ws w0 w1 w2 w3 w4 w5 w6 w7 w8 w9 w10 w11 w12 w13 w14 k_w10 k_w11 k_w13 wMir B i0 i1 i2 h0 n0 O0 p u v
    · exact law_11 l Z a0 hw ws w0 w1 w2 w3 w4 w5 w6 w7 w8 w9 w10 w11 w12 w13 w14 k_w10 k_w11 k_w13 wMir B i0 i1 i2 h0 n0 O0 p u v
    · exact law_10 l Z a0 hw ws w0 w1 w2 w3 w4 w5 w6 w7 w8 w9 w10 w11 w12 w13 w14 k_w10 k_w11 k_w13 wMir B i0 i1 i2 h0 n0 O0 p u
    · exact law_10 l Z a0 hw ws w0 w1 w2 w3 w4 w5 w6 w7 w8 w9 w10 w11 w12 w13 w14 k_w10 k_w11 k_w13 wMir B i0 i1 i2 h0 n0 O0 p u
  · rcases own_and1 i2 with u | u <;> rcases own_and2 i2 with v | v
    · exact law_12 l Z a0 hw ws w0 w1 w2 w3 w4 w5 w6 w7 w8 w9 w10 w11 w12 w13 w14 k_w10 k_w11 k_w13 wMir B i0 i1 i2 h0 n0 O0 p u v
    · exact law_14 l Z a0 hw ws w0 w1 w2 w3 w4 w5 w6 w7 w8 w9 w10 w11 w12 w13 w14 k_w10 k_w11 k_w13 wMir B i0 i1 i2 h0 n0 O0 p u v
    · exact law_13 l Z a0 hw ws w0 w1 w2 w3 w4 w5 w6 w7 w8 w9 w10 w11 w12 w13 w14 k_w10 k_w11 k_w13 wMir B i0 i1 i2 h0 n0 O0 p u
    · exact law_13 l Z a0 hw ws w0 w1 w2 w3 w4 w5 w6 w7 w8 w9 w10 w11 w12 w13 w14 k_w10 k_w11 k_w13 wMir B i0 i1 i2 h0 n0 O0 p u
  · rcases own_and1 i2 with u | u <;> rcases own_and2 i2 with v | v
    · exact law_15 l Z a0 hw ws w0 w1 w2 w3 w4 w5 w6 w7 w8 w9 w10 w11 w12 w13 w14 k_w10 k_w11 k_w13 wMir B i0 i1 i2 h0 n0 O0 p u v
    · exact law_17 l Z a0 hw ws w0 w1 w2 w3 w4 w5 w6 w7 w8 w9 w10 w11 w12 w13 w14 k_w10 k_w11 k_w13 wMir B i0 i1 i2 h0 n0 O0 p u v
    · exact law_16 l Z a0 hw ws w0 w1 w2 w3 w4 w5 w6 w7 w8 w9 w10 w11 w12 w13 w14 k_w10 k_w11 k_w13 wMir B i0 i1 i2 h0 n0 O0 p u v
    · exact law_18 l Z a0 hw ws w0 w1 w2 w3 w4 w5 w6 w7 w8 w9 w10 w11 w12 w13 w14 k_w10 k_w11 k_w13 wMir B i0 i1 i2 h0 n0 O0 p u v
  · rcases own_and1 i2 with u | u <;> rcases own_and2 i2 with v | v
    · exact law_19 l Z a0 hw ws w0 w1 w2 w3 w4 w5 w6 w7 w8 w9 w10 w11 w12 w13 w14 k_w10 k_w11 k_w13 wMir B i0 i1 i2 h0 n0 O0 p u v
    · exact law_21 l Z a0 hw ws w0 w1 w2 w3 w4 w5 w6 w7 w8 w9 w10 w11 w12 w13 w14 k_w10 k_w11 k_w13 wMir B i0 i1 i2 h0 n0 O0 p u v
    · exact law_20 l Z a0 hw ws w0 w1 w2 w3 w4 w5 w6 w7 w8 w9 w10 w11 w12 w13 w14 k_w10 k_w11 k_w13 wMir B i0 i1 i2 h0 n0 O0 p u v
    · exact law_22 l Z a0 hw ws w0 w1 w2 w3 w4 w5 w6 w7 w8 w9 w10 w11 w12 w13 w14 k_w10 k_w11 k_w13 wMir B i0 i1 i2 h0 n0 O0 p u v
theorem comes_1 {Post : Tables → Env → Array Value → State → Outcome → State → Prop} (hpost : ∀ tb e args s v u, (limb_1_1.after args s (.returned v) u = true ∧ limb_1_2.after args s (.returned v) u = true ∧ True) → FramedW s (.returned v) u (Jvm.fieldLocs frame_1_writes args s ++ Jvm.arrayLocs frame_1_arrays args s ++ Jvm.staticLocs frame_1_statics s) 48 6400 → Post tb e args s (.returned v) u) :
    ArmFor flags0 classFile x code maxLocals ret World_1 tables_1 room_1 Calls_1 rest_1 Pre_1 Post := by
  intro l hfl _ _ p e ha hc hk s m args below hf hA hF happ hP
  obtain ⟨hcalls, hrest, hpre⟩ := hP
  obtain ⟨-, -, -, _, -, -, -, hat⟩ := (Spec.applies_iff hf).mp happ
  obtain ⟨hg, hn⟩ := and_e (Cond.before_iff.mp (show (Jvm.Cond.and given_1 narrow_1).before args s = true from hpre))
  obtain ⟨gg1, gg2⟩ := and_e hg
  obtain ⟨gg3, gg4⟩ := and_e gg2
  obtain ⟨gg5, gg6⟩ := and_e gg4
  obtain ⟨w0, w1, w2, rfl⟩ : ∃ w0 w1 w2 : Value, args = #[w0, w1, w2] := by
    have hs : args.size = 3 := by simpa [Cond.value, given_1] using gg1
    obtain ⟨L⟩ := args
    match L, hs with
    | [w0, w1, w2], _ => exact ⟨w0, w1, w2, rfl⟩
  have hw := fun d (hd : d ∈ tables_1) => atoms_spec (ws := Jvm.Cond.code x code maxLocals ret :: tables_1) hat d (List.mem_cons_of_mem _ hd)
  have hfit : Fit s := fun {y c} hc i hi => by
    obtain ⟨ha, rfl⟩ := Array.getElem?_eq_some_iff.mp hc
    have q := List.all_eq_true.mp ((Array.all_eq_true_iff_forall_mem.mp hF) _ (Array.getElem_mem ha)) i (List.mem_range.mpr hi)
    simpa [Array.getElem?_eq_getElem hi] using q
  obtain ⟨hsets, _⟩ := atoms_of _ (rest_1_c_eq ▸ (show rest_1_c.before _ s = true from hrest))
  obtain ⟨i0, ei0⟩ := is_v gg3
  obtain rfl : w0 = (.int i0) := Option.some.inj ei0
  obtain ⟨i1, ei1⟩ := is_v gg5
  obtain rfl : w1 = (.int i1) := Option.some.inj ei1
  obtain ⟨i2, ei2⟩ := is_v gg6
  obtain rfl : w2 = (.int i2) := Option.some.inj ei2
  obtain ⟨nr1, hn⟩ := and_e hn
  obtain ⟨nr2, hn⟩ := and_e hn
  obtain ⟨nr3, hn⟩ := and_e hn
  obtain ⟨nr4, hn⟩ := and_e hn
  obtain ⟨nr5, hn⟩ := and_e hn
  obtain ⟨nr6, hn⟩ := and_e hn
  obtain ⟨nr7, hn⟩ := and_e hn
  obtain ⟨nr8, hn⟩ := and_e hn
  obtain ⟨nr9, hn⟩ := and_e hn
  obtain ⟨nr10, hn⟩ := and_e hn
  obtain ⟨nr11, hn⟩ := and_e hn
  obtain ⟨nr12, hn⟩ := and_e hn
  obtain ⟨nr13, hn⟩ := and_e hn
  obtain ⟨nr14, hn⟩ := and_e hn
  obtain ⟨nr15, hn⟩ := and_e hn
  obtain ⟨nr16, hn⟩ := and_e hn
  obtain ⟨nr17, hn⟩ := and_e hn
  obtain ⟨nr18, hn⟩ := and_e hn
  obtain ⟨nr19, hn⟩ := and_e hn
  have nr20 := hn
  obtain ⟨w0, ev_w0⟩ := exa_v nr1
  obtain ⟨w1, ev_w1⟩ := exa_v nr2
  obtain ⟨w2, ev_w2⟩ := exa_v nr3
  obtain ⟨w3, ev_w3⟩ := exa_v nr6
  obtain ⟨w4, ev_w4⟩ := exa_v nr8
  obtain ⟨w5, ev_w5⟩ := exa_v nr10
  obtain ⟨w6, ev_w6⟩ := exa_v nr12
  obtain ⟨w7, ev_w7⟩ := exa_v nr14
  obtain ⟨w8, ev_w8⟩ := exa_v nr16
  obtain ⟨w9, ev_w9⟩ := exa_v nr18
  obtain ⟨w10, ev_w10⟩ := exa_v (Cond.before_iff.mp (hsets _ (List.mem_of_getElem? (i := 4) rfl)))
  obtain ⟨w11, ev_w11⟩ := exa_v (Cond.before_iff.mp (hsets _ (List.mem_of_getElem? (i := 7) rfl)))
  obtain ⟨w12, ev_w12⟩ := exa_v (Cond.before_iff.mp (hsets _ (List.mem_of_getElem? (i := 11) rfl)))
  obtain ⟨w13, ev_w13⟩ := exa_v (Cond.before_iff.mp (hsets _ (List.mem_of_getElem? (i := 13) rfl)))
  have fe_w13 := ev_w13
  rw [fld_at ev_w12] at fe_w13
  obtain ⟨w14, ev_w14⟩ := exa_v (Cond.before_iff.mp (hsets _ (List.mem_of_getElem? (i := 18) rfl)))
  have fi_w0_ordinal := own_ord ev_w0 nr4
  have fi_w2_ordinal := own_ord ev_w2 nr5
  have fi_w3_ordinal := own_ord ev_w3 nr7
  have fi_w4_ordinal := own_ord ev_w4 nr9
  have fi_w5_ordinal := own_ord ev_w5 nr11
  have fi_w6_ordinal := own_ord ev_w6 nr13
  have fi_w7_ordinal := own_ord ev_w7 nr15
  have fi_w8_ordinal := own_ord ev_w8 nr17
  have fi_w9_ordinal := own_ord ev_w9 nr19
  have fi_w1_ordinal := own_ord ev_w1 nr20
  have fi_w12_allowNulls := own_ord ev_w12 (Cond.before_iff.mp (hsets _ (List.mem_of_getElem? (i := 15) rfl)))
  obtain ⟨cl_w10, Ar_w10⟩ := Arr.start ev_w10 (Cond.before_iff.mp (hsets _ (List.mem_of_getElem? (i := 3) rfl)))
  have len_w10 := own_len ev_w10 Ar_w10 (Cond.before_iff.mp (hsets _ (List.mem_of_getElem? (i := 5) rfl)))
  obtain ⟨cl_w11, Ar_w11⟩ := Arr.start ev_w11 (Cond.before_iff.mp (hsets _ (List.mem_of_getElem? (i := 6) rfl)))
  have len_w11 := own_len ev_w11 Ar_w11 (Cond.before_iff.mp (hsets _ (List.mem_of_getElem? (i := 8) rfl)))
  obtain ⟨cl_w13, Ar_w13⟩ := Arr.start ev_w13 (Cond.before_iff.mp (hsets _ (List.mem_of_getElem? (i := 12) rfl)))
  have len_w13 := own_len ev_w13 Ar_w13 (Cond.before_iff.mp (hsets _ (List.mem_of_getElem? (i := 14) rfl)))
  obtain ⟨⟨cM, kM, wMir, mm1, mm2, mm3⟩, -⟩ := hcalls
  have hB : Base s w0 w1 w2 w3 w4 w5 w6 w7 w8 w9 w10 w11 w12 w13 w14 cl_w10.cls cl_w11.cls cl_w13.cls wMir := ⟨⟨Sta.start ev_w0 (Or.inr ⟨(ow hw 6 rfl), (ow hw 7 rfl)⟩), Exa.start ev_w0 nr1, Sta.start ev_w1 (Or.inr ⟨(ow hw 6 rfl), (ow hw 38 rfl)⟩), Exa.start ev_w1 nr2, Sta.start ev_w2 (Or.inr ⟨(ow hw 6 rfl), (ow hw 142 rfl)⟩), Exa.start ev_w2 nr3, Sta.start ev_w3 (Or.inr ⟨(ow hw 6 rfl), (ow hw 144 rfl)⟩), Exa.start ev_w3 nr6, Sta.start ev_w4 (Or.inr ⟨(ow hw 6 rfl), (ow hw 159 rfl)⟩), Exa.start ev_w4 nr8, Sta.start ev_w5 (Or.inr ⟨(ow hw 6 rfl), (ow hw 287 rfl)⟩), Exa.start ev_w5 nr10⟩, ⟨Sta.start ev_w6 (Or.inr ⟨(ow hw 6 rfl), (ow hw 346 rfl)⟩), Exa.start ev_w6 nr12, Sta.start ev_w7 (Or.inr ⟨(ow hw 6 rfl), (ow hw 349 rfl)⟩), Exa.start ev_w7 nr14, Sta.start ev_w8 (Or.inr ⟨(ow hw 6 rfl), (ow hw 351 rfl)⟩), Exa.start ev_w8 nr16, Sta.start ev_w9 (Or.inr ⟨(ow hw 6 rfl), (ow hw 353 rfl)⟩), Exa.start ev_w9 nr18, Sta.start ev_w10 (Or.inl (hsets _ (List.mem_of_getElem? (i := 1) rfl))), Exa.start ev_w10 (Cond.before_iff.mp (hsets _ (List.mem_of_getElem? (i := 4) rfl))), Sta.start ev_w11 (Or.inr ⟨(ow hw 10 rfl), (hsets _ (List.mem_of_getElem? (i := 2) rfl))⟩), Exa.start ev_w11 (Cond.before_iff.mp (hsets _ (List.mem_of_getElem? (i := 7) rfl)))⟩, ⟨Sta.start ev_w12 (Or.inl (hsets _ (List.mem_of_getElem? (i := 10) rfl))), Exa.start ev_w12 (Cond.before_iff.mp (hsets _ (List.mem_of_getElem? (i := 11) rfl))), Fld.start fe_w13, Exa.start ev_w13 (Cond.before_iff.mp (hsets _ (List.mem_of_getElem? (i := 13) rfl))), Sta.start ev_w14 (Or.inl (hsets _ (List.mem_of_getElem? (i := 17) rfl))), Exa.start ev_w14 (Cond.before_iff.mp (hsets _ (List.mem_of_getElem? (i := 18) rfl))), Sta.start (own_sti (Cond.before_iff.mp (hsets _ (List.mem_of_getElem? (i := 21) rfl)))) (Or.inl (hsets _ (List.mem_of_getElem? (i := 20) rfl))), fi_w0_ordinal, fi_w2_ordinal, fi_w3_ordinal, fi_w4_ordinal, fi_w5_ordinal⟩, ⟨fi_w6_ordinal, fi_w7_ordinal, fi_w8_ordinal, fi_w9_ordinal, fi_w1_ordinal, fi_w12_allowNulls, Arv.start hfit Ar_w10 len_w10.1 len_w10.2 (by decide) rfl trivial, Arv.start hfit Ar_w11 len_w11.1 len_w11.2 (by decide) rfl trivial, Arv.start hfit Ar_w13 len_w13.1 len_w13.2 (by decide) rfl trivial, fi_w0_ordinal.ne fi_w1_ordinal (by decide), fi_w0_ordinal.ne fi_w2_ordinal (by decide), fi_w0_ordinal.ne fi_w3_ordinal (by decide)⟩, ⟨fi_w0_ordinal.ne fi_w4_ordinal (by decide), fi_w0_ordinal.ne fi_w5_ordinal (by decide), fi_w0_ordinal.ne fi_w6_ordinal (by decide), fi_w0_ordinal.ne fi_w7_ordinal (by decide), fi_w0_ordinal.ne fi_w8_ordinal (by decide), fi_w0_ordinal.ne fi_w9_ordinal (by decide), Exa.ne (Exa.start ev_w0 nr1) (Exa.start ev_w10 (Cond.before_iff.mp (hsets _ (List.mem_of_getElem? (i := 4) rfl)))) (by decide), Exa.ne (Exa.start ev_w0 nr1) (Exa.start ev_w11 (Cond.before_iff.mp (hsets _ (List.mem_of_getElem? (i := 7) rfl)))) (by decide), Exa.ne (Exa.start ev_w0 nr1) (Exa.start ev_w12 (Cond.before_iff.mp (hsets _ (List.mem_of_getElem? (i := 11) rfl)))) (by decide), Exa.ne (Exa.start ev_w0 nr1) (Exa.start ev_w13 (Cond.before_iff.mp (hsets _ (List.mem_of_getElem? (i := 13) rfl)))) (by decide), Exa.ne (Exa.start ev_w0 nr1) (Exa.start ev_w14 (Cond.before_iff.mp (hsets _ (List.mem_of_getElem? (i := 18) rfl)))) (by decide), fi_w1_ordinal.ne fi_w2_ordinal (by decide)⟩, ⟨fi_w1_ordinal.ne fi_w3_ordinal (by decide), fi_w1_ordinal.ne fi_w4_ordinal (by decide), fi_w1_ordinal.ne fi_w5_ordinal (by decide), fi_w1_ordinal.ne fi_w6_ordinal (by decide), fi_w1_ordinal.ne fi_w7_ordinal (by decide), fi_w1_ordinal.ne fi_w8_ordinal (by decide), fi_w1_ordinal.ne fi_w9_ordinal (by decide), Exa.ne (Exa.start ev_w1 nr2) (Exa.start ev_w10 (Cond.before_iff.mp (hsets _ (List.mem_of_getElem? (i := 4) rfl)))) (by decide), Exa.ne (Exa.start ev_w1 nr2) (Exa.start ev_w11 (Cond.before_iff.mp (hsets _ (List.mem_of_getElem? (i := 7) rfl)))) (by decide), Exa.ne (Exa.start ev_w1 nr2) (Exa.start ev_w12 (Cond.before_iff.mp (hsets _ (List.mem_of_getElem? (i := 11) rfl)))) (by decide), Exa.ne (Exa.start ev_w1 nr2) (Exa.start ev_w13 (Cond.before_iff.mp (hsets _ (List.mem_of_getElem? (i := 13) rfl)))) (by decide), Exa.ne (Exa.start ev_w1 nr2) (Exa.start ev_w14 (Cond.before_iff.mp (hsets _ (List.mem_of_getElem? (i := 18) rfl)))) (by decide)⟩, ⟨fi_w2_ordinal.ne fi_w3_ordinal (by decide), fi_w2_ordinal.ne fi_w4_ordinal (by decide), fi_w2_ordinal.ne fi_w5_ordinal (by decide), fi_w2_ordinal.ne fi_w6_ordinal (by decide), fi_w2_ordinal.ne fi_w7_ordinal (by decide), fi_w2_ordinal.ne fi_w8_ordinal (by decide), fi_w2_ordinal.ne fi_w9_ordinal (by decide), Exa.ne (Exa.start ev_w2 nr3) (Exa.start ev_w10 (Cond.before_iff.mp (hsets _ (List.mem_of_getElem? (i := 4) rfl)))) (by decide), Exa.ne (Exa.start ev_w2 nr3) (Exa.start ev_w11 (Cond.before_iff.mp (hsets _ (List.mem_of_getElem? (i := 7) rfl)))) (by decide), Exa.ne (Exa.start ev_w2 nr3) (Exa.start ev_w12 (Cond.before_iff.mp (hsets _ (List.mem_of_getElem? (i := 11) rfl)))) (by decide), Exa.ne (Exa.start ev_w2 nr3) (Exa.start ev_w13 (Cond.before_iff.mp (hsets _ (List.mem_of_getElem? (i := 13) rfl)))) (by decide), Exa.ne (Exa.start ev_w2 nr3) (Exa.start ev_w14 (Cond.before_iff.mp (hsets _ (List.mem_of_getElem? (i := 18) rfl)))) (by decide)⟩, ⟨fi_w3_ordinal.ne fi_w4_ordinal (by decide), fi_w3_ordinal.ne fi_w5_ordinal (by decide), fi_w3_ordinal.ne fi_w6_ordinal (by decide), fi_w3_ordinal.ne fi_w7_ordinal (by decide), fi_w3_ordinal.ne fi_w8_ordinal (by decide), fi_w3_ordinal.ne fi_w9_ordinal (by decide), Exa.ne (Exa.start ev_w3 nr6) (Exa.start ev_w10 (Cond.before_iff.mp (hsets _ (List.mem_of_getElem? (i := 4) rfl)))) (by decide), Exa.ne (Exa.start ev_w3 nr6) (Exa.start ev_w11 (Cond.before_iff.mp (hsets _ (List.mem_of_getElem? (i := 7) rfl)))) (by decide), Exa.ne (Exa.start ev_w3 nr6) (Exa.start ev_w12 (Cond.before_iff.mp (hsets _ (List.mem_of_getElem? (i := 11) rfl)))) (by decide), Exa.ne (Exa.start ev_w3 nr6) (Exa.start ev_w13 (Cond.before_iff.mp (hsets _ (List.mem_of_getElem? (i := 13) rfl)))) (by decide), Exa.ne (Exa.start ev_w3 nr6) (Exa.start ev_w14 (Cond.before_iff.mp (hsets _ (List.mem_of_getElem? (i := 18) rfl)))) (by decide), fi_w4_ordinal.ne fi_w5_ordinal (by decide)⟩, ⟨fi_w4_ordinal.ne fi_w6_ordinal (by decide), fi_w4_ordinal.ne fi_w7_ordinal (by decide), fi_w4_ordinal.ne fi_w8_ordinal (by decide), fi_w4_ordinal.ne fi_w9_ordinal (by decide), Exa.ne (Exa.start ev_w4 nr8) (Exa.start ev_w10 (Cond.before_iff.mp (hsets _ (List.mem_of_getElem? (i := 4) rfl)))) (by decide), Exa.ne (Exa.start ev_w4 nr8) (Exa.start ev_w11 (Cond.before_iff.mp (hsets _ (List.mem_of_getElem? (i := 7) rfl)))) (by decide), Exa.ne (Exa.start ev_w4 nr8) (Exa.start ev_w12 (Cond.before_iff.mp (hsets _ (List.mem_of_getElem? (i := 11) rfl)))) (by decide), Exa.ne (Exa.start ev_w4 nr8) (Exa.start ev_w13 (Cond.before_iff.mp (hsets _ (List.mem_of_getElem? (i := 13) rfl)))) (by decide), Exa.ne (Exa.start ev_w4 nr8) (Exa.start ev_w14 (Cond.before_iff.mp (hsets _ (List.mem_of_getElem? (i := 18) rfl)))) (by decide), fi_w5_ordinal.ne fi_w6_ordinal (by decide), fi_w5_ordinal.ne fi_w7_ordinal (by decide), fi_w5_ordinal.ne fi_w8_ordinal (by decide)⟩, ⟨fi_w5_ordinal.ne fi_w9_ordinal (by decide), Exa.ne (Exa.start ev_w5 nr10) (Exa.start ev_w10 (Cond.before_iff.mp (hsets _ (List.mem_of_getElem? (i := 4) rfl)))) (by decide), Exa.ne (Exa.start ev_w5 nr10) (Exa.start ev_w11 (Cond.before_iff.mp (hsets _ (List.mem_of_getElem? (i := 7) rfl)))) (by decide), Exa.ne (Exa.start ev_w5 nr10) (Exa.start ev_w12 (Cond.before_iff.mp (hsets _ (List.mem_of_getElem? (i := 11) rfl)))) (by decide), Exa.ne (Exa.start ev_w5 nr10) (Exa.start ev_w13 (Cond.before_iff.mp (hsets _ (List.mem_of_getElem? (i := 13) rfl)))) (by decide), Exa.ne (Exa.start ev_w5 nr10) (Exa.start ev_w14 (Cond.before_iff.mp (hsets _ (List.mem_of_getElem? (i := 18) rfl)))) (by decide), fi_w6_ordinal.ne fi_w7_ordinal (by decide), fi_w6_ordinal.ne fi_w8_ordinal (by decide), fi_w6_ordinal.ne fi_w9_ordinal (by decide), Exa.ne (Exa.start ev_w6 nr12) (Exa.start ev_w10 (Cond.before_iff.mp (hsets _ (List.mem_of_getElem? (i := 4) rfl)))) (by decide), Exa.ne (Exa.start ev_w6 nr12) (Exa.start ev_w11 (Cond.before_iff.mp (hsets _ (List.mem_of_getElem? (i := 7) rfl)))) (by decide), Exa.ne (Exa.start ev_w6 nr12) (Exa.start ev_w12 (Cond.before_iff.mp (hsets _ (List.mem_of_getElem? (i := 11) rfl)))) (by decide)⟩, ⟨Exa.ne (Exa.start ev_w6 nr12) (Exa.start ev_w13 (Cond.before_iff.mp (hsets _ (List.mem_of_getElem? (i := 13) rfl)))) (by decide), Exa.ne (Exa.start ev_w6 nr12) (Exa.start ev_w14 (Cond.before_iff.mp (hsets _ (List.mem_of_getElem? (i := 18) rfl)))) (by decide), fi_w7_ordinal.ne fi_w8_ordinal (by decide), fi_w7_ordinal.ne fi_w9_ordinal (by decide), Exa.ne (Exa.start ev_w7 nr14) (Exa.start ev_w10 (Cond.before_iff.mp (hsets _ (List.mem_of_getElem? (i := 4) rfl)))) (by decide), Exa.ne (Exa.start ev_w7 nr14) (Exa.start ev_w11 (Cond.before_iff.mp (hsets _ (List.mem_of_getElem? (i := 7) rfl)))) (by decide), Exa.ne (Exa.start ev_w7 nr14) (Exa.start ev_w12 (Cond.before_iff.mp (hsets _ (List.mem_of_getElem? (i := 11) rfl)))) (by decide), Exa.ne (Exa.start ev_w7 nr14) (Exa.start ev_w13 (Cond.before_iff.mp (hsets _ (List.mem_of_getElem? (i := 13) rfl)))) (by decide), Exa.ne (Exa.start ev_w7 nr14) (Exa.start ev_w14 (Cond.before_iff.mp (hsets _ (List.mem_of_getElem? (i := 18) rfl)))) (by decide), fi_w8_ordinal.ne fi_w9_ordinal (by decide), Exa.ne (Exa.start ev_w8 nr16) (Exa.start ev_w10 (Cond.before_iff.mp (hsets _ (List.mem_of_getElem? (i := 4) rfl)))) (by decide), Exa.ne (Exa.start ev_w8 nr16) (Exa.start ev_w11 (Cond.before_iff.mp (hsets _ (List.mem_of_getElem? (i := 7) rfl)))) (by decide)⟩, ⟨Exa.ne (Exa.start ev_w8 nr16) (Exa.start ev_w12 (Cond.before_iff.mp (hsets _ (List.mem_of_getElem? (i := 11) rfl)))) (by decide), Exa.ne (Exa.start ev_w8 nr16) (Exa.start ev_w13 (Cond.before_iff.mp (hsets _ (List.mem_of_getElem? (i := 13) rfl)))) (by decide), Exa.ne (Exa.start ev_w8 nr16) (Exa.start ev_w14 (Cond.before_iff.mp (hsets _ (List.mem_of_getElem? (i := 18) rfl)))) (by decide), Exa.ne (Exa.start ev_w9 nr18) (Exa.start ev_w10 (Cond.before_iff.mp (hsets _ (List.mem_of_getElem? (i := 4) rfl)))) (by decide), Exa.ne (Exa.start ev_w9 nr18) (Exa.start ev_w11 (Cond.before_iff.mp (hsets _ (List.mem_of_getElem? (i := 7) rfl)))) (by decide), Exa.ne (Exa.start ev_w9 nr18) (Exa.start ev_w12 (Cond.before_iff.mp (hsets _ (List.mem_of_getElem? (i := 11) rfl)))) (by decide), Exa.ne (Exa.start ev_w9 nr18) (Exa.start ev_w13 (Cond.before_iff.mp (hsets _ (List.mem_of_getElem? (i := 13) rfl)))) (by decide), Exa.ne (Exa.start ev_w9 nr18) (Exa.start ev_w14 (Cond.before_iff.mp (hsets _ (List.mem_of_getElem? (i := 18) rfl)))) (by decide), Exa.ne (Exa.start ev_w10 (Cond.before_iff.mp (hsets _ (List.mem_of_getElem? (i := 4) rfl)))) (Exa.start ev_w12 (Cond.before_iff.mp (hsets _ (List.mem_of_getElem? (i := 11) rfl)))) (by decide), Exa.ne (Exa.start ev_w10 (Cond.before_iff.mp (hsets _ (List.mem_of_getElem? (i := 4) rfl)))) (Exa.start ev_w14 (Cond.before_iff.mp (hsets _ (List.mem_of_getElem? (i := 18) rfl)))) (by decide), Exa.ne (Exa.start ev_w11 (Cond.before_iff.mp (hsets _ (List.mem_of_getElem? (i := 7) rfl)))) (Exa.start ev_w12 (Cond.before_iff.mp (hsets _ (List.mem_of_getElem? (i := 11) rfl)))) (by decide), Exa.ne (Exa.start ev_w11 (Cond.before_iff.mp (hsets _ (List.mem_of_getElem? (i := 7) rfl)))) (Exa.start ev_w14 (Cond.before_iff.mp (hsets _ (List.mem_of_getElem? (i := 18) rfl)))) (by decide)⟩, ⟨Exa.ne (Exa.start ev_w12 (Cond.before_iff.mp (hsets _ (List.mem_of_getElem? (i := 11) rfl)))) (Exa.start ev_w13 (Cond.before_iff.mp (hsets _ (List.mem_of_getElem? (i := 13) rfl)))) (by decide), Exa.ne (Exa.start ev_w12 (Cond.before_iff.mp (hsets _ (List.mem_of_getElem? (i := 11) rfl)))) (Exa.start ev_w14 (Cond.before_iff.mp (hsets _ (List.mem_of_getElem? (i := 18) rfl)))) (by decide), Exa.ne (Exa.start ev_w13 (Cond.before_iff.mp (hsets _ (List.mem_of_getElem? (i := 13) rfl)))) (Exa.start ev_w14 (Cond.before_iff.mp (hsets _ (List.mem_of_getElem? (i := 18) rfl)))) (by decide), ⟨cM, kM, mm1, mm2, mm3.1⟩⟩⟩
  obtain ⟨n, _, h1, h2, h3, _, L, rfl, ⟨rfl, N⟩, hq⟩ := all_roads l s _ hw tables_1 w0 w1 w2 w3 w4 w5 w6 w7 w8 w9 w10 w11 w12 w13 w14 cl_w10.cls cl_w11.cls cl_w13.cls wMir hB i0 i1 i2 s.heap s.heap.size (Old.start s) p e ha hc hk s m _ below hf ((Spec.applies_iff_loose hf).mp happ).1 ⟨rfl, State.Warmed39.refl s, rfl⟩ trivial
  refine ⟨n, _, h1, h2, h3, hpost _ _ _ _ _ _ ⟨Cond.after_iff.mpr rfl, Cond.after_iff.mpr (eq_i res_at (Term.int_eval (1)) rfl), trivial⟩ ?_⟩
  exact ⟨hq.1, hq.2.1, hq.2.2.1, (hq.2.2.2.sift fun y hy => Or.inr (N y hy)).mono (by decide) (by decide)⟩
theorem main_1_1 : Claimed_1_1 := comes_1 fun _ _ _ _ _ _ h hF => ⟨h.1, hF⟩
theorem main_1_2 : Claimed_1_2 := comes_1 fun _ _ _ _ _ _ h hF => ⟨h.2.1, hF⟩
end Jvm.Pilot.@@N@@
namespace Jvm.Pilot.@@N@@
open Jvm Jvm.ClassFile Sem Op Lib Jvm.Free Jvm.Stand Jvm.Pilot.@@N@@.Jvm.D
/-! MADE BY PROGRAM (witnessworld.py) out of the Statement's table words and the real class files: 37 classes; the members and pool entries that the words name. The judged class is class 1, her method 3. -/
namespace start1
open Jvm.ClassFile
def u (s : String) : CpInfo := .utf8 (stringToUtf16 s)
/-- a pool by its gaps: so many unusable entries, then the entry; so many at the end -/
def gap : Nat → List CpInfo → List CpInfo
  | 0, r => r
  | n + 1, r => .unusable :: gap n r
def poolList (es : List (Nat × CpInfo)) (last : Nat) : List CpInfo := es.foldr (fun e r => gap e.1 (e.2 :: r)) (gap last [])
def pool (es : List (Nat × CpInfo)) (last : Nat) : Array CpInfo := ⟨poolList es last⟩
def fileOf (pool : Array CpInfo) (this : Nat) (attrs : Array Attribute := #[]) (ms : Array MethodInfo := #[]) (fl : Nat := 33) (sup : Nat := 0) (ifs : Array Nat := #[]) (fds : Array FieldInfo := #[]) : ClassFile where
  minorVersion := 0
  majorVersion := 65
  constantPool := pool
  accessFlags := fl
  thisClass := this
  superClass := sup
  interfaces := ifs
  fields := fds
  methods := ms
  attributes := attrs
def plain (name : String) (sup : Option ClassId) : Class where
  name := name
  kind := .ordinary
  loader := none
  accessFlags := 33
  super := sup
  interfaces := #[]
  cf := none
  fields := #[]
  methods := #[]
  instanceTypes := #[]
  staticTypes := #[]
  resolved := #[]
  callSites := []
  init := .initialized
  statics := none
  mirror := none

def pool0 : Array CpInfo := pool [(5, u "<init>"), (0, u "()V"), (1, .class_ 10), (1, u "java/lang/Object"), (0, u "getClass"), (0, u "()Ljava/lang/Class;")] 111

def k0c0 : Code := { maxStack := 0, maxLocals := 1, code := object_method_1_code, exceptionTable := #[], attributes := #[] }
def k0m0 : Method := { name := "<init>", desc := "()V", sig := { parameters := [], returnType := none }, accessFlags := 1, code := some k0c0 }
def k0m1 : Method := { name := "getClass", desc := "()Ljava/lang/Class;", sig := { parameters := [], returnType := some (.object "java/lang/Class") }, accessFlags := 273, code := none }
/-- java/lang/Object -/
def k0 : Class := { plain "java/lang/Object" none with
  accessFlags := 33
  interfaces := #[]
  cf := some (fileOf pool0 8 #[] #[{ accessFlags := 1, nameIndex := 5, descriptorIndex := 6, attributes := #[] }, { accessFlags := 273, nameIndex := 11, descriptorIndex := 12, attributes := #[] }] 33 0 #[] #[])
  fields := #[]
  methods := #[k0m0, k0m1]
  instanceTypes := #[]
  staticTypes := #[]
  resolved := Array.replicate 124 none
  statics := none }

def pool1 : Array CpInfo := pool [(2, .class_ 4), (0, .nameAndType 5 6), (0, u "java/lang/Object"), (0, u "<init>"), (0, u "()V"), (0, .fieldref 8 9), (0, .class_ 10), (0, .nameAndType 11 12), (0, u "tabula/engine/Concept$Kind"), (0, u "TOP"), (0, u "Ltabula/engine/Concept$Kind;"), (0, .fieldref 8 14), (0, .nameAndType 15 12), (0, u "BOTTOM"), (0, .fieldref 8 17), (0, .nameAndType 18 12), (0, u "NAME"), (0, .fieldref 8 20), (0, .nameAndType 21 12), (0, u "NEGATED_NAME"), (0, .fieldref 8 23), (0, .nameAndType 24 12), (0, u "AND"), (0, .fieldref 8 26), (0, .nameAndType 27 12), (0, u "OR"), (0, .fieldref 8 29), (0, .nameAndType 30 12), (0, u "SOME"), (0, .fieldref 8 32), (0, .nameAndType 33 12), (0, u "ALL"), (0, .fieldref 8 35), (0, .nameAndType 36 12), (0, u "AT_LEAST"), (0, .fieldref 8 38), (0, .nameAndType 39 12), (0, u "AT_MOST"), (0, .integer 2147483647), (0, .methodref 42 43), (0, .class_ 44), (0, .nameAndType 45 46), (0, u "tabula/engine/ConceptOperandsPinLaw"), (0, u "kindOf"), (0, u "(I)Ltabula/engine/Concept$Kind;"), (0, .class_ 48), (0, u "java/util/ArrayList"), (0, .methodref 47 3), (0, .class_ 51), (0, u "tabula/engine/Concept"), (0, .string 53), (0, u "A"), (0, .methodref 50 55), (0, .nameAndType 5 56), (0, u "(ILtabula/engine/Concept$Kind;Ljava/lang/String;Ltabula/engine/Role;ILjava/util/List;)V"), (0, .string 58), (0, u "B"), (0, .string 60), (0, u "C"), (0, .methodref 47 62), (0, .nameAndType 63 64), (0, u "add"), (0, u "(Ljava/lang/Object;)Z"), (0, .class_ 66), (0, u "tabula/engine/Role"), (0, .string 68), (0, u "r"), (0, .methodref 65 70), (0, .nameAndType 5 71), (0, u "(Ljava/lang/String;ZZ)V"), (0, .string 73), (0, u "N"), (0, .methodref 42 75), (0, .nameAndType 76 77), (0, u "cardinalityOf"), (0, u "(II)I"), (0, .methodref 50 79), (0, .nameAndType 80 81), (0, u "operands"), (0, u "()Ljava/util/List;"), (0, .interfaceMethodref 83 84), (0, .class_ 85), (0, .nameAndType 86 87), (0, u "java/util/List"), (0, u "isEmpty"), (0, u "()Z"), (0, .interfaceMethodref 83 89), (0, .nameAndType 90 91), (0, u "size"), (0, u "()I"), (0, .interfaceMethodref 83 93), (0, .nameAndType 94 95), (0, u "get"), (0, u "(I)Ljava/lang/Object;"), (3, u "law"), (0, u "(III)Z")] 6

def k1m0 : Method := { name := "<init>", desc := "()V", sig := { parameters := [], returnType := none }, accessFlags := 1, code := none }
def k1c1 : Code := { maxStack := 2, maxLocals := 1, code := method_2_code, exceptionTable := #[], attributes := #[] }
def k1m1 : Method := { name := "kindOf", desc := "(I)Ltabula/engine/Concept$Kind;", sig := { parameters := [.int], returnType := some (.object "tabula/engine/Concept$Kind") }, accessFlags := 10, code := some k1c1 }
def k1c2 : Code := { maxStack := 3, maxLocals := 2, code := method_3_code, exceptionTable := #[], attributes := #[] }
def k1m2 : Method := { name := "cardinalityOf", desc := "(II)I", sig := { parameters := [.int, .int], returnType := some .int }, accessFlags := 10, code := some k1c2 }
def k1c3 : Code := { maxStack := 8, maxLocals := 19, code := code, exceptionTable := #[], attributes := #[] }
def k1m3 : Method := { name := "law", desc := "(III)Z", sig := { parameters := [.int, .int, .int], returnType := some .boolean }, accessFlags := 9, code := some k1c3 }
/-- tabula/engine/ConceptOperandsPinLaw -/
def k1 : Class := { plain "tabula/engine/ConceptOperandsPinLaw" (some 0) with
  accessFlags := 49
  interfaces := #[]
  cf := some (fileOf pool1 42 #[] #[{ accessFlags := 1, nameIndex := 5, descriptorIndex := 6, attributes := #[] }, { accessFlags := 10, nameIndex := 45, descriptorIndex := 46, attributes := #[] }, { accessFlags := 10, nameIndex := 76, descriptorIndex := 77, attributes := #[] }, { accessFlags := 9, nameIndex := 99, descriptorIndex := 100, attributes := #[] }] 49 2 #[] #[])
  fields := #[]
  methods := #[k1m0, k1m1, k1m2, k1m3]
  instanceTypes := #[]
  staticTypes := #[]
  resolved := Array.replicate 107 none
  statics := none }

def pool2 : Array CpInfo := pool [(1, .class_ 2), (0, u "java/lang/constant/Constable"), (0, .class_ 4), (0, u "java/lang/Object")] 6

/-- java/lang/constant/Constable -/
def k2 : Class := { plain "java/lang/constant/Constable" (some 0) with
  accessFlags := 1537
  interfaces := #[]
  cf := some (fileOf pool2 1 #[] #[] 1537 3 #[] #[])
  fields := #[]
  methods := #[]
  instanceTypes := #[]
  staticTypes := #[]
  resolved := Array.replicate 11 none
  statics := none }

def pool3 : Array CpInfo := pool [(1, .class_ 2), (0, u "java/lang/Comparable"), (0, .class_ 4), (0, u "java/lang/Object")] 7

/-- java/lang/Comparable -/
def k3 : Class := { plain "java/lang/Comparable" (some 0) with
  accessFlags := 1537
  interfaces := #[]
  cf := some (fileOf pool3 1 #[] #[] 1537 3 #[] #[])
  fields := #[]
  methods := #[]
  instanceTypes := #[]
  staticTypes := #[]
  resolved := Array.replicate 12 none
  statics := none }

def pool4 : Array CpInfo := pool [(1, .class_ 2), (0, u "java/io/Serializable"), (0, .class_ 4), (0, u "java/lang/Object")] 2

/-- java/io/Serializable -/
def k4 : Class := { plain "java/io/Serializable" (some 0) with
  accessFlags := 1537
  interfaces := #[]
  cf := some (fileOf pool4 1 #[] #[] 1537 3 #[] #[])
  fields := #[]
  methods := #[]
  instanceTypes := #[]
  staticTypes := #[]
  resolved := Array.replicate 7 none
  statics := none }

def pool5 : Array CpInfo := pool [(2, .class_ 4), (1, u "java/lang/Enum"), (0, u "name"), (0, u "Ljava/lang/String;"), (2, u "ordinal"), (0, u "I"), (1, .class_ 14), (1, u "java/lang/Object"), (4, u "hash"), (86, .class_ 108), (1, u "java/lang/Enum$EnumDesc"), (2, .class_ 112), (0, u "java/lang/constant/Constable"), (0, .class_ 114), (0, u "java/lang/Comparable"), (0, .class_ 116), (0, u "java/io/Serializable")] 87

/-- java/lang/Enum -/
def k5 : Class := { plain "java/lang/Enum" (some 0) with
  accessFlags := 1057
  interfaces := #[2, 3, 4]
  cf := some (fileOf pool5 2 #[.nestMembers #[106]] #[] 1057 12 #[111, 113, 115] #[{ accessFlags := 18, nameIndex := 5, descriptorIndex := 6, attributes := #[] }, { accessFlags := 18, nameIndex := 9, descriptorIndex := 10, attributes := #[] }, { accessFlags := 2, nameIndex := 19, descriptorIndex := 10, attributes := #[] }])
  fields := #[{ name := "name", type := (.object "java/lang/String"), accessFlags := 18, slot := 0, constantValue := 0 }, { name := "ordinal", type := .int, accessFlags := 18, slot := 1, constantValue := 0 }, { name := "hash", type := .int, accessFlags := 2, slot := 2, constantValue := 0 }]
  methods := #[]
  instanceTypes := #[(.object "java/lang/String"), .int, .int]
  staticTypes := #[]
  resolved := Array.replicate 204 none
  statics := none }

def pool6 : Array CpInfo := pool [(1, .class_ 2), (0, u "tabula/engine/Concept$Kind"), (2, u "TOP"), (0, u "Ltabula/engine/Concept$Kind;"), (2, u "BOTTOM"), (2, u "NAME"), (2, u "NEGATED_NAME"), (2, u "AND"), (2, u "OR"), (2, u "SOME"), (2, u "ALL"), (2, u "AT_LEAST"), (2, u "AT_MOST"), (2, u "$VALUES"), (0, u "[Ltabula/engine/Concept$Kind;"), (6, .class_ 46), (1, u "java/lang/Enum"), (8, u "restriction"), (0, u "Z"), (2, u "makesSuccessors"), (31, .class_ 92), (0, u "tabula/engine/Concept")] 2

/-- tabula/engine/Concept$Kind -/
def k6 : Class := { plain "tabula/engine/Concept$Kind" (some 5) with
  accessFlags := 16433
  interfaces := #[]
  cf := some (fileOf pool6 1 #[.nestHost 91] #[] 16433 44 #[] #[{ accessFlags := 16409, nameIndex := 5, descriptorIndex := 6, attributes := #[] }, { accessFlags := 16409, nameIndex := 9, descriptorIndex := 6, attributes := #[] }, { accessFlags := 16409, nameIndex := 12, descriptorIndex := 6, attributes := #[] }, { accessFlags := 16409, nameIndex := 15, descriptorIndex := 6, attributes := #[] }, { accessFlags := 16409, nameIndex := 18, descriptorIndex := 6, attributes := #[] }, { accessFlags := 16409, nameIndex := 21, descriptorIndex := 6, attributes := #[] }, { accessFlags := 16409, nameIndex := 24, descriptorIndex := 6, attributes := #[] }, { accessFlags := 16409, nameIndex := 27, descriptorIndex := 6, attributes := #[] }, { accessFlags := 16409, nameIndex := 30, descriptorIndex := 6, attributes := #[] }, { accessFlags := 16409, nameIndex := 33, descriptorIndex := 6, attributes := #[] }, { accessFlags := 18, nameIndex := 55, descriptorIndex := 56, attributes := #[] }, { accessFlags := 18, nameIndex := 59, descriptorIndex := 56, attributes := #[] }, { accessFlags := 4122, nameIndex := 36, descriptorIndex := 37, attributes := #[] }])
  fields := #[{ name := "TOP", type := (.object "tabula/engine/Concept$Kind"), accessFlags := 16409, slot := 0, constantValue := 0 }, { name := "BOTTOM", type := (.object "tabula/engine/Concept$Kind"), accessFlags := 16409, slot := 1, constantValue := 0 }, { name := "NAME", type := (.object "tabula/engine/Concept$Kind"), accessFlags := 16409, slot := 2, constantValue := 0 }, { name := "NEGATED_NAME", type := (.object "tabula/engine/Concept$Kind"), accessFlags := 16409, slot := 3, constantValue := 0 }, { name := "AND", type := (.object "tabula/engine/Concept$Kind"), accessFlags := 16409, slot := 4, constantValue := 0 }, { name := "OR", type := (.object "tabula/engine/Concept$Kind"), accessFlags := 16409, slot := 5, constantValue := 0 }, { name := "SOME", type := (.object "tabula/engine/Concept$Kind"), accessFlags := 16409, slot := 6, constantValue := 0 }, { name := "ALL", type := (.object "tabula/engine/Concept$Kind"), accessFlags := 16409, slot := 7, constantValue := 0 }, { name := "AT_LEAST", type := (.object "tabula/engine/Concept$Kind"), accessFlags := 16409, slot := 8, constantValue := 0 }, { name := "AT_MOST", type := (.object "tabula/engine/Concept$Kind"), accessFlags := 16409, slot := 9, constantValue := 0 }, { name := "restriction", type := .boolean, accessFlags := 18, slot := 3, constantValue := 0 }, { name := "makesSuccessors", type := .boolean, accessFlags := 18, slot := 4, constantValue := 0 }, { name := "$VALUES", type := (.array (.object "tabula/engine/Concept$Kind")), accessFlags := 4122, slot := 10, constantValue := 0 }]
  methods := #[]
  instanceTypes := #[(.object "java/lang/String"), .int, .int, .boolean, .boolean]
  staticTypes := #[(.object "tabula/engine/Concept$Kind"), (.object "tabula/engine/Concept$Kind"), (.object "tabula/engine/Concept$Kind"), (.object "tabula/engine/Concept$Kind"), (.object "tabula/engine/Concept$Kind"), (.object "tabula/engine/Concept$Kind"), (.object "tabula/engine/Concept$Kind"), (.object "tabula/engine/Concept$Kind"), (.object "tabula/engine/Concept$Kind"), (.object "tabula/engine/Concept$Kind"), (.array (.object "tabula/engine/Concept$Kind"))]
  resolved := Array.replicate 95 none
  statics := some 0 }

def pool7 : Array CpInfo := pool [(8, .class_ 10), (1, u "java/lang/Iterable"), (24, .class_ 36), (0, u "java/lang/Object")] 25

/-- java/lang/Iterable -/
def k7 : Class := { plain "java/lang/Iterable" (some 0) with
  accessFlags := 1537
  interfaces := #[]
  cf := some (fileOf pool7 8 #[] #[] 1537 35 #[] #[])
  fields := #[]
  methods := #[]
  instanceTypes := #[]
  staticTypes := #[]
  resolved := Array.replicate 62 none
  statics := none }

def pool8 : Array CpInfo := pool [(10, .class_ 12), (1, u "java/util/Collection"), (0, u "toArray"), (16, u "()Z"), (29, .class_ 61), (0, u "java/lang/Object"), (0, .class_ 63), (0, u "java/lang/Iterable"), (2, u "isEmpty"), (3, u "()[Ljava/lang/Object;")] 44

def k8m0 : Method := { name := "isEmpty", desc := "()Z", sig := { parameters := [], returnType := some .boolean }, accessFlags := 1025, code := none }
def k8m1 : Method := { name := "toArray", desc := "()[Ljava/lang/Object;", sig := { parameters := [], returnType := some (.array (.object "java/lang/Object")) }, accessFlags := 1025, code := none }
/-- java/util/Collection -/
def k8 : Class := { plain "java/util/Collection" (some 0) with
  accessFlags := 1537
  interfaces := #[7]
  cf := some (fileOf pool8 10 #[] #[{ accessFlags := 1025, nameIndex := 66, descriptorIndex := 30, attributes := #[] }, { accessFlags := 1025, nameIndex := 13, descriptorIndex := 70, attributes := #[] }] 1537 60 #[62] #[])
  fields := #[]
  methods := #[k8m0, k8m1]
  instanceTypes := #[]
  staticTypes := #[]
  resolved := Array.replicate 115 none
  statics := none }

def pool9 : Array CpInfo := pool [(1, .methodref 2 3), (0, .class_ 4), (0, .nameAndType 5 6), (0, u "java/lang/Object"), (0, u "<init>"), (0, u "()V"), (1, .class_ 10), (1, u "java/util/AbstractCollection"), (66, .class_ 78), (0, u "java/util/Collection")] 81

def k9c0 : Code := { maxStack := 1, maxLocals := 1, code := jdk_22_method_1_code, exceptionTable := #[], attributes := #[] }
def k9m0 : Method := { name := "<init>", desc := "()V", sig := { parameters := [], returnType := none }, accessFlags := 4, code := some k9c0 }
/-- java/util/AbstractCollection -/
def k9 : Class := { plain "java/util/AbstractCollection" (some 0) with
  accessFlags := 1057
  interfaces := #[8]
  cf := some (fileOf pool9 8 #[] #[{ accessFlags := 4, nameIndex := 5, descriptorIndex := 6, attributes := #[] }] 1057 2 #[77] #[])
  fields := #[]
  methods := #[k9m0]
  instanceTypes := #[]
  staticTypes := #[]
  resolved := Array.replicate 160 none
  statics := none }

def pool10 : Array CpInfo := pool [(8, .class_ 10), (1, u "java/util/SequencedCollection"), (15, .class_ 27), (0, u "java/lang/Object"), (0, .class_ 29), (0, u "java/util/Collection")] 27

/-- java/util/SequencedCollection -/
def k10 : Class := { plain "java/util/SequencedCollection" (some 0) with
  accessFlags := 1537
  interfaces := #[8]
  cf := some (fileOf pool10 8 #[] #[] 1537 26 #[28] #[])
  fields := #[]
  methods := #[]
  instanceTypes := #[]
  staticTypes := #[]
  resolved := Array.replicate 57 none
  statics := none }

def pool11 : Array CpInfo := pool [(8, .class_ 10), (1, u "java/util/List"), (7, u "()Z"), (12, u "(Ljava/lang/Object;)V"), (16, u "<init>"), (18, u "isEmpty"), (7, u "get"), (0, u "(I)Ljava/lang/Object;"), (2, u "size"), (0, u "()I"), (7, u "of"), (1, .fieldref 91 92), (0, .class_ 93), (0, .nameAndType 94 95), (0, u "java/util/ImmutableCollections"), (0, u "EMPTY_LIST"), (0, u "Ljava/util/ImmutableCollections$ListN;"), (0, .class_ 97), (0, u "java/util/ImmutableCollections$List12"), (0, .methodref 96 99), (0, .nameAndType 48 31), (0, .methodref 96 101), (0, .nameAndType 48 102), (0, u "(Ljava/lang/Object;Ljava/lang/Object;)V"), (0, .class_ 104), (0, u "java/lang/Object"), (3, u "([Ljava/lang/Object;)Ljava/util/List;"), (0, .methodref 91 110), (0, .nameAndType 111 108), (0, u "listFromArray"), (0, .methodref 91 113), (0, .nameAndType 114 115), (0, u "listCopy"), (0, u "(Ljava/util/Collection;)Ljava/util/List;"), (3, u "()Ljava/util/List;"), (0, .class_ 121), (0, u "java/util/SequencedCollection"), (1, u "iterator"), (0, u "()Ljava/util/Iterator;"), (109, u "copyOf")] 16

def k11m0 : Method := { name := "size", desc := "()I", sig := { parameters := [], returnType := some .int }, accessFlags := 1025, code := none }
def k11m1 : Method := { name := "isEmpty", desc := "()Z", sig := { parameters := [], returnType := some .boolean }, accessFlags := 1025, code := none }
def k11m2 : Method := { name := "iterator", desc := "()Ljava/util/Iterator;", sig := { parameters := [], returnType := some (.object "java/util/Iterator") }, accessFlags := 1025, code := none }
def k11m3 : Method := { name := "get", desc := "(I)Ljava/lang/Object;", sig := { parameters := [.int], returnType := some (.object "java/lang/Object") }, accessFlags := 1025, code := none }
def k11c4 : Code := { maxStack := 1, maxLocals := 0, code := jdk_40_method_36_code, exceptionTable := #[], attributes := #[] }
def k11m4 : Method := { name := "of", desc := "()Ljava/util/List;", sig := { parameters := [], returnType := some (.object "java/util/List") }, accessFlags := 9, code := some k11c4 }
def k11c5 : Code := { maxStack := 5, maxLocals := 2, code := jdk_40_method_47_code, exceptionTable := #[], attributes := #[] }
def k11m5 : Method := { name := "of", desc := "([Ljava/lang/Object;)Ljava/util/List;", sig := { parameters := [(.array (.object "java/lang/Object"))], returnType := some (.object "java/util/List") }, accessFlags := 137, code := some k11c5 }
def k11c6 : Code := { maxStack := 1, maxLocals := 1, code := jdk_40_method_48_code, exceptionTable := #[], attributes := #[] }
def k11m6 : Method := { name := "copyOf", desc := "(Ljava/util/Collection;)Ljava/util/List;", sig := { parameters := [(.object "java/util/Collection")], returnType := some (.object "java/util/List") }, accessFlags := 9, code := some k11c6 }
/-- java/util/List -/
def k11 : Class := { plain "java/util/List" (some 0) with
  accessFlags := 1537
  interfaces := #[10]
  cf := some (fileOf pool11 8 #[] #[{ accessFlags := 1025, nameIndex := 79, descriptorIndex := 80, attributes := #[] }, { accessFlags := 1025, nameIndex := 67, descriptorIndex := 18, attributes := #[] }, { accessFlags := 1025, nameIndex := 123, descriptorIndex := 124, attributes := #[] }, { accessFlags := 1025, nameIndex := 75, descriptorIndex := 76, attributes := #[] }, { accessFlags := 9, nameIndex := 88, descriptorIndex := 119, attributes := #[] }, { accessFlags := 137, nameIndex := 88, descriptorIndex := 108, attributes := #[] }, { accessFlags := 9, nameIndex := 234, descriptorIndex := 115, attributes := #[] }] 1537 103 #[120] #[])
  fields := #[]
  methods := #[k11m0, k11m1, k11m2, k11m3, k11m4, k11m5, k11m6]
  instanceTypes := #[]
  staticTypes := #[]
  resolved := Array.replicate 251 none
  statics := none }

def pool12 : Array CpInfo := pool [(1, .methodref 2 3), (0, .class_ 4), (0, .nameAndType 5 6), (0, u "java/util/AbstractCollection"), (0, u "<init>"), (0, u "()V"), (0, .fieldref 8 9), (0, .class_ 10), (0, .nameAndType 11 12), (0, u "java/util/AbstractList"), (0, u "modCount"), (0, u "I"), (64, .class_ 78), (0, u "java/util/AbstractList$Itr"), (3, .class_ 83), (0, u "java/util/AbstractList$ListItr"), (9, .class_ 94), (0, u "java/util/AbstractList$RandomAccessSubList"), (3, .class_ 99), (0, u "java/util/AbstractList$SubList"), (33, .class_ 134), (0, u "java/util/List"), (73, .class_ 209), (0, u "java/util/AbstractList$SubList$1"), (0, .class_ 211), (0, u "java/util/AbstractList$RandomAccessSpliterator")] 6

def k12c0 : Code := { maxStack := 2, maxLocals := 1, code := jdk_39_method_1_code, exceptionTable := #[], attributes := #[] }
def k12m0 : Method := { name := "<init>", desc := "()V", sig := { parameters := [], returnType := none }, accessFlags := 4, code := some k12c0 }
/-- java/util/AbstractList -/
def k12 : Class := { plain "java/util/AbstractList" (some 9) with
  accessFlags := 1057
  interfaces := #[11]
  cf := some (fileOf pool12 8 #[.nestMembers #[93, 98, 208, 210, 82, 77]] #[{ accessFlags := 4, nameIndex := 5, descriptorIndex := 6, attributes := #[] }] 1057 2 #[133] #[{ accessFlags := 132, nameIndex := 11, descriptorIndex := 12, attributes := #[] }])
  fields := #[{ name := "modCount", type := .int, accessFlags := 132, slot := 0, constantValue := 0 }]
  methods := #[k12m0]
  instanceTypes := #[.int]
  staticTypes := #[]
  resolved := Array.replicate 218 none
  statics := none }

def pool13 : Array CpInfo := pool [(1, .class_ 2), (0, u "java/util/RandomAccess"), (0, .class_ 4), (0, u "java/lang/Object")] 2

/-- java/util/RandomAccess -/
def k13 : Class := { plain "java/util/RandomAccess" (some 0) with
  accessFlags := 1537
  interfaces := #[]
  cf := some (fileOf pool13 1 #[] #[] 1537 3 #[] #[])
  fields := #[]
  methods := #[]
  instanceTypes := #[]
  staticTypes := #[]
  resolved := Array.replicate 7 none
  statics := none }

def pool14 : Array CpInfo := pool [(1, .class_ 2), (0, u "java/lang/Cloneable"), (0, .class_ 4), (0, u "java/lang/Object")] 2

/-- java/lang/Cloneable -/
def k14 : Class := { plain "java/lang/Cloneable" (some 0) with
  accessFlags := 1537
  interfaces := #[]
  cf := some (fileOf pool14 1 #[] #[] 1537 3 #[] #[])
  fields := #[]
  methods := #[]
  instanceTypes := #[]
  staticTypes := #[]
  resolved := Array.replicate 7 none
  statics := none }

def pool15 : Array CpInfo := pool [(1, .methodref 2 3), (0, .class_ 4), (0, .nameAndType 5 6), (0, u "java/util/AbstractList"), (0, u "<init>"), (0, u "()V"), (0, .class_ 8), (0, u "java/lang/Object"), (0, .fieldref 10 11), (0, .class_ 12), (0, .nameAndType 13 14), (0, u "java/util/ArrayList"), (0, u "elementData"), (0, u "[Ljava/lang/Object;"), (2, u "EMPTY_ELEMENTDATA"), (21, .fieldref 10 40), (0, .nameAndType 41 14), (0, u "DEFAULTCAPACITY_EMPTY_ELEMENTDATA"), (4, u "toArray"), (0, u "()[Ljava/lang/Object;"), (0, .fieldref 10 49), (0, .nameAndType 50 51), (0, u "size"), (0, u "I"), (6, .class_ 60), (1, u "java/util/Arrays"), (0, u "copyOf"), (1, .fieldref 10 64), (0, .nameAndType 65 51), (0, u "modCount"), (0, .methodref 58 67), (0, .nameAndType 61 68), (0, u "([Ljava/lang/Object;I)[Ljava/lang/Object;"), (0, .methodref 10 70), (0, .nameAndType 71 72), (0, u "grow"), (0, u "(I)[Ljava/lang/Object;"), (6, .methodref 80 81), (0, .class_ 82), (0, .nameAndType 83 84), (0, u "java/lang/Math"), (0, u "max"), (0, u "(II)I"), (11, u "(Ljava/lang/Object;)Z"), (32, .methodref 10 130), (0, .nameAndType 71 47), (0, .methodref 10 132), (0, .nameAndType 133 134), (0, u "add"), (0, u "(Ljava/lang/Object;[Ljava/lang/Object;I)V"), (13, .class_ 149), (0, u "java/util/List"), (16, u "iterator"), (0, u "()Ljava/util/Iterator;"), (5, u "()Z"), (88, .class_ 263), (0, u "java/util/ArrayList$ListItr"), (3, .class_ 268), (0, u "java/util/ArrayList$Itr"), (0, .methodref 267 270), (0, .nameAndType 5 271), (0, u "(Ljava/util/ArrayList;)V"), (4, .class_ 277), (0, u "java/util/ArrayList$SubList"), (12, .class_ 291), (0, u "java/util/ArrayList$ArrayListSpliterator"), (37, .class_ 330), (0, u "java/util/RandomAccess"), (0, .class_ 332), (0, u "java/lang/Cloneable"), (0, .class_ 334), (0, u "java/io/Serializable"), (0, u "serialVersionUID"), (0, u "J"), (3, u "DEFAULT_CAPACITY"), (22, u "isEmpty"), (136, .class_ 501), (0, u "java/util/ArrayList$SubList$2"), (0, .class_ 503), (0, u "java/util/ArrayList$SubList$1")] 5

def k15c0 : Code := { maxStack := 2, maxLocals := 1, code := jdk_38_method_2_code, exceptionTable := #[], attributes := #[] }
def k15m0 : Method := { name := "<init>", desc := "()V", sig := { parameters := [], returnType := none }, accessFlags := 1, code := some k15c0 }
def k15c1 : Code := { maxStack := 4, maxLocals := 4, code := jdk_38_method_6_code, exceptionTable := #[], attributes := #[] }
def k15m1 : Method := { name := "grow", desc := "(I)[Ljava/lang/Object;", sig := { parameters := [.int], returnType := some (.array (.object "java/lang/Object")) }, accessFlags := 2, code := some k15c1 }
def k15c2 : Code := { maxStack := 3, maxLocals := 1, code := jdk_38_method_7_code, exceptionTable := #[], attributes := #[] }
def k15m2 : Method := { name := "grow", desc := "()[Ljava/lang/Object;", sig := { parameters := [], returnType := some (.array (.object "java/lang/Object")) }, accessFlags := 2, code := some k15c2 }
def k15c3 : Code := { maxStack := 1, maxLocals := 1, code := jdk_38_method_9_code, exceptionTable := #[], attributes := #[] }
def k15m3 : Method := { name := "isEmpty", desc := "()Z", sig := { parameters := [], returnType := some .boolean }, accessFlags := 1, code := some k15c3 }
def k15c4 : Code := { maxStack := 2, maxLocals := 1, code := jdk_38_method_16_code, exceptionTable := #[], attributes := #[] }
def k15m4 : Method := { name := "toArray", desc := "()[Ljava/lang/Object;", sig := { parameters := [], returnType := some (.array (.object "java/lang/Object")) }, accessFlags := 1, code := some k15c4 }
def k15c5 : Code := { maxStack := 3, maxLocals := 4, code := jdk_38_method_24_code, exceptionTable := #[], attributes := #[] }
def k15m5 : Method := { name := "add", desc := "(Ljava/lang/Object;[Ljava/lang/Object;I)V", sig := { parameters := [(.object "java/lang/Object"), (.array (.object "java/lang/Object")), .int], returnType := none }, accessFlags := 2, code := some k15c5 }
def k15c6 : Code := { maxStack := 4, maxLocals := 2, code := jdk_38_method_25_code, exceptionTable := #[], attributes := #[] }
def k15m6 : Method := { name := "add", desc := "(Ljava/lang/Object;)Z", sig := { parameters := [(.object "java/lang/Object")], returnType := some .boolean }, accessFlags := 1, code := some k15c6 }
def k15c7 : Code := { maxStack := 3, maxLocals := 1, code := jdk_38_method_55_code, exceptionTable := #[], attributes := #[] }
def k15m7 : Method := { name := "iterator", desc := "()Ljava/util/Iterator;", sig := { parameters := [], returnType := some (.object "java/util/Iterator") }, accessFlags := 1, code := some k15c7 }
/-- java/util/ArrayList -/
def k15 : Class := { plain "java/util/ArrayList" (some 12) with
  accessFlags := 33
  interfaces := #[11, 13, 14, 4]
  cf := some (fileOf pool15 10 #[.nestMembers #[290, 276, 500, 502, 262, 267]] #[{ accessFlags := 1, nameIndex := 5, descriptorIndex := 6, attributes := #[] }, { accessFlags := 2, nameIndex := 71, descriptorIndex := 72, attributes := #[] }, { accessFlags := 2, nameIndex := 71, descriptorIndex := 47, attributes := #[] }, { accessFlags := 1, nameIndex := 363, descriptorIndex := 173, attributes := #[] }, { accessFlags := 1, nameIndex := 46, descriptorIndex := 47, attributes := #[] }, { accessFlags := 2, nameIndex := 133, descriptorIndex := 134, attributes := #[] }, { accessFlags := 1, nameIndex := 133, descriptorIndex := 96, attributes := #[] }, { accessFlags := 1, nameIndex := 166, descriptorIndex := 167, attributes := #[] }] 33 2 #[148, 329, 331, 333] #[{ accessFlags := 26, nameIndex := 335, descriptorIndex := 336, attributes := #[] }, { accessFlags := 26, nameIndex := 340, descriptorIndex := 51, attributes := #[] }, { accessFlags := 26, nameIndex := 17, descriptorIndex := 14, attributes := #[] }, { accessFlags := 26, nameIndex := 41, descriptorIndex := 14, attributes := #[] }, { accessFlags := 128, nameIndex := 13, descriptorIndex := 14, attributes := #[] }, { accessFlags := 2, nameIndex := 50, descriptorIndex := 51, attributes := #[] }])
  fields := #[{ name := "serialVersionUID", type := .long, accessFlags := 26, slot := 0, constantValue := 0 }, { name := "DEFAULT_CAPACITY", type := .int, accessFlags := 26, slot := 1, constantValue := 0 }, { name := "EMPTY_ELEMENTDATA", type := (.array (.object "java/lang/Object")), accessFlags := 26, slot := 2, constantValue := 0 }, { name := "DEFAULTCAPACITY_EMPTY_ELEMENTDATA", type := (.array (.object "java/lang/Object")), accessFlags := 26, slot := 3, constantValue := 0 }, { name := "elementData", type := (.array (.object "java/lang/Object")), accessFlags := 128, slot := 1, constantValue := 0 }, { name := "size", type := .int, accessFlags := 2, slot := 2, constantValue := 0 }]
  methods := #[k15m0, k15m1, k15m2, k15m3, k15m4, k15m5, k15m6, k15m7]
  instanceTypes := #[.int, (.array (.object "java/lang/Object")), .int]
  staticTypes := #[.long, .int, (.array (.object "java/lang/Object")), (.array (.object "java/lang/Object"))]
  resolved := Array.replicate 509 none
  statics := some 1 }

def pool16 : Array CpInfo := pool [(1, .methodref 2 3), (0, .class_ 4), (0, .nameAndType 5 6), (0, u "java/lang/Object"), (0, u "<init>"), (0, u "()V"), (0, .fieldref 8 9), (0, .class_ 10), (0, .nameAndType 11 12), (0, u "tabula/engine/Concept"), (0, u "id"), (0, u "I"), (0, .fieldref 8 14), (0, .nameAndType 15 16), (0, u "kind"), (0, u "Ltabula/engine/Concept$Kind;"), (0, .fieldref 8 18), (0, .nameAndType 19 20), (0, u "name"), (0, u "Ljava/lang/String;"), (0, .fieldref 8 22), (0, .nameAndType 23 24), (0, u "role"), (0, u "Ltabula/engine/Role;"), (0, .fieldref 8 26), (0, .nameAndType 27 12), (0, u "cardinality"), (0, .interfaceMethodref 29 30), (0, .class_ 31), (0, .nameAndType 32 33), (0, u "java/util/List"), (0, u "copyOf"), (0, u "(Ljava/util/Collection;)Ljava/util/List;"), (0, .fieldref 8 35), (0, .nameAndType 36 37), (0, u "parts"), (0, u "Ljava/util/List;"), (0, .methodref 39 40), (0, .class_ 41), (0, .nameAndType 42 43), (0, u "tabula/engine/Role"), (0, u "universal"), (0, u "()Z"), (0, .interfaceMethodref 29 45), (0, .nameAndType 46 47), (0, u "iterator"), (0, u "()Ljava/util/Iterator;"), (0, .interfaceMethodref 49 50), (0, .class_ 51), (0, .nameAndType 52 43), (0, u "java/util/Iterator"), (0, u "hasNext"), (0, .interfaceMethodref 49 54), (0, .nameAndType 55 56), (0, u "next"), (0, u "()Ljava/lang/Object;"), (0, .fieldref 8 58), (0, .nameAndType 59 60), (0, u "usesUniversalRole"), (0, u "Z"), (2, u "negation"), (0, u "Ltabula/engine/Concept;"), (0, .fieldref 66 67), (0, .class_ 68), (0, .nameAndType 69 16), (0, u "tabula/engine/Concept$Kind"), (0, u "AND"), (0, .fieldref 66 71), (0, .nameAndType 72 16), (0, u "OR"), (0, .interfaceMethodref 29 74), (0, .nameAndType 75 76), (0, u "of"), (0, u "()Ljava/util/List;"), (71, u "(ILtabula/engine/Concept$Kind;Ljava/lang/String;Ltabula/engine/Role;ILjava/util/List;)V"), (10, u "operands")] 25

def k16c0 : Code := { maxStack := 2, maxLocals := 10, code := prog_16_method_1_code, exceptionTable := #[], attributes := #[] }
def k16m0 : Method := { name := "<init>", desc := "(ILtabula/engine/Concept$Kind;Ljava/lang/String;Ltabula/engine/Role;ILjava/util/List;)V", sig := { parameters := [.int, (.object "tabula/engine/Concept$Kind"), (.object "java/lang/String"), (.object "tabula/engine/Role"), .int, (.object "java/util/List")], returnType := none }, accessFlags := 0, code := some k16c0 }
def k16c1 : Code := { maxStack := 2, maxLocals := 1, code := prog_16_method_8_code, exceptionTable := #[], attributes := #[] }
def k16m1 : Method := { name := "operands", desc := "()Ljava/util/List;", sig := { parameters := [], returnType := some (.object "java/util/List") }, accessFlags := 1, code := some k16c1 }
/-- tabula/engine/Concept -/
def k16 : Class := { plain "tabula/engine/Concept" (some 0) with
  accessFlags := 49
  interfaces := #[]
  cf := some (fileOf pool16 8 #[.nestMembers #[66]] #[{ accessFlags := 0, nameIndex := 5, descriptorIndex := 148, attributes := #[] }, { accessFlags := 1, nameIndex := 159, descriptorIndex := 76, attributes := #[] }] 49 2 #[] #[{ accessFlags := 18, nameIndex := 11, descriptorIndex := 12, attributes := #[] }, { accessFlags := 18, nameIndex := 15, descriptorIndex := 16, attributes := #[] }, { accessFlags := 18, nameIndex := 19, descriptorIndex := 20, attributes := #[] }, { accessFlags := 18, nameIndex := 23, descriptorIndex := 24, attributes := #[] }, { accessFlags := 18, nameIndex := 27, descriptorIndex := 12, attributes := #[] }, { accessFlags := 18, nameIndex := 36, descriptorIndex := 37, attributes := #[] }, { accessFlags := 2, nameIndex := 63, descriptorIndex := 64, attributes := #[] }, { accessFlags := 18, nameIndex := 59, descriptorIndex := 60, attributes := #[] }])
  fields := #[{ name := "id", type := .int, accessFlags := 18, slot := 0, constantValue := 0 }, { name := "kind", type := (.object "tabula/engine/Concept$Kind"), accessFlags := 18, slot := 1, constantValue := 0 }, { name := "name", type := (.object "java/lang/String"), accessFlags := 18, slot := 2, constantValue := 0 }, { name := "role", type := (.object "tabula/engine/Role"), accessFlags := 18, slot := 3, constantValue := 0 }, { name := "cardinality", type := .int, accessFlags := 18, slot := 4, constantValue := 0 }, { name := "parts", type := (.object "java/util/List"), accessFlags := 18, slot := 5, constantValue := 0 }, { name := "negation", type := (.object "tabula/engine/Concept"), accessFlags := 2, slot := 6, constantValue := 0 }, { name := "usesUniversalRole", type := .boolean, accessFlags := 18, slot := 7, constantValue := 0 }]
  methods := #[k16m0, k16m1]
  instanceTypes := #[.int, (.object "tabula/engine/Concept$Kind"), (.object "java/lang/String"), (.object "tabula/engine/Role"), .int, (.object "java/util/List"), (.object "tabula/engine/Concept"), .boolean]
  staticTypes := #[]
  resolved := Array.replicate 185 none
  statics := none }

def pool17 : Array CpInfo := pool [(2, .class_ 4), (1, u "java/lang/CharSequence"), (42, .class_ 48), (0, u "java/lang/CharSequence$1CodePointIterator"), (10, .class_ 60), (0, u "java/lang/CharSequence$1CharIterator"), (5, .class_ 67), (0, u "java/lang/Object")] 63

/-- java/lang/CharSequence -/
def k17 : Class := { plain "java/lang/CharSequence" (some 0) with
  accessFlags := 1537
  interfaces := #[]
  cf := some (fileOf pool17 2 #[.nestMembers #[47, 59]] #[] 1537 66 #[] #[])
  fields := #[]
  methods := #[]
  instanceTypes := #[]
  staticTypes := #[]
  resolved := Array.replicate 131 none
  statics := none }

def pool18 : Array CpInfo := pool [(1, .class_ 2), (0, u "java/lang/constant/ConstantDesc"), (0, .class_ 4), (0, u "java/lang/Object")] 32

/-- java/lang/constant/ConstantDesc -/
def k18 : Class := { plain "java/lang/constant/ConstantDesc" (some 0) with
  accessFlags := 1537
  interfaces := #[]
  cf := some (fileOf pool18 1 #[] #[] 1537 3 #[] #[])
  fields := #[]
  methods := #[]
  instanceTypes := #[]
  staticTypes := #[]
  resolved := Array.replicate 37 none
  statics := none }

def pool19 : Array CpInfo := pool [(2, .class_ 4), (1, u "java/lang/Object"), (0, u "<init>"), (0, u "()V"), (3, .class_ 12), (1, u "java/lang/String"), (0, u "value"), (0, u "[B"), (2, u "coder"), (0, u "B"), (2, u "hash"), (0, u "I"), (2, u "hashIsZero"), (0, u "Z"), (13, u "COMPACT_STRINGS"), (534, .class_ 576), (0, u "java/lang/CharSequence"), (22, u "CASE_INSENSITIVE_ORDER"), (0, u "Ljava/util/Comparator;"), (500, u "serialPersistentFields"), (0, u "[Ljava/io/ObjectStreamField;"), (0, .class_ 1104), (0, u "java/lang/String$CaseInsensitiveComparator"), (1, .class_ 1107), (0, u "java/io/Serializable"), (0, .class_ 1109), (0, u "java/lang/Comparable"), (0, .class_ 1111), (0, u "java/lang/constant/Constable"), (0, .class_ 1113), (0, u "java/lang/constant/ConstantDesc"), (2, u "serialVersionUID"), (0, u "J"), (3, u "REPL"), (0, u "C"), (2, u "LATIN1"), (1, u "UTF16")] 323

def k19m0 : Method := { name := "<init>", desc := "()V", sig := { parameters := [], returnType := none }, accessFlags := 1, code := none }
/-- java/lang/String -/
def k19 : Class := { plain "java/lang/String" (some 0) with
  accessFlags := 49
  interfaces := #[4, 3, 17, 2, 18]
  cf := some (fileOf pool19 10 #[.nestMembers #[1103]] #[{ accessFlags := 1, nameIndex := 5, descriptorIndex := 6, attributes := #[] }] 49 2 #[1106, 1108, 575, 1110, 1112] #[{ accessFlags := 18, nameIndex := 13, descriptorIndex := 14, attributes := #[] }, { accessFlags := 18, nameIndex := 17, descriptorIndex := 18, attributes := #[] }, { accessFlags := 2, nameIndex := 21, descriptorIndex := 22, attributes := #[] }, { accessFlags := 2, nameIndex := 25, descriptorIndex := 26, attributes := #[] }, { accessFlags := 26, nameIndex := 1116, descriptorIndex := 1117, attributes := #[] }, { accessFlags := 24, nameIndex := 40, descriptorIndex := 26, attributes := #[] }, { accessFlags := 26, nameIndex := 1101, descriptorIndex := 1102, attributes := #[] }, { accessFlags := 26, nameIndex := 1121, descriptorIndex := 1122, attributes := #[] }, { accessFlags := 25, nameIndex := 599, descriptorIndex := 600, attributes := #[] }, { accessFlags := 24, nameIndex := 1125, descriptorIndex := 18, attributes := #[] }, { accessFlags := 24, nameIndex := 1127, descriptorIndex := 18, attributes := #[] }])
  fields := #[{ name := "value", type := (.array .byte), accessFlags := 18, slot := 0, constantValue := 0 }, { name := "coder", type := .byte, accessFlags := 18, slot := 1, constantValue := 0 }, { name := "hash", type := .int, accessFlags := 2, slot := 2, constantValue := 0 }, { name := "hashIsZero", type := .boolean, accessFlags := 2, slot := 3, constantValue := 0 }, { name := "serialVersionUID", type := .long, accessFlags := 26, slot := 0, constantValue := 0 }, { name := "COMPACT_STRINGS", type := .boolean, accessFlags := 24, slot := 1, constantValue := 0 }, { name := "serialPersistentFields", type := (.array (.object "java/io/ObjectStreamField")), accessFlags := 26, slot := 2, constantValue := 0 }, { name := "REPL", type := .char, accessFlags := 26, slot := 3, constantValue := 0 }, { name := "CASE_INSENSITIVE_ORDER", type := (.object "java/util/Comparator"), accessFlags := 25, slot := 4, constantValue := 0 }, { name := "LATIN1", type := .byte, accessFlags := 24, slot := 5, constantValue := 0 }, { name := "UTF16", type := .byte, accessFlags := 24, slot := 6, constantValue := 0 }]
  methods := #[k19m0]
  instanceTypes := #[(.array .byte), .byte, .int, .boolean]
  staticTypes := #[.long, .boolean, (.array (.object "java/io/ObjectStreamField")), .char, (.object "java/util/Comparator"), .byte, .byte]
  resolved := Array.replicate 1451 none
  statics := none }

def pool20 : Array CpInfo := pool [(2, .class_ 4), (1, u "java/lang/Object"), (0, u "<init>"), (0, u "()V"), (3, .class_ 11), (0, u "java/util/ImmutableCollections$List12"), (0, .class_ 13), (0, u "java/util/ImmutableCollections$ListN"), (3, u "Z"), (0, .class_ 19), (0, u "java/util/List"), (0, .interfaceMethodref 21 22), (0, .class_ 23), (0, .nameAndType 24 25), (0, u "java/util/Collection"), (0, u "isEmpty"), (0, u "()Z"), (0, .interfaceMethodref 18 27), (0, .nameAndType 28 29), (0, u "of"), (0, u "()Ljava/util/List;"), (0, .interfaceMethodref 21 31), (0, .nameAndType 32 33), (0, u "toArray"), (0, u "()[Ljava/lang/Object;"), (0, .interfaceMethodref 18 35), (0, .nameAndType 28 36), (0, u "([Ljava/lang/Object;)Ljava/util/List;"), (0, .methodref 38 39), (0, .class_ 40), (0, .nameAndType 41 42), (0, u "java/util/Objects"), (0, u "requireNonNull"), (0, u "(Ljava/lang/Object;)Ljava/lang/Object;"), (0, .methodref 12 44), (0, .nameAndType 5 45), (0, u "([Ljava/lang/Object;Z)V"), (1, .class_ 49), (1, u "java/util/ImmutableCollections"), (0, u "$assertionsDisabled"), (5, u "[Ljava/lang/Object;"), (5, u "EMPTY_LIST"), (0, u "Ljava/util/ImmutableCollections$ListN;"), (8, u "EMPTY_LIST_NULLS"), (22, u "SALT32L"), (0, u "J"), (2, u "REVERSE"), (6, u "archivedObjects"), (2, u "EMPTY"), (0, u "Ljava/lang/Object;"), (0, .class_ 112), (0, u "java/util/ImmutableCollections$SetN"), (5, u "EMPTY_SET"), (0, u "Ljava/util/ImmutableCollections$SetN;"), (0, .class_ 121), (0, u "java/util/ImmutableCollections$MapN"), (3, u "EMPTY_MAP"), (0, u "Ljava/util/ImmutableCollections$MapN;"), (4, u "EXPAND_FACTOR"), (0, u "I"), (9, u "listCopy"), (0, u "(Ljava/util/Collection;)Ljava/util/List;"), (7, u "listFromArray"), (17, .class_ 170), (0, u "java/util/ImmutableCollections$MapN$MapNIterator"), (0, .class_ 172), (0, u "java/util/ImmutableCollections$MapN$1"), (0, .class_ 174), (0, u "java/util/ImmutableCollections$Map1"), (0, .class_ 176), (0, u "java/util/ImmutableCollections$AbstractImmutableMap"), (0, .class_ 178), (0, u "java/util/ImmutableCollections$SetN$SetNIterator"), (0, .class_ 180), (0, u "java/util/ImmutableCollections$Set12"), (0, .class_ 182), (0, u "java/util/ImmutableCollections$Set12$1"), (0, .class_ 184), (0, u "java/util/ImmutableCollections$AbstractImmutableSet"), (0, .class_ 186), (0, u "java/util/ImmutableCollections$SubList"), (0, .class_ 188), (0, u "java/util/ImmutableCollections$ListItr"), (0, .class_ 190), (0, u "java/util/ImmutableCollections$AbstractImmutableList"), (0, .class_ 192), (0, u "java/util/ImmutableCollections$AbstractImmutableCollection"), (0, .class_ 194), (0, u "java/util/ImmutableCollections$Access"), (0, .class_ 196), (0, u "java/util/ImmutableCollections$Access$1")] 16

def k20m0 : Method := { name := "<init>", desc := "()V", sig := { parameters := [], returnType := none }, accessFlags := 2, code := none }
def k20c1 : Code := { maxStack := 1, maxLocals := 2, code := jdk_56_method_3_code, exceptionTable := #[], attributes := #[] }
def k20m1 : Method := { name := "listCopy", desc := "(Ljava/util/Collection;)Ljava/util/List;", sig := { parameters := [(.object "java/util/Collection")], returnType := some (.object "java/util/List") }, accessFlags := 8, code := some k20c1 }
def k20c2 : Code := { maxStack := 4, maxLocals := 3, code := jdk_56_method_4_code, exceptionTable := #[], attributes := #[] }
def k20m2 : Method := { name := "listFromArray", desc := "([Ljava/lang/Object;)Ljava/util/List;", sig := { parameters := [(.array (.object "java/lang/Object"))], returnType := some (.object "java/util/List") }, accessFlags := 136, code := some k20c2 }
/-- java/util/ImmutableCollections -/
def k20 : Class := { plain "java/util/ImmutableCollections" (some 0) with
  accessFlags := 32
  interfaces := #[]
  cf := some (fileOf pool20 47 #[.nestMembers #[120, 169, 171, 173, 175, 111, 177, 179, 181, 183, 12, 10, 185, 187, 189, 191, 193, 195]] #[{ accessFlags := 2, nameIndex := 5, descriptorIndex := 6, attributes := #[] }, { accessFlags := 8, nameIndex := 142, descriptorIndex := 143, attributes := #[] }, { accessFlags := 136, nameIndex := 151, descriptorIndex := 36, attributes := #[] }] 32 2 #[] #[{ accessFlags := 26, nameIndex := 95, descriptorIndex := 96, attributes := #[] }, { accessFlags := 26, nameIndex := 99, descriptorIndex := 17, attributes := #[] }, { accessFlags := 10, nameIndex := 106, descriptorIndex := 56, attributes := #[] }, { accessFlags := 26, nameIndex := 109, descriptorIndex := 110, attributes := #[] }, { accessFlags := 24, nameIndex := 62, descriptorIndex := 63, attributes := #[] }, { accessFlags := 24, nameIndex := 72, descriptorIndex := 63, attributes := #[] }, { accessFlags := 24, nameIndex := 118, descriptorIndex := 119, attributes := #[] }, { accessFlags := 24, nameIndex := 125, descriptorIndex := 126, attributes := #[] }, { accessFlags := 24, nameIndex := 131, descriptorIndex := 132, attributes := #[] }, { accessFlags := 4120, nameIndex := 50, descriptorIndex := 17, attributes := #[] }])
  fields := #[{ name := "SALT32L", type := .long, accessFlags := 26, slot := 0, constantValue := 0 }, { name := "REVERSE", type := .boolean, accessFlags := 26, slot := 1, constantValue := 0 }, { name := "archivedObjects", type := (.array (.object "java/lang/Object")), accessFlags := 10, slot := 2, constantValue := 0 }, { name := "EMPTY", type := (.object "java/lang/Object"), accessFlags := 26, slot := 3, constantValue := 0 }, { name := "EMPTY_LIST", type := (.object "java/util/ImmutableCollections$ListN"), accessFlags := 24, slot := 4, constantValue := 0 }, { name := "EMPTY_LIST_NULLS", type := (.object "java/util/ImmutableCollections$ListN"), accessFlags := 24, slot := 5, constantValue := 0 }, { name := "EMPTY_SET", type := (.object "java/util/ImmutableCollections$SetN"), accessFlags := 24, slot := 6, constantValue := 0 }, { name := "EMPTY_MAP", type := (.object "java/util/ImmutableCollections$MapN"), accessFlags := 24, slot := 7, constantValue := 0 }, { name := "EXPAND_FACTOR", type := .int, accessFlags := 24, slot := 8, constantValue := 0 }, { name := "$assertionsDisabled", type := .boolean, accessFlags := 4120, slot := 9, constantValue := 0 }]
  methods := #[k20m0, k20m1, k20m2]
  instanceTypes := #[]
  staticTypes := #[.long, .boolean, (.array (.object "java/lang/Object")), (.object "java/lang/Object"), (.object "java/util/ImmutableCollections$ListN"), (.object "java/util/ImmutableCollections$ListN"), (.object "java/util/ImmutableCollections$SetN"), (.object "java/util/ImmutableCollections$MapN"), .int, .boolean]
  resolved := Array.replicate 213 none
  statics := some 2 }

def pool21 : Array CpInfo := pool [(1, .methodref 2 3), (0, .class_ 4), (0, .nameAndType 5 6), (0, u "java/util/AbstractCollection"), (0, u "<init>"), (0, u "()V"), (1, .class_ 10), (1, u "java/util/ImmutableCollections"), (2, .class_ 14), (0, u "java/util/ImmutableCollections$AbstractImmutableCollection")] 41

def k21c0 : Code := { maxStack := 1, maxLocals := 1, code := jdk_47_method_1_code, exceptionTable := #[], attributes := #[] }
def k21m0 : Method := { name := "<init>", desc := "()V", sig := { parameters := [], returnType := none }, accessFlags := 0, code := some k21c0 }
/-- java/util/ImmutableCollections$AbstractImmutableCollection -/
def k21 : Class := { plain "java/util/ImmutableCollections$AbstractImmutableCollection" (some 9) with
  accessFlags := 1056
  interfaces := #[]
  cf := some (fileOf pool21 13 #[.nestHost 8] #[{ accessFlags := 0, nameIndex := 5, descriptorIndex := 6, attributes := #[] }] 1056 2 #[] #[])
  fields := #[]
  methods := #[k21m0]
  instanceTypes := #[]
  staticTypes := #[]
  resolved := Array.replicate 56 none
  statics := none }

def pool22 : Array CpInfo := pool [(1, .methodref 2 3), (0, .class_ 4), (0, .nameAndType 5 6), (0, u "java/util/ImmutableCollections$AbstractImmutableCollection"), (0, u "<init>"), (0, u "()V"), (1, .class_ 10), (1, u "java/util/ImmutableCollections"), (3, .class_ 16), (1, u "java/util/ImmutableCollections$AbstractImmutableList"), (60, .class_ 78), (0, u "java/util/List"), (45, .class_ 125), (0, u "java/util/RandomAccess")] 70

def k22c0 : Code := { maxStack := 1, maxLocals := 1, code := jdk_46_method_1_code, exceptionTable := #[], attributes := #[] }
def k22m0 : Method := { name := "<init>", desc := "()V", sig := { parameters := [], returnType := none }, accessFlags := 0, code := some k22c0 }
/-- java/util/ImmutableCollections$AbstractImmutableList -/
def k22 : Class := { plain "java/util/ImmutableCollections$AbstractImmutableList" (some 21) with
  accessFlags := 1056
  interfaces := #[11, 13]
  cf := some (fileOf pool22 14 #[.nestHost 8] #[{ accessFlags := 0, nameIndex := 5, descriptorIndex := 6, attributes := #[] }] 1056 2 #[77, 124] #[])
  fields := #[]
  methods := #[k22m0]
  instanceTypes := #[]
  staticTypes := #[]
  resolved := Array.replicate 196 none
  statics := none }

def pool23 : Array CpInfo := pool [(1, .methodref 2 3), (0, .class_ 4), (0, .nameAndType 5 6), (0, u "java/util/ImmutableCollections$AbstractImmutableList"), (0, u "<init>"), (0, u "()V"), (0, .methodref 8 9), (0, .class_ 10), (0, .nameAndType 11 12), (0, u "java/util/Objects"), (0, u "requireNonNull"), (0, u "(Ljava/lang/Object;)Ljava/lang/Object;"), (0, .fieldref 14 15), (0, .class_ 16), (0, .nameAndType 17 18), (0, u "java/util/ImmutableCollections$List12"), (0, u "e0"), (0, u "Ljava/lang/Object;"), (0, .fieldref 20 21), (0, .class_ 22), (0, .nameAndType 23 18), (0, u "java/util/ImmutableCollections"), (0, u "EMPTY"), (0, .fieldref 14 25), (0, .nameAndType 26 18), (0, u "e1"), (24, u "size"), (0, u "()I"), (17, .class_ 71), (0, u "java/io/Serializable"), (4, u "(Ljava/lang/Object;)V"), (8, u "(Ljava/lang/Object;Ljava/lang/Object;)V"), (4, u "get"), (0, u "(I)Ljava/lang/Object;")] 33

def k23c0 : Code := { maxStack := 2, maxLocals := 2, code := jdk_44_method_1_code, exceptionTable := #[], attributes := #[] }
def k23m0 : Method := { name := "<init>", desc := "(Ljava/lang/Object;)V", sig := { parameters := [(.object "java/lang/Object")], returnType := none }, accessFlags := 0, code := some k23c0 }
def k23c1 : Code := { maxStack := 2, maxLocals := 3, code := jdk_44_method_2_code, exceptionTable := #[], attributes := #[] }
def k23m1 : Method := { name := "<init>", desc := "(Ljava/lang/Object;Ljava/lang/Object;)V", sig := { parameters := [(.object "java/lang/Object"), (.object "java/lang/Object")], returnType := none }, accessFlags := 0, code := some k23c1 }
def k23c2 : Code := { maxStack := 2, maxLocals := 1, code := jdk_44_method_3_code, exceptionTable := #[], attributes := #[] }
def k23m2 : Method := { name := "size", desc := "()I", sig := { parameters := [], returnType := some .int }, accessFlags := 1, code := some k23c2 }
def k23c3 : Code := { maxStack := 2, maxLocals := 2, code := jdk_44_method_5_code, exceptionTable := #[], attributes := #[] }
def k23m3 : Method := { name := "get", desc := "(I)Ljava/lang/Object;", sig := { parameters := [.int], returnType := some (.object "java/lang/Object") }, accessFlags := 1, code := some k23c3 }
/-- java/util/ImmutableCollections$List12 -/
def k23 : Class := { plain "java/util/ImmutableCollections$List12" (some 22) with
  accessFlags := 48
  interfaces := #[4]
  cf := some (fileOf pool23 14 #[.nestHost 20] #[{ accessFlags := 0, nameIndex := 5, descriptorIndex := 76, attributes := #[] }, { accessFlags := 0, nameIndex := 5, descriptorIndex := 85, attributes := #[] }, { accessFlags := 1, nameIndex := 51, descriptorIndex := 52, attributes := #[] }, { accessFlags := 1, nameIndex := 90, descriptorIndex := 91, attributes := #[] }] 48 2 #[70] #[{ accessFlags := 18, nameIndex := 17, descriptorIndex := 18, attributes := #[] }, { accessFlags := 18, nameIndex := 26, descriptorIndex := 18, attributes := #[] }])
  fields := #[{ name := "e0", type := (.object "java/lang/Object"), accessFlags := 18, slot := 0, constantValue := 0 }, { name := "e1", type := (.object "java/lang/Object"), accessFlags := 18, slot := 1, constantValue := 0 }]
  methods := #[k23m0, k23m1, k23m2, k23m3]
  instanceTypes := #[(.object "java/lang/Object"), (.object "java/lang/Object")]
  staticTypes := #[]
  resolved := Array.replicate 125 none
  statics := none }

def pool24 : Array CpInfo := pool [(1, .methodref 2 3), (0, .class_ 4), (0, .nameAndType 5 6), (0, u "java/util/ImmutableCollections$AbstractImmutableList"), (0, u "<init>"), (0, u "()V"), (0, .fieldref 8 9), (0, .class_ 10), (0, .nameAndType 11 12), (0, u "java/util/ImmutableCollections$ListN"), (0, u "elements"), (0, u "[Ljava/lang/Object;"), (0, .fieldref 8 14), (0, .nameAndType 15 16), (0, u "allowNulls"), (0, u "Z"), (42, .class_ 60), (0, u "java/io/Serializable"), (4, u "([Ljava/lang/Object;Z)V"), (8, u "isEmpty"), (0, u "()Z"), (1, u "size"), (0, u "()I"), (0, u "get"), (0, u "(I)Ljava/lang/Object;"), (33, .class_ 115), (0, u "java/util/ImmutableCollections")] 3

def k24c0 : Code := { maxStack := 2, maxLocals := 3, code := jdk_45_method_1_code, exceptionTable := #[], attributes := #[] }
def k24m0 : Method := { name := "<init>", desc := "([Ljava/lang/Object;Z)V", sig := { parameters := [(.array (.object "java/lang/Object")), .boolean], returnType := none }, accessFlags := 2, code := some k24c0 }
def k24c1 : Code := { maxStack := 1, maxLocals := 1, code := jdk_45_method_2_code, exceptionTable := #[], attributes := #[] }
def k24m1 : Method := { name := "isEmpty", desc := "()Z", sig := { parameters := [], returnType := some .boolean }, accessFlags := 1, code := some k24c1 }
def k24c2 : Code := { maxStack := 1, maxLocals := 1, code := jdk_45_method_3_code, exceptionTable := #[], attributes := #[] }
def k24m2 : Method := { name := "size", desc := "()I", sig := { parameters := [], returnType := some .int }, accessFlags := 1, code := some k24c2 }
def k24c3 : Code := { maxStack := 2, maxLocals := 2, code := jdk_45_method_4_code, exceptionTable := #[], attributes := #[] }
def k24m3 : Method := { name := "get", desc := "(I)Ljava/lang/Object;", sig := { parameters := [.int], returnType := some (.object "java/lang/Object") }, accessFlags := 1, code := some k24c3 }
/-- java/util/ImmutableCollections$ListN -/
def k24 : Class := { plain "java/util/ImmutableCollections$ListN" (some 22) with
  accessFlags := 48
  interfaces := #[4]
  cf := some (fileOf pool24 8 #[.nestHost 114] #[{ accessFlags := 2, nameIndex := 5, descriptorIndex := 65, attributes := #[] }, { accessFlags := 1, nameIndex := 74, descriptorIndex := 75, attributes := #[] }, { accessFlags := 1, nameIndex := 77, descriptorIndex := 78, attributes := #[] }, { accessFlags := 1, nameIndex := 79, descriptorIndex := 80, attributes := #[] }] 48 2 #[59] #[{ accessFlags := 18, nameIndex := 11, descriptorIndex := 12, attributes := #[] }, { accessFlags := 18, nameIndex := 15, descriptorIndex := 16, attributes := #[] }])
  fields := #[{ name := "elements", type := (.array (.object "java/lang/Object")), accessFlags := 18, slot := 0, constantValue := 0 }, { name := "allowNulls", type := .boolean, accessFlags := 18, slot := 1, constantValue := 0 }]
  methods := #[k24m0, k24m1, k24m2, k24m3]
  instanceTypes := #[(.array (.object "java/lang/Object")), .boolean]
  staticTypes := #[]
  resolved := Array.replicate 119 none
  statics := none }

def pool25 : Array CpInfo := pool [(16, .class_ 18), (1, u "java/util/Iterator"), (0, u "hasNext"), (0, u "()Z"), (2, u "next"), (0, u "()Ljava/lang/Object;"), (6, .class_ 32), (0, u "java/lang/Object")] 20

def k25m0 : Method := { name := "hasNext", desc := "()Z", sig := { parameters := [], returnType := some .boolean }, accessFlags := 1025, code := none }
def k25m1 : Method := { name := "next", desc := "()Ljava/lang/Object;", sig := { parameters := [], returnType := some (.object "java/lang/Object") }, accessFlags := 1025, code := none }
/-- java/util/Iterator -/
def k25 : Class := { plain "java/util/Iterator" (some 0) with
  accessFlags := 1537
  interfaces := #[]
  cf := some (fileOf pool25 16 #[] #[{ accessFlags := 1025, nameIndex := 19, descriptorIndex := 20, attributes := #[] }, { accessFlags := 1025, nameIndex := 23, descriptorIndex := 24, attributes := #[] }] 1537 31 #[] #[])
  fields := #[]
  methods := #[k25m0, k25m1]
  instanceTypes := #[]
  staticTypes := #[]
  resolved := Array.replicate 53 none
  statics := none }

def pool26 : Array CpInfo := pool [(1, .fieldref 2 3), (0, .class_ 4), (0, .nameAndType 5 6), (0, u "java/util/ArrayList$Itr"), (0, u "this$0"), (0, u "Ljava/util/ArrayList;"), (0, .methodref 8 9), (0, .class_ 10), (0, .nameAndType 11 12), (0, u "java/lang/Object"), (0, u "<init>"), (0, u "()V"), (0, .fieldref 2 14), (0, .nameAndType 15 16), (0, u "lastRet"), (0, u "I"), (0, .fieldref 18 19), (0, .class_ 20), (0, .nameAndType 21 16), (0, u "java/util/ArrayList"), (0, u "modCount"), (0, .fieldref 2 23), (0, .nameAndType 24 16), (0, u "expectedModCount"), (0, .fieldref 2 26), (0, .nameAndType 27 16), (0, u "cursor"), (0, .fieldref 18 29), (0, .nameAndType 30 16), (0, u "size"), (0, .methodref 2 32), (0, .nameAndType 33 12), (0, u "checkForComodification"), (3, .fieldref 18 38), (0, .nameAndType 39 40), (0, u "elementData"), (0, u "[Ljava/lang/Object;"), (28, .class_ 70), (0, u "java/util/Iterator"), (0, u "(Ljava/util/ArrayList;)V"), (8, u "hasNext"), (0, u "()Z"), (1, u "next"), (0, u "()Ljava/lang/Object;")] 19

def k26c0 : Code := { maxStack := 2, maxLocals := 2, code := jdk_49_method_1_code, exceptionTable := #[], attributes := #[] }
def k26m0 : Method := { name := "<init>", desc := "(Ljava/util/ArrayList;)V", sig := { parameters := [(.object "java/util/ArrayList")], returnType := none }, accessFlags := 0, code := some k26c0 }
def k26c1 : Code := { maxStack := 2, maxLocals := 1, code := jdk_49_method_2_code, exceptionTable := #[], attributes := #[] }
def k26m1 : Method := { name := "hasNext", desc := "()Z", sig := { parameters := [], returnType := some .boolean }, accessFlags := 1, code := some k26c1 }
def k26c2 : Code := { maxStack := 4, maxLocals := 3, code := jdk_49_method_3_code, exceptionTable := #[], attributes := #[] }
def k26m2 : Method := { name := "next", desc := "()Ljava/lang/Object;", sig := { parameters := [], returnType := some (.object "java/lang/Object") }, accessFlags := 1, code := some k26c2 }
def k26c3 : Code := { maxStack := 2, maxLocals := 1, code := jdk_49_method_6_code, exceptionTable := #[], attributes := #[] }
def k26m3 : Method := { name := "checkForComodification", desc := "()V", sig := { parameters := [], returnType := none }, accessFlags := 16, code := some k26c3 }
/-- java/util/ArrayList$Itr -/
def k26 : Class := { plain "java/util/ArrayList$Itr" (some 0) with
  accessFlags := 32
  interfaces := #[25]
  cf := some (fileOf pool26 2 #[.nestHost 18] #[{ accessFlags := 0, nameIndex := 11, descriptorIndex := 71, attributes := #[] }, { accessFlags := 1, nameIndex := 80, descriptorIndex := 81, attributes := #[] }, { accessFlags := 1, nameIndex := 83, descriptorIndex := 84, attributes := #[] }, { accessFlags := 16, nameIndex := 33, descriptorIndex := 12, attributes := #[] }] 32 8 #[69] #[{ accessFlags := 0, nameIndex := 27, descriptorIndex := 16, attributes := #[] }, { accessFlags := 0, nameIndex := 15, descriptorIndex := 16, attributes := #[] }, { accessFlags := 0, nameIndex := 24, descriptorIndex := 16, attributes := #[] }, { accessFlags := 4112, nameIndex := 5, descriptorIndex := 6, attributes := #[] }])
  fields := #[{ name := "cursor", type := .int, accessFlags := 0, slot := 0, constantValue := 0 }, { name := "lastRet", type := .int, accessFlags := 0, slot := 1, constantValue := 0 }, { name := "expectedModCount", type := .int, accessFlags := 0, slot := 2, constantValue := 0 }, { name := "this$0", type := (.object "java/util/ArrayList"), accessFlags := 4112, slot := 3, constantValue := 0 }]
  methods := #[k26m0, k26m1, k26m2, k26m3]
  instanceTypes := #[.int, .int, .int, (.object "java/util/ArrayList")]
  staticTypes := #[]
  resolved := Array.replicate 104 none
  statics := none }

def pool27 : Array CpInfo := pool [(1, .class_ 2), (0, u "java/lang/Math"), (1, .class_ 6), (1, u "java/lang/Object"), (0, u "<init>"), (0, u "()V"), (89, .class_ 100), (1, u "java/lang/Math$RandomNumberGeneratorHolder"), (71, u "negativeZeroFloatBits"), (0, u "J"), (2, u "negativeZeroDoubleBits"), (21, u "max"), (2, u "min"), (43, u "$assertionsDisabled"), (0, u "Z"), (88, u "(II)I"), (2, u "twoToTheDoubleScaleDown"), (0, u "D"), (4, u "twoToTheDoubleScaleUp"), (9, u "E"), (3, u "PI"), (2, u "TAU"), (2, u "DEGREES_TO_RADIANS"), (0, u "RADIANS_TO_DEGREES")] 94

def k27m0 : Method := { name := "<init>", desc := "()V", sig := { parameters := [], returnType := none }, accessFlags := 2, code := none }
def k27c1 : Code := { maxStack := 2, maxLocals := 2, code := jdk_29_method_65_code, exceptionTable := #[], attributes := #[] }
def k27m1 : Method := { name := "max", desc := "(II)I", sig := { parameters := [.int, .int], returnType := some .int }, accessFlags := 9, code := some k27c1 }
def k27c2 : Code := { maxStack := 2, maxLocals := 2, code := jdk_29_method_69_code, exceptionTable := #[], attributes := #[] }
def k27m2 : Method := { name := "min", desc := "(II)I", sig := { parameters := [.int, .int], returnType := some .int }, accessFlags := 9, code := some k27c2 }
/-- java/lang/Math -/
def k27 : Class := { plain "java/lang/Math" (some 0) with
  accessFlags := 49
  interfaces := #[]
  cf := some (fileOf pool27 1 #[.nestMembers #[98]] #[{ accessFlags := 2, nameIndex := 7, descriptorIndex := 8, attributes := #[] }, { accessFlags := 9, nameIndex := 198, descriptorIndex := 335, attributes := #[] }, { accessFlags := 9, nameIndex := 201, descriptorIndex := 335, attributes := #[] }] 49 4 #[] #[{ accessFlags := 25, nameIndex := 354, descriptorIndex := 339, attributes := #[] }, { accessFlags := 25, nameIndex := 358, descriptorIndex := 339, attributes := #[] }, { accessFlags := 25, nameIndex := 361, descriptorIndex := 339, attributes := #[] }, { accessFlags := 26, nameIndex := 364, descriptorIndex := 339, attributes := #[] }, { accessFlags := 26, nameIndex := 365, descriptorIndex := 339, attributes := #[] }, { accessFlags := 26, nameIndex := 172, descriptorIndex := 173, attributes := #[] }, { accessFlags := 26, nameIndex := 176, descriptorIndex := 173, attributes := #[] }, { accessFlags := 8, nameIndex := 344, descriptorIndex := 339, attributes := #[] }, { accessFlags := 8, nameIndex := 338, descriptorIndex := 339, attributes := #[] }, { accessFlags := 4120, nameIndex := 245, descriptorIndex := 246, attributes := #[] }])
  fields := #[{ name := "E", type := .double, accessFlags := 25, slot := 0, constantValue := 0 }, { name := "PI", type := .double, accessFlags := 25, slot := 1, constantValue := 0 }, { name := "TAU", type := .double, accessFlags := 25, slot := 2, constantValue := 0 }, { name := "DEGREES_TO_RADIANS", type := .double, accessFlags := 26, slot := 3, constantValue := 0 }, { name := "RADIANS_TO_DEGREES", type := .double, accessFlags := 26, slot := 4, constantValue := 0 }, { name := "negativeZeroFloatBits", type := .long, accessFlags := 26, slot := 5, constantValue := 0 }, { name := "negativeZeroDoubleBits", type := .long, accessFlags := 26, slot := 6, constantValue := 0 }, { name := "twoToTheDoubleScaleUp", type := .double, accessFlags := 8, slot := 7, constantValue := 0 }, { name := "twoToTheDoubleScaleDown", type := .double, accessFlags := 8, slot := 8, constantValue := 0 }, { name := "$assertionsDisabled", type := .boolean, accessFlags := 4120, slot := 9, constantValue := 0 }]
  methods := #[k27m0, k27m1, k27m2]
  instanceTypes := #[]
  staticTypes := #[.double, .double, .double, .double, .double, .long, .long, .double, .double, .boolean]
  resolved := Array.replicate 460 none
  statics := none }

def pool28 : Array CpInfo := pool [(2, .class_ 4), (1, u "java/lang/Object"), (0, u "<init>"), (0, u "()V"), (7, .class_ 16), (1, u "java/util/Arrays"), (57, .class_ 76), (1, u "java/util/Arrays$NaturalOrder"), (9, .methodref 2 87), (0, .nameAndType 88 89), (0, u "getClass"), (0, u "()Ljava/lang/Class;"), (20, .class_ 111), (0, u "[Ljava/lang/Object;"), (1, .class_ 115), (1, u "java/util/Arrays$LegacyMergeSort"), (1, u "Z"), (32, .methodref 151 152), (0, .class_ 153), (0, .nameAndType 154 155), (0, u "java/lang/System"), (0, u "arraycopy"), (0, u "(Ljava/lang/Object;ILjava/lang/Object;II)V"), (144, .methodref 14 301), (0, .nameAndType 302 303), (0, u "copyOf"), (0, u "([Ljava/lang/Object;ILjava/lang/Class;)[Ljava/lang/Object;"), (0, .methodref 305 306), (0, .class_ 307), (0, .nameAndType 308 309), (0, u "java/lang/Math"), (0, u "min"), (0, u "(II)I"), (65, .class_ 376), (0, u "java/util/Arrays$ArrayList"), (68, u "$assertionsDisabled"), (269, u "MIN_ARRAY_SORT_GRAN"), (0, u "I"), (2, u "INSERTIONSORT_THRESHOLD"), (140, u "([Ljava/lang/Object;I)[Ljava/lang/Object;"), (114, .class_ 976), (0, u "java/util/Arrays$ArrayItr")] 52

def k28m0 : Method := { name := "<init>", desc := "()V", sig := { parameters := [], returnType := none }, accessFlags := 2, code := none }
def k28c1 : Code := { maxStack := 3, maxLocals := 2, code := jdk_65_method_119_code, exceptionTable := #[], attributes := #[] }
def k28m1 : Method := { name := "copyOf", desc := "([Ljava/lang/Object;I)[Ljava/lang/Object;", sig := { parameters := [(.array (.object "java/lang/Object")), .int], returnType := some (.array (.object "java/lang/Object")) }, accessFlags := 9, code := some k28c1 }
def k28c2 : Code := { maxStack := 6, maxLocals := 4, code := jdk_65_method_120_code, exceptionTable := #[], attributes := #[] }
def k28m2 : Method := { name := "copyOf", desc := "([Ljava/lang/Object;ILjava/lang/Class;)[Ljava/lang/Object;", sig := { parameters := [(.array (.object "java/lang/Object")), .int, (.object "java/lang/Class")], returnType := some (.array (.object "java/lang/Object")) }, accessFlags := 9, code := some k28c2 }
/-- java/util/Arrays -/
def k28 : Class := { plain "java/util/Arrays" (some 0) with
  accessFlags := 49
  interfaces := #[]
  cf := some (fileOf pool28 14 #[.nestMembers #[975, 375, 113, 74]] #[{ accessFlags := 2, nameIndex := 5, descriptorIndex := 6, attributes := #[] }, { accessFlags := 9, nameIndex := 302, descriptorIndex := 860, attributes := #[] }, { accessFlags := 9, nameIndex := 302, descriptorIndex := 303, attributes := #[] }] 49 2 #[] #[{ accessFlags := 26, nameIndex := 715, descriptorIndex := 716, attributes := #[] }, { accessFlags := 26, nameIndex := 719, descriptorIndex := 716, attributes := #[] }, { accessFlags := 4120, nameIndex := 445, descriptorIndex := 117, attributes := #[] }])
  fields := #[{ name := "MIN_ARRAY_SORT_GRAN", type := .int, accessFlags := 26, slot := 0, constantValue := 0 }, { name := "INSERTIONSORT_THRESHOLD", type := .int, accessFlags := 26, slot := 1, constantValue := 0 }, { name := "$assertionsDisabled", type := .boolean, accessFlags := 4120, slot := 2, constantValue := 0 }]
  methods := #[k28m0, k28m1, k28m2]
  instanceTypes := #[]
  staticTypes := #[.int, .int, .boolean]
  resolved := Array.replicate 1029 none
  statics := none }

def pool29 : Array CpInfo := pool [(2, .class_ 4), (1, u "java/lang/Object"), (0, u "<init>"), (0, u "()V"), (1, .class_ 10), (1, u "java/lang/System"), (0, u "allowSecurityManager"), (0, u "I"), (16, u "cons"), (0, u "Ljava/io/Console;"), (77, .class_ 110), (1, u "java/lang/System$CallersHolder"), (43, u "initialErrStream"), (0, u "Ljava/io/PrintStream;"), (19, u "security"), (0, u "Ljava/lang/SecurityManager;"), (31, .class_ 209), (0, u "java/lang/System$1"), (7, u "props"), (0, u "Ljava/util/Properties;"), (2, u "lineSeparator"), (0, u "Ljava/lang/String;"), (96, .class_ 321), (1, u "java/lang/System$LoggerFinder"), (5, .class_ 328), (0, u "java/lang/System$Logger"), (67, u "err"), (2, u "out"), (91, u "notSupportedJnuEncoding"), (15, u "in"), (17, u "initialIn"), (0, u "Ljava/io/InputStream;"), (35, u "bootLayer"), (0, u "Ljava/lang/ModuleLayer;"), (99, .class_ 664), (0, u "java/lang/System$2"), (9, u "NEVER"), (2, u "MAYBE"), (49, u "arraycopy"), (0, u "(Ljava/lang/Object;ILjava/lang/Object;II)V"), (72, .class_ 802), (0, u "java/lang/System$Logger$Level")] 31

def k29m0 : Method := { name := "<init>", desc := "()V", sig := { parameters := [], returnType := none }, accessFlags := 2, code := none }
def k29m1 : Method := { name := "arraycopy", desc := "(Ljava/lang/Object;ILjava/lang/Object;II)V", sig := { parameters := [(.object "java/lang/Object"), .int, (.object "java/lang/Object"), .int, .int], returnType := none }, accessFlags := 265, code := none }
/-- java/lang/System -/
def k29 : Class := { plain "java/lang/System" (some 0) with
  accessFlags := 49
  interfaces := #[]
  cf := some (fileOf pool29 8 #[.nestMembers #[319, 327, 801, 108, 663, 208]] #[{ accessFlags := 2, nameIndex := 5, descriptorIndex := 6, attributes := #[] }, { accessFlags := 265, nameIndex := 727, descriptorIndex := 728, attributes := #[] }] 49 2 #[] #[{ accessFlags := 25, nameIndex := 507, descriptorIndex := 526, attributes := #[] }, { accessFlags := 25, nameIndex := 399, descriptorIndex := 155, attributes := #[] }, { accessFlags := 25, nameIndex := 396, descriptorIndex := 155, attributes := #[] }, { accessFlags := 10, nameIndex := 525, descriptorIndex := 526, attributes := #[] }, { accessFlags := 26, nameIndex := 674, descriptorIndex := 12, attributes := #[] }, { accessFlags := 26, nameIndex := 677, descriptorIndex := 12, attributes := #[] }, { accessFlags := 10, nameIndex := 11, descriptorIndex := 12, attributes := #[] }, { accessFlags := 74, nameIndex := 175, descriptorIndex := 176, attributes := #[] }, { accessFlags := 10, nameIndex := 491, descriptorIndex := 222, attributes := #[] }, { accessFlags := 74, nameIndex := 29, descriptorIndex := 30, attributes := #[] }, { accessFlags := 74, nameIndex := 154, descriptorIndex := 155, attributes := #[] }, { accessFlags := 10, nameIndex := 217, descriptorIndex := 218, attributes := #[] }, { accessFlags := 10, nameIndex := 221, descriptorIndex := 222, attributes := #[] }, { accessFlags := 8, nameIndex := 562, descriptorIndex := 563, attributes := #[] }])
  fields := #[{ name := "in", type := (.object "java/io/InputStream"), accessFlags := 25, slot := 0, constantValue := 0 }, { name := "out", type := (.object "java/io/PrintStream"), accessFlags := 25, slot := 1, constantValue := 0 }, { name := "err", type := (.object "java/io/PrintStream"), accessFlags := 25, slot := 2, constantValue := 0 }, { name := "initialIn", type := (.object "java/io/InputStream"), accessFlags := 10, slot := 3, constantValue := 0 }, { name := "NEVER", type := .int, accessFlags := 26, slot := 4, constantValue := 0 }, { name := "MAYBE", type := .int, accessFlags := 26, slot := 5, constantValue := 0 }, { name := "allowSecurityManager", type := .int, accessFlags := 10, slot := 6, constantValue := 0 }, { name := "security", type := (.object "java/lang/SecurityManager"), accessFlags := 74, slot := 7, constantValue := 0 }, { name := "notSupportedJnuEncoding", type := (.object "java/lang/String"), accessFlags := 10, slot := 8, constantValue := 0 }, { name := "cons", type := (.object "java/io/Console"), accessFlags := 74, slot := 9, constantValue := 0 }, { name := "initialErrStream", type := (.object "java/io/PrintStream"), accessFlags := 74, slot := 10, constantValue := 0 }, { name := "props", type := (.object "java/util/Properties"), accessFlags := 10, slot := 11, constantValue := 0 }, { name := "lineSeparator", type := (.object "java/lang/String"), accessFlags := 10, slot := 12, constantValue := 0 }, { name := "bootLayer", type := (.object "java/lang/ModuleLayer"), accessFlags := 8, slot := 13, constantValue := 0 }]
  methods := #[k29m0, k29m1]
  instanceTypes := #[]
  staticTypes := #[(.object "java/io/InputStream"), (.object "java/io/PrintStream"), (.object "java/io/PrintStream"), (.object "java/io/InputStream"), .int, .int, .int, (.object "java/lang/SecurityManager"), (.object "java/lang/String"), (.object "java/io/Console"), (.object "java/io/PrintStream"), (.object "java/util/Properties"), (.object "java/lang/String"), (.object "java/lang/ModuleLayer")]
  resolved := Array.replicate 834 none
  statics := none }

def pool30 : Array CpInfo := pool [(2, .class_ 4), (1, u "java/lang/Object"), (0, u "<init>"), (0, u "()V"), (35, .class_ 44), (1, u "java/util/Objects"), (0, u "requireNonNull"), (0, u "(Ljava/lang/Object;)Ljava/lang/Object;"), (47, u "(Ljava/lang/Object;Ljava/lang/String;)Ljava/lang/Object;")] 89

def k30m0 : Method := { name := "<init>", desc := "()V", sig := { parameters := [], returnType := none }, accessFlags := 2, code := none }
def k30c1 : Code := { maxStack := 2, maxLocals := 1, code := jdk_31_method_10_code, exceptionTable := #[], attributes := #[] }
def k30m1 : Method := { name := "requireNonNull", desc := "(Ljava/lang/Object;)Ljava/lang/Object;", sig := { parameters := [(.object "java/lang/Object")], returnType := some (.object "java/lang/Object") }, accessFlags := 9, code := some k30c1 }
def k30c2 : Code := { maxStack := 3, maxLocals := 2, code := jdk_31_method_11_code, exceptionTable := #[], attributes := #[] }
def k30m2 : Method := { name := "requireNonNull", desc := "(Ljava/lang/Object;Ljava/lang/String;)Ljava/lang/Object;", sig := { parameters := [(.object "java/lang/Object"), (.object "java/lang/String")], returnType := some (.object "java/lang/Object") }, accessFlags := 9, code := some k30c2 }
/-- java/util/Objects -/
def k30 : Class := { plain "java/util/Objects" (some 0) with
  accessFlags := 49
  interfaces := #[]
  cf := some (fileOf pool30 42 #[] #[{ accessFlags := 2, nameIndex := 5, descriptorIndex := 6, attributes := #[] }, { accessFlags := 9, nameIndex := 45, descriptorIndex := 46, attributes := #[] }, { accessFlags := 9, nameIndex := 45, descriptorIndex := 94, attributes := #[] }] 49 2 #[] #[])
  fields := #[]
  methods := #[k30m0, k30m1, k30m2]
  instanceTypes := #[]
  staticTypes := #[]
  resolved := Array.replicate 184 none
  statics := none }

def pool31 : Array CpInfo := pool [(1, .methodref 2 3), (0, .class_ 4), (0, .nameAndType 5 6), (0, u "java/lang/Object"), (0, u "<init>"), (0, u "()V"), (0, .class_ 8), (0, u "java/lang/Record")] 13

def k31c0 : Code := { maxStack := 1, maxLocals := 1, code := jdk_30_method_1_code, exceptionTable := #[], attributes := #[] }
def k31m0 : Method := { name := "<init>", desc := "()V", sig := { parameters := [], returnType := none }, accessFlags := 4, code := some k31c0 }
/-- java/lang/Record -/
def k31 : Class := { plain "java/lang/Record" (some 0) with
  accessFlags := 1057
  interfaces := #[]
  cf := some (fileOf pool31 7 #[] #[{ accessFlags := 4, nameIndex := 5, descriptorIndex := 6, attributes := #[] }] 1057 2 #[] #[])
  fields := #[]
  methods := #[k31m0]
  instanceTypes := #[]
  staticTypes := #[]
  resolved := Array.replicate 22 none
  statics := none }

def pool32 : Array CpInfo := pool [(1, .methodref 2 3), (0, .class_ 4), (0, .nameAndType 5 6), (0, u "java/lang/Record"), (0, u "<init>"), (0, u "()V"), (0, .string 8), (0, u "name"), (0, .methodref 10 11), (0, .class_ 12), (0, .nameAndType 13 14), (0, u "java/util/Objects"), (0, u "requireNonNull"), (0, u "(Ljava/lang/Object;Ljava/lang/String;)Ljava/lang/Object;"), (7, .fieldref 23 24), (0, .class_ 25), (0, .nameAndType 8 26), (0, u "tabula/engine/Role"), (0, u "Ljava/lang/String;"), (0, .fieldref 23 28), (0, .nameAndType 29 30), (0, u "universal"), (0, u "Z"), (0, .fieldref 23 32), (0, .nameAndType 33 30), (0, u "inverted"), (2, u "(Ljava/lang/String;ZZ)V"), (15, u "UNIVERSAL"), (0, u "Ltabula/engine/Role;"), (11, u "()Z")] 23

def k32c0 : Code := { maxStack := 3, maxLocals := 4, code := prog_33_method_1_code, exceptionTable := #[], attributes := #[] }
def k32m0 : Method := { name := "<init>", desc := "(Ljava/lang/String;ZZ)V", sig := { parameters := [(.object "java/lang/String"), .boolean, .boolean], returnType := none }, accessFlags := 1, code := some k32c0 }
def k32c1 : Code := { maxStack := 1, maxLocals := 1, code := prog_33_method_8_code, exceptionTable := #[], attributes := #[] }
def k32m1 : Method := { name := "universal", desc := "()Z", sig := { parameters := [], returnType := some .boolean }, accessFlags := 1, code := some k32c1 }
/-- tabula/engine/Role -/
def k32 : Class := { plain "tabula/engine/Role" (some 31) with
  accessFlags := 49
  interfaces := #[]
  cf := some (fileOf pool32 23 #[] #[{ accessFlags := 1, nameIndex := 5, descriptorIndex := 36, attributes := #[] }, { accessFlags := 1, nameIndex := 29, descriptorIndex := 65, attributes := #[] }] 49 2 #[] #[{ accessFlags := 18, nameIndex := 8, descriptorIndex := 26, attributes := #[] }, { accessFlags := 18, nameIndex := 29, descriptorIndex := 30, attributes := #[] }, { accessFlags := 18, nameIndex := 33, descriptorIndex := 30, attributes := #[] }, { accessFlags := 25, nameIndex := 52, descriptorIndex := 53, attributes := #[] }])
  fields := #[{ name := "name", type := (.object "java/lang/String"), accessFlags := 18, slot := 0, constantValue := 0 }, { name := "universal", type := .boolean, accessFlags := 18, slot := 1, constantValue := 0 }, { name := "inverted", type := .boolean, accessFlags := 18, slot := 2, constantValue := 0 }, { name := "UNIVERSAL", type := (.object "tabula/engine/Role"), accessFlags := 25, slot := 0, constantValue := 0 }]
  methods := #[k32m0, k32m1]
  instanceTypes := #[(.object "java/lang/String"), .boolean, .boolean]
  staticTypes := #[(.object "tabula/engine/Role")]
  resolved := Array.replicate 89 none
  statics := none }

def pool33 : Array CpInfo := pool [(1, u "java/lang/Class"), (0, .class_ 1), (0, u "java/lang/Object"), (0, .class_ 3)] 0

/-- java/lang/Class -/
def k33 : Class := { plain "java/lang/Class" (some 0) with
  accessFlags := 49
  interfaces := #[]
  cf := some (fileOf pool33 2 #[] #[] 49 4 #[] #[])
  fields := #[]
  methods := #[]
  instanceTypes := #[]
  staticTypes := #[]
  resolved := Array.replicate 5 none
  statics := none }

/-- the primitive byte -/
def k34 : Class := { plain "byte" none with kind := .primitive 'B', accessFlags := 0x411 }
/-- [B -/
def k35 : Class := { plain "[B" (some 0) with kind := .array 34 .byte, interfaces := #[14, 4], accessFlags := 1041 }

/-- [Ljava/lang/Object; -/
def k36 : Class := { plain "[Ljava/lang/Object;" (some 0) with kind := .array 0 (.object "java/lang/Object"), interfaces := #[14, 4], accessFlags := 1041, mirror := some 3 }

def heap : Heap := #[{ cls := 6, slots := #[.ref 5, .ref 6, .ref 7, .ref 8, .ref 9, .ref 10, .ref 11, .ref 12, .ref 13, .ref 14, .null], vm := .statics 6 },
  { cls := 15, slots := #[.long 0, .int 0, .ref 16, .ref 17], vm := .statics 15 },
  { cls := 20, slots := #[.long 0, .int 0, .null, .ref 18, .ref 15, .null, .null, .null, .int 0, .int 1], vm := .statics 20 },
  { cls := 33, slots := #[], vm := .mirror 36 },
  { cls := 36, slots := #[], vm := .none },
  { cls := 6, slots := #[.null, .int 0, .int 0, .int 0, .int 0], vm := .none },
  { cls := 6, slots := #[.null, .int 1, .int 0, .int 0, .int 0], vm := .none },
  { cls := 6, slots := #[.null, .int 2, .int 0, .int 0, .int 0], vm := .none },
  { cls := 6, slots := #[.null, .int 3, .int 0, .int 0, .int 0], vm := .none },
  { cls := 6, slots := #[.null, .int 4, .int 0, .int 0, .int 0], vm := .none },
  { cls := 6, slots := #[.null, .int 5, .int 0, .int 0, .int 0], vm := .none },
  { cls := 6, slots := #[.null, .int 6, .int 0, .int 0, .int 0], vm := .none },
  { cls := 6, slots := #[.null, .int 7, .int 0, .int 0, .int 0], vm := .none },
  { cls := 6, slots := #[.null, .int 8, .int 0, .int 0, .int 0], vm := .none },
  { cls := 6, slots := #[.null, .int 9, .int 0, .int 0, .int 0], vm := .none },
  { cls := 24, slots := #[.ref 4, .int 0], vm := .none },
  { cls := 36, slots := #[], vm := .none },
  { cls := 36, slots := #[], vm := .none },
  { cls := 0, slots := #[], vm := .none }]
def classes : Array Class := #[k0, k1, k2, k3, k4, k5, k6, k7, k8, k9, k10, k11, k12, k13, k14, k15, k16, k17, k18, k19, k20, k21, k22, k23, k24, k25, k26, k27, k28, k29, k30, k31, k32, k33, k34, k35, k36]
def interned : List (Array UInt16 × Addr) := []
def slotsUsed : Nat := 77
def theMethod : MethodId := ⟨1, 3⟩
def args0 : Array Value := #[.int 4, .int 2, .int 77]
def aboutOver (below : List Frame) : State where
  vm := { classes := classes, interned := interned.toArray }
  heap := heap
  slotsUsed := slotsUsed
  threads := #[{ frames := .invoking theMethod args0 :: below }]
def below0 : List Frame := [.native { method := ⟨0, 0⟩, args := #[] }]
def about1 : State := aboutOver below0
def p0 : Program := .bare "" "" ""
def e0 : Env := launch0.env 0 0 0
theorem w_frames : about1.frames = Frame.invoking theMethod args0 :: below0 := rfl
set_option maxRecDepth 65536 in
theorem w_args : argsFit about1.vm theMethod args0 = true := by decide +kernel
set_option maxRecDepth 65536 in
theorem w_heap : heapFits about1 = true := by decide +kernel
set_option maxRecDepth 65536 in
theorem w_runnable : about1.curStatus? = some .runnable := by decide +kernel
set_option maxRecDepth 65536 in
theorem w_alone : about1.alone = true := by decide +kernel
set_option maxRecDepth 65536 in
theorem w_named : about1.methodNamed? x = some theMethod := by decide +kernel
set_option maxRecDepth 65536 in
theorem w_hears : about1.hears theMethod below0 = true := by decide +kernel
set_option maxRecDepth 65536 in
theorem w_ripe : about1.ripe theMethod args0 below0 = true := by decide +kernel
theorem w_running : about1.status = .running := rfl
set_option maxRecDepth 65536 in
theorem w_room : about1.hasRoom e0.platform room_1 = true :=
  launch0.hasRoom_least _ room_1 (by decide +kernel) (by decide +kernel) (by decide +kernel) (by decide +kernel) (by decide +kernel) (by decide +kernel)
theorem allAtoms_all (ts : List Jvm.Cond) (a : Array Jvm.Value) (st : Jvm.State) : (allAtoms ts).before a st = ts.all (fun c => c.before a st) := by
  induction ts with
  | nil => rfl
  | cons c t ih =>
    show (Jvm.Cond.and c (allAtoms t)).before a st = _
    rw [Jvm.Cond.before_and, ih, List.all_cons]
def words1 : List Jvm.Cond := Jvm.Cond.code x code maxLocals ret :: tables_1
/-- a 'code' word, met by the world's own term for the bytes: nothing is compared byte by byte -/
theorem code_word {y : MethodName} {bytes : ByteArray} {mx : Nat} {rt : Option FieldType} {a : Array Value} {s : State} {m : MethodId} {meth : Method} {c : Code} (h1 : s.methodNamed? y = some m) (h2 : s.vm.method? m = some meth) (h3 : meth.code = some c) (h4 : c.code = bytes)
    (h5 : (c.maxLocals == mx && c.exceptionTable.isEmpty && decide (c.maxStack ≤ mostOperands) && decide (meth.sig.returnType = rt) && !meth.locks && decide (parseMethodDescriptor y.desc = some meth.sig)) = true) : (Jvm.Cond.code y bytes mx rt).before a s = true := by
  simp only [Bool.and_eq_true, beq_iff_eq, Bool.not_eq_true', decide_eq_true_eq] at h5
  obtain ⟨⟨⟨⟨⟨g1, g2⟩, g3⟩, g4⟩, g5⟩, g6⟩ := h5
  simp [Cond.before, Cond.holds, Cond.value, h1, h2, h3, h4, g1, g2, g3, g4, g5, g6]
def isCode : Jvm.Cond → Bool
  | .code _ _ _ _ => true
  | _ => false
theorem all_split {L : List Jvm.Cond} {P : Jvm.Cond → Bool} (h1 : L.all (fun c => isCode c || P c) = true) (h2 : ∀ c ∈ L.filter isCode, P c = true) : L.all P = true := by
  refine List.all_eq_true.mpr fun c hc => ?_
  have h := List.all_eq_true.mp h1 c hc
  rcases Bool.eq_false_or_eq_true (isCode c) with hi | hi
  · exact h2 c (List.mem_filter.mpr ⟨hc, hi⟩)
  · simpa [hi] using h
set_option maxRecDepth 65536 in
theorem w_c0 : (Jvm.Cond.code x code maxLocals ret).before args0 about1 = true := code_word (m := ⟨1, 3⟩) (meth := k1m3) (c := k1c3) (by decide +kernel) rfl rfl rfl (by decide +kernel)
set_option maxRecDepth 65536 in
theorem w_c1 : (Jvm.Cond.code ({ cls := "tabula/engine/ConceptOperandsPinLaw", name := "kindOf", desc := "(I)Ltabula/engine/Concept$Kind;" } : Jvm.MethodName) method_2_code (1 : Nat) (Option.some (Jvm.ClassFile.FieldType.object "tabula/engine/Concept$Kind"))).before args0 about1 = true := code_word (m := ⟨1, 1⟩) (meth := k1m1) (c := k1c1) (by decide +kernel) rfl rfl rfl (by decide +kernel)
set_option maxRecDepth 65536 in
theorem w_c2 : (Jvm.Cond.code ({ cls := "java/util/ArrayList", name := "<init>", desc := "()V" } : Jvm.MethodName) jdk_38_method_2_code (1 : Nat) (Option.none : Option Jvm.ClassFile.FieldType)).before args0 about1 = true := code_word (m := ⟨15, 0⟩) (meth := k15m0) (c := k15c0) (by decide +kernel) rfl rfl rfl (by decide +kernel)
set_option maxRecDepth 65536 in
theorem w_c3 : (Jvm.Cond.code ({ cls := "java/util/AbstractList", name := "<init>", desc := "()V" } : Jvm.MethodName) jdk_39_method_1_code (1 : Nat) (Option.none : Option Jvm.ClassFile.FieldType)).before args0 about1 = true := code_word (m := ⟨12, 0⟩) (meth := k12m0) (c := k12c0) (by decide +kernel) rfl rfl rfl (by decide +kernel)
set_option maxRecDepth 65536 in
theorem w_c4 : (Jvm.Cond.code ({ cls := "java/util/AbstractCollection", name := "<init>", desc := "()V" } : Jvm.MethodName) jdk_22_method_1_code (1 : Nat) (Option.none : Option Jvm.ClassFile.FieldType)).before args0 about1 = true := code_word (m := ⟨9, 0⟩) (meth := k9m0) (c := k9c0) (by decide +kernel) rfl rfl rfl (by decide +kernel)
set_option maxRecDepth 65536 in
theorem w_c5 : (Jvm.Cond.code ({ cls := "java/lang/Object", name := "<init>", desc := "()V" } : Jvm.MethodName) object_method_1_code (1 : Nat) (Option.none : Option Jvm.ClassFile.FieldType)).before args0 about1 = true := code_word (m := ⟨0, 0⟩) (meth := k0m0) (c := k0c0) (by decide +kernel) rfl rfl rfl (by decide +kernel)
set_option maxRecDepth 65536 in
theorem w_c6 : (Jvm.Cond.code ({ cls := "tabula/engine/Concept", name := "<init>", desc := "(ILtabula/engine/Concept$Kind;Ljava/lang/String;Ltabula/engine/Role;ILjava/util/List;)V" } : Jvm.MethodName) prog_16_method_1_code (10 : Nat) (Option.none : Option Jvm.ClassFile.FieldType)).before args0 about1 = true := code_word (m := ⟨16, 0⟩) (meth := k16m0) (c := k16c0) (by decide +kernel) rfl rfl rfl (by decide +kernel)
set_option maxRecDepth 65536 in
theorem w_c7 : (Jvm.Cond.code ({ cls := "java/util/List", name := "copyOf", desc := "(Ljava/util/Collection;)Ljava/util/List;" } : Jvm.MethodName) jdk_40_method_48_code (1 : Nat) (Option.some (Jvm.ClassFile.FieldType.object "java/util/List"))).before args0 about1 = true := code_word (m := ⟨11, 6⟩) (meth := k11m6) (c := k11c6) (by decide +kernel) rfl rfl rfl (by decide +kernel)
set_option maxRecDepth 65536 in
theorem w_c8 : (Jvm.Cond.code ({ cls := "java/util/ImmutableCollections", name := "listCopy", desc := "(Ljava/util/Collection;)Ljava/util/List;" } : Jvm.MethodName) jdk_56_method_3_code (2 : Nat) (Option.some (Jvm.ClassFile.FieldType.object "java/util/List"))).before args0 about1 = true := code_word (m := ⟨20, 1⟩) (meth := k20m1) (c := k20c1) (by decide +kernel) rfl rfl rfl (by decide +kernel)
set_option maxRecDepth 65536 in
theorem w_c9 : (Jvm.Cond.code ({ cls := "java/util/ArrayList", name := "isEmpty", desc := "()Z" } : Jvm.MethodName) jdk_38_method_9_code (1 : Nat) (Option.some Jvm.ClassFile.FieldType.boolean)).before args0 about1 = true := code_word (m := ⟨15, 3⟩) (meth := k15m3) (c := k15c3) (by decide +kernel) rfl rfl rfl (by decide +kernel)
set_option maxRecDepth 65536 in
theorem w_c10 : (Jvm.Cond.code ({ cls := "java/util/List", name := "of", desc := "()Ljava/util/List;" } : Jvm.MethodName) jdk_40_method_36_code (0 : Nat) (Option.some (Jvm.ClassFile.FieldType.object "java/util/List"))).before args0 about1 = true := code_word (m := ⟨11, 4⟩) (meth := k11m4) (c := k11c4) (by decide +kernel) rfl rfl rfl (by decide +kernel)
set_option maxRecDepth 65536 in
theorem w_c11 : (Jvm.Cond.code ({ cls := "java/util/ArrayList", name := "iterator", desc := "()Ljava/util/Iterator;" } : Jvm.MethodName) jdk_38_method_55_code (1 : Nat) (Option.some (Jvm.ClassFile.FieldType.object "java/util/Iterator"))).before args0 about1 = true := code_word (m := ⟨15, 7⟩) (meth := k15m7) (c := k15c7) (by decide +kernel) rfl rfl rfl (by decide +kernel)
set_option maxRecDepth 65536 in
theorem w_c12 : (Jvm.Cond.code ({ cls := "java/util/ArrayList$Itr", name := "<init>", desc := "(Ljava/util/ArrayList;)V" } : Jvm.MethodName) jdk_49_method_1_code (2 : Nat) (Option.none : Option Jvm.ClassFile.FieldType)).before args0 about1 = true := code_word (m := ⟨26, 0⟩) (meth := k26m0) (c := k26c0) (by decide +kernel) rfl rfl rfl (by decide +kernel)
set_option maxRecDepth 65536 in
theorem w_c13 : (Jvm.Cond.code ({ cls := "java/util/ArrayList$Itr", name := "hasNext", desc := "()Z" } : Jvm.MethodName) jdk_49_method_2_code (1 : Nat) (Option.some Jvm.ClassFile.FieldType.boolean)).before args0 about1 = true := code_word (m := ⟨26, 1⟩) (meth := k26m1) (c := k26c1) (by decide +kernel) rfl rfl rfl (by decide +kernel)
set_option maxRecDepth 65536 in
theorem w_c14 : (Jvm.Cond.code ({ cls := "tabula/engine/ConceptOperandsPinLaw", name := "cardinalityOf", desc := "(II)I" } : Jvm.MethodName) method_3_code (2 : Nat) (Option.some Jvm.ClassFile.FieldType.int)).before args0 about1 = true := code_word (m := ⟨1, 2⟩) (meth := k1m2) (c := k1c2) (by decide +kernel) rfl rfl rfl (by decide +kernel)
set_option maxRecDepth 65536 in
theorem w_c15 : (Jvm.Cond.code ({ cls := "tabula/engine/Concept", name := "operands", desc := "()Ljava/util/List;" } : Jvm.MethodName) prog_16_method_8_code (1 : Nat) (Option.some (Jvm.ClassFile.FieldType.object "java/util/List"))).before args0 about1 = true := code_word (m := ⟨16, 1⟩) (meth := k16m1) (c := k16c1) (by decide +kernel) rfl rfl rfl (by decide +kernel)
set_option maxRecDepth 65536 in
theorem w_c16 : (Jvm.Cond.code ({ cls := "java/util/ImmutableCollections$ListN", name := "isEmpty", desc := "()Z" } : Jvm.MethodName) jdk_45_method_2_code (1 : Nat) (Option.some Jvm.ClassFile.FieldType.boolean)).before args0 about1 = true := code_word (m := ⟨24, 1⟩) (meth := k24m1) (c := k24c1) (by decide +kernel) rfl rfl rfl (by decide +kernel)
set_option maxRecDepth 65536 in
theorem w_c17 : (Jvm.Cond.code ({ cls := "java/util/ArrayList", name := "add", desc := "(Ljava/lang/Object;)Z" } : Jvm.MethodName) jdk_38_method_25_code (2 : Nat) (Option.some Jvm.ClassFile.FieldType.boolean)).before args0 about1 = true := code_word (m := ⟨15, 6⟩) (meth := k15m6) (c := k15c6) (by decide +kernel) rfl rfl rfl (by decide +kernel)
set_option maxRecDepth 65536 in
theorem w_c18 : (Jvm.Cond.code ({ cls := "java/util/ArrayList", name := "add", desc := "(Ljava/lang/Object;[Ljava/lang/Object;I)V" } : Jvm.MethodName) jdk_38_method_24_code (4 : Nat) (Option.none : Option Jvm.ClassFile.FieldType)).before args0 about1 = true := code_word (m := ⟨15, 5⟩) (meth := k15m5) (c := k15c5) (by decide +kernel) rfl rfl rfl (by decide +kernel)
set_option maxRecDepth 65536 in
theorem w_c19 : (Jvm.Cond.code ({ cls := "java/util/ArrayList", name := "grow", desc := "()[Ljava/lang/Object;" } : Jvm.MethodName) jdk_38_method_7_code (1 : Nat) (Option.some (Jvm.ClassFile.FieldType.array (Jvm.ClassFile.FieldType.object "java/lang/Object")))).before args0 about1 = true := code_word (m := ⟨15, 2⟩) (meth := k15m2) (c := k15c2) (by decide +kernel) rfl rfl rfl (by decide +kernel)
set_option maxRecDepth 65536 in
theorem w_c20 : (Jvm.Cond.code ({ cls := "java/util/ArrayList", name := "grow", desc := "(I)[Ljava/lang/Object;" } : Jvm.MethodName) jdk_38_method_6_code (4 : Nat) (Option.some (Jvm.ClassFile.FieldType.array (Jvm.ClassFile.FieldType.object "java/lang/Object")))).before args0 about1 = true := code_word (m := ⟨15, 1⟩) (meth := k15m1) (c := k15c1) (by decide +kernel) rfl rfl rfl (by decide +kernel)
set_option maxRecDepth 65536 in
theorem w_c21 : (Jvm.Cond.code ({ cls := "java/lang/Math", name := "max", desc := "(II)I" } : Jvm.MethodName) jdk_29_method_65_code (2 : Nat) (Option.some Jvm.ClassFile.FieldType.int)).before args0 about1 = true := code_word (m := ⟨27, 1⟩) (meth := k27m1) (c := k27c1) (by decide +kernel) rfl rfl rfl (by decide +kernel)
set_option maxRecDepth 65536 in
theorem w_c22 : (Jvm.Cond.code ({ cls := "java/util/ArrayList", name := "toArray", desc := "()[Ljava/lang/Object;" } : Jvm.MethodName) jdk_38_method_16_code (1 : Nat) (Option.some (Jvm.ClassFile.FieldType.array (Jvm.ClassFile.FieldType.object "java/lang/Object")))).before args0 about1 = true := code_word (m := ⟨15, 4⟩) (meth := k15m4) (c := k15c4) (by decide +kernel) rfl rfl rfl (by decide +kernel)
set_option maxRecDepth 65536 in
theorem w_c23 : (Jvm.Cond.code ({ cls := "java/util/Arrays", name := "copyOf", desc := "([Ljava/lang/Object;I)[Ljava/lang/Object;" } : Jvm.MethodName) jdk_65_method_119_code (2 : Nat) (Option.some (Jvm.ClassFile.FieldType.array (Jvm.ClassFile.FieldType.object "java/lang/Object")))).before args0 about1 = true := code_word (m := ⟨28, 1⟩) (meth := k28m1) (c := k28c1) (by decide +kernel) rfl rfl rfl (by decide +kernel)
set_option maxRecDepth 65536 in
theorem w_c24 : (Jvm.Cond.code ({ cls := "java/util/Arrays", name := "copyOf", desc := "([Ljava/lang/Object;ILjava/lang/Class;)[Ljava/lang/Object;" } : Jvm.MethodName) jdk_65_method_120_code (4 : Nat) (Option.some (Jvm.ClassFile.FieldType.array (Jvm.ClassFile.FieldType.object "java/lang/Object")))).before args0 about1 = true := code_word (m := ⟨28, 2⟩) (meth := k28m2) (c := k28c2) (by decide +kernel) rfl rfl rfl (by decide +kernel)
set_option maxRecDepth 65536 in
theorem w_c25 : (Jvm.Cond.code ({ cls := "java/lang/Math", name := "min", desc := "(II)I" } : Jvm.MethodName) jdk_29_method_69_code (2 : Nat) (Option.some Jvm.ClassFile.FieldType.int)).before args0 about1 = true := code_word (m := ⟨27, 2⟩) (meth := k27m2) (c := k27c2) (by decide +kernel) rfl rfl rfl (by decide +kernel)
set_option maxRecDepth 65536 in
theorem w_c26 : (Jvm.Cond.code ({ cls := "java/util/List", name := "of", desc := "([Ljava/lang/Object;)Ljava/util/List;" } : Jvm.MethodName) jdk_40_method_47_code (2 : Nat) (Option.some (Jvm.ClassFile.FieldType.object "java/util/List"))).before args0 about1 = true := code_word (m := ⟨11, 5⟩) (meth := k11m5) (c := k11c5) (by decide +kernel) rfl rfl rfl (by decide +kernel)
set_option maxRecDepth 65536 in
theorem w_c27 : (Jvm.Cond.code ({ cls := "java/util/ImmutableCollections$List12", name := "<init>", desc := "(Ljava/lang/Object;Ljava/lang/Object;)V" } : Jvm.MethodName) jdk_44_method_2_code (3 : Nat) (Option.none : Option Jvm.ClassFile.FieldType)).before args0 about1 = true := code_word (m := ⟨23, 1⟩) (meth := k23m1) (c := k23c1) (by decide +kernel) rfl rfl rfl (by decide +kernel)
set_option maxRecDepth 65536 in
theorem w_c28 : (Jvm.Cond.code ({ cls := "java/util/ImmutableCollections$AbstractImmutableList", name := "<init>", desc := "()V" } : Jvm.MethodName) jdk_46_method_1_code (1 : Nat) (Option.none : Option Jvm.ClassFile.FieldType)).before args0 about1 = true := code_word (m := ⟨22, 0⟩) (meth := k22m0) (c := k22c0) (by decide +kernel) rfl rfl rfl (by decide +kernel)
set_option maxRecDepth 65536 in
theorem w_c29 : (Jvm.Cond.code ({ cls := "java/util/ImmutableCollections$AbstractImmutableCollection", name := "<init>", desc := "()V" } : Jvm.MethodName) jdk_47_method_1_code (1 : Nat) (Option.none : Option Jvm.ClassFile.FieldType)).before args0 about1 = true := code_word (m := ⟨21, 0⟩) (meth := k21m0) (c := k21c0) (by decide +kernel) rfl rfl rfl (by decide +kernel)
set_option maxRecDepth 65536 in
theorem w_c30 : (Jvm.Cond.code ({ cls := "java/util/Objects", name := "requireNonNull", desc := "(Ljava/lang/Object;)Ljava/lang/Object;" } : Jvm.MethodName) jdk_31_method_10_code (1 : Nat) (Option.some (Jvm.ClassFile.FieldType.object "java/lang/Object"))).before args0 about1 = true := code_word (m := ⟨30, 1⟩) (meth := k30m1) (c := k30c1) (by decide +kernel) rfl rfl rfl (by decide +kernel)
set_option maxRecDepth 65536 in
theorem w_c31 : (Jvm.Cond.code ({ cls := "java/util/ArrayList$Itr", name := "next", desc := "()Ljava/lang/Object;" } : Jvm.MethodName) jdk_49_method_3_code (3 : Nat) (Option.some (Jvm.ClassFile.FieldType.object "java/lang/Object"))).before args0 about1 = true := code_word (m := ⟨26, 2⟩) (meth := k26m2) (c := k26c2) (by decide +kernel) rfl rfl rfl (by decide +kernel)
set_option maxRecDepth 65536 in
theorem w_c32 : (Jvm.Cond.code ({ cls := "java/util/ArrayList$Itr", name := "checkForComodification", desc := "()V" } : Jvm.MethodName) jdk_49_method_6_code (1 : Nat) (Option.none : Option Jvm.ClassFile.FieldType)).before args0 about1 = true := code_word (m := ⟨26, 3⟩) (meth := k26m3) (c := k26c3) (by decide +kernel) rfl rfl rfl (by decide +kernel)
set_option maxRecDepth 65536 in
theorem w_c33 : (Jvm.Cond.code ({ cls := "java/util/ImmutableCollections$List12", name := "size", desc := "()I" } : Jvm.MethodName) jdk_44_method_3_code (1 : Nat) (Option.some Jvm.ClassFile.FieldType.int)).before args0 about1 = true := code_word (m := ⟨23, 2⟩) (meth := k23m2) (c := k23c2) (by decide +kernel) rfl rfl rfl (by decide +kernel)
set_option maxRecDepth 65536 in
theorem w_c34 : (Jvm.Cond.code ({ cls := "java/util/ImmutableCollections$List12", name := "get", desc := "(I)Ljava/lang/Object;" } : Jvm.MethodName) jdk_44_method_5_code (2 : Nat) (Option.some (Jvm.ClassFile.FieldType.object "java/lang/Object"))).before args0 about1 = true := code_word (m := ⟨23, 3⟩) (meth := k23m3) (c := k23c3) (by decide +kernel) rfl rfl rfl (by decide +kernel)
set_option maxRecDepth 65536 in
theorem w_c35 : (Jvm.Cond.code ({ cls := "tabula/engine/Role", name := "<init>", desc := "(Ljava/lang/String;ZZ)V" } : Jvm.MethodName) prog_33_method_1_code (4 : Nat) (Option.none : Option Jvm.ClassFile.FieldType)).before args0 about1 = true := code_word (m := ⟨32, 0⟩) (meth := k32m0) (c := k32c0) (by decide +kernel) rfl rfl rfl (by decide +kernel)
set_option maxRecDepth 65536 in
theorem w_c36 : (Jvm.Cond.code ({ cls := "java/lang/Record", name := "<init>", desc := "()V" } : Jvm.MethodName) jdk_30_method_1_code (1 : Nat) (Option.none : Option Jvm.ClassFile.FieldType)).before args0 about1 = true := code_word (m := ⟨31, 0⟩) (meth := k31m0) (c := k31c0) (by decide +kernel) rfl rfl rfl (by decide +kernel)
set_option maxRecDepth 65536 in
theorem w_c37 : (Jvm.Cond.code ({ cls := "java/util/Objects", name := "requireNonNull", desc := "(Ljava/lang/Object;Ljava/lang/String;)Ljava/lang/Object;" } : Jvm.MethodName) jdk_31_method_11_code (2 : Nat) (Option.some (Jvm.ClassFile.FieldType.object "java/lang/Object"))).before args0 about1 = true := code_word (m := ⟨30, 2⟩) (meth := k30m2) (c := k30c2) (by decide +kernel) rfl rfl rfl (by decide +kernel)
set_option maxRecDepth 65536 in
theorem w_c38 : (Jvm.Cond.code ({ cls := "java/util/ImmutableCollections$List12", name := "<init>", desc := "(Ljava/lang/Object;)V" } : Jvm.MethodName) jdk_44_method_1_code (2 : Nat) (Option.none : Option Jvm.ClassFile.FieldType)).before args0 about1 = true := code_word (m := ⟨23, 0⟩) (meth := k23m0) (c := k23c0) (by decide +kernel) rfl rfl rfl (by decide +kernel)
set_option maxRecDepth 65536 in
theorem w_c39 : (Jvm.Cond.code ({ cls := "tabula/engine/Role", name := "universal", desc := "()Z" } : Jvm.MethodName) prog_33_method_8_code (1 : Nat) (Option.some Jvm.ClassFile.FieldType.boolean)).before args0 about1 = true := code_word (m := ⟨32, 1⟩) (meth := k32m1) (c := k32c1) (by decide +kernel) rfl rfl rfl (by decide +kernel)
set_option maxRecDepth 65536 in
theorem w_c40 : (Jvm.Cond.code ({ cls := "java/util/ImmutableCollections", name := "listFromArray", desc := "([Ljava/lang/Object;)Ljava/util/List;" } : Jvm.MethodName) jdk_56_method_4_code (3 : Nat) (Option.some (Jvm.ClassFile.FieldType.object "java/util/List"))).before args0 about1 = true := code_word (m := ⟨20, 2⟩) (meth := k20m2) (c := k20c2) (by decide +kernel) rfl rfl rfl (by decide +kernel)
set_option maxRecDepth 65536 in
theorem w_c41 : (Jvm.Cond.code ({ cls := "java/util/ImmutableCollections$ListN", name := "<init>", desc := "([Ljava/lang/Object;Z)V" } : Jvm.MethodName) jdk_45_method_1_code (3 : Nat) (Option.none : Option Jvm.ClassFile.FieldType)).before args0 about1 = true := code_word (m := ⟨24, 0⟩) (meth := k24m0) (c := k24c0) (by decide +kernel) rfl rfl rfl (by decide +kernel)
set_option maxRecDepth 65536 in
theorem w_c42 : (Jvm.Cond.code ({ cls := "java/util/ImmutableCollections$ListN", name := "size", desc := "()I" } : Jvm.MethodName) jdk_45_method_3_code (1 : Nat) (Option.some Jvm.ClassFile.FieldType.int)).before args0 about1 = true := code_word (m := ⟨24, 2⟩) (meth := k24m2) (c := k24c2) (by decide +kernel) rfl rfl rfl (by decide +kernel)
set_option maxRecDepth 65536 in
theorem w_c43 : (Jvm.Cond.code ({ cls := "java/util/ImmutableCollections$ListN", name := "get", desc := "(I)Ljava/lang/Object;" } : Jvm.MethodName) jdk_45_method_4_code (2 : Nat) (Option.some (Jvm.ClassFile.FieldType.object "java/lang/Object"))).before args0 about1 = true := code_word (m := ⟨24, 3⟩) (meth := k24m3) (c := k24c3) (by decide +kernel) rfl rfl rfl (by decide +kernel)
def codes1 : List Jvm.Cond := [Jvm.Cond.code x code maxLocals ret, Jvm.Cond.code ({ cls := "tabula/engine/ConceptOperandsPinLaw", name := "kindOf", desc := "(I)Ltabula/engine/Concept$Kind;" } : Jvm.MethodName) method_2_code (1 : Nat) (Option.some (Jvm.ClassFile.FieldType.object "tabula/engine/Concept$Kind")), Jvm.Cond.code ({ cls := "java/util/ArrayList", name := "<init>", desc := "()V" } : Jvm.MethodName) jdk_38_method_2_code (1 : Nat) (Option.none : Option Jvm.ClassFile.FieldType), Jvm.Cond.code ({ cls := "java/util/AbstractList", name := "<init>", desc := "()V" } : Jvm.MethodName) jdk_39_method_1_code (1 : Nat) (Option.none : Option Jvm.ClassFile.FieldType), Jvm.Cond.code ({ cls := "java/util/AbstractCollection", name := "<init>", desc := "()V" } : Jvm.MethodName) jdk_22_method_1_code (1 : Nat) (Option.none : Option Jvm.ClassFile.FieldType), Jvm.Cond.code ({ cls := "java/lang/Object", name := "<init>", desc := "()V" } : Jvm.MethodName) object_method_1_code (1 : Nat) (Option.none : Option Jvm.ClassFile.FieldType), Jvm.Cond.code ({ cls := "tabula/engine/Concept", name := "<init>", desc := "(ILtabula/engine/Concept$Kind;Ljava/lang/String;Ltabula/engine/Role;ILjava/util/List;)V" } : Jvm.MethodName) prog_16_method_1_code (10 : Nat) (Option.none : Option Jvm.ClassFile.FieldType), Jvm.Cond.code ({ cls := "java/util/List", name := "copyOf", desc := "(Ljava/util/Collection;)Ljava/util/List;" } : Jvm.MethodName) jdk_40_method_48_code (1 : Nat) (Option.some (Jvm.ClassFile.FieldType.object "java/util/List")), Jvm.Cond.code ({ cls := "java/util/ImmutableCollections", name := "listCopy", desc := "(Ljava/util/Collection;)Ljava/util/List;" } : Jvm.MethodName) jdk_56_method_3_code (2 : Nat) (Option.some (Jvm.ClassFile.FieldType.object "java/util/List")), Jvm.Cond.code ({ cls := "java/util/ArrayList", name := "isEmpty", desc := "()Z" } : Jvm.MethodName) jdk_38_method_9_code (1 : Nat) (Option.some Jvm.ClassFile.FieldType.boolean), Jvm.Cond.code ({ cls := "java/util/List", name := "of", desc := "()Ljava/util/List;" } : Jvm.MethodName) jdk_40_method_36_code (0 : Nat) (Option.some (Jvm.ClassFile.FieldType.object "java/util/List")), Jvm.Cond.code ({ cls := "java/util/ArrayList", name := "iterator", desc := "()Ljava/util/Iterator;" } : Jvm.MethodName) jdk_38_method_55_code (1 : Nat) (Option.some (Jvm.ClassFile.FieldType.object "java/util/Iterator")), Jvm.Cond.code ({ cls := "java/util/ArrayList$Itr", name := "<init>", desc := "(Ljava/util/ArrayList;)V" } : Jvm.MethodName) jdk_49_method_1_code (2 : Nat) (Option.none : Option Jvm.ClassFile.FieldType), Jvm.Cond.code ({ cls := "java/util/ArrayList$Itr", name := "hasNext", desc := "()Z" } : Jvm.MethodName) jdk_49_method_2_code (1 : Nat) (Option.some Jvm.ClassFile.FieldType.boolean), Jvm.Cond.code ({ cls := "tabula/engine/ConceptOperandsPinLaw", name := "cardinalityOf", desc := "(II)I" } : Jvm.MethodName) method_3_code (2 : Nat) (Option.some Jvm.ClassFile.FieldType.int), Jvm.Cond.code ({ cls := "tabula/engine/Concept", name := "operands", desc := "()Ljava/util/List;" } : Jvm.MethodName) prog_16_method_8_code (1 : Nat) (Option.some (Jvm.ClassFile.FieldType.object "java/util/List")), Jvm.Cond.code ({ cls := "java/util/ImmutableCollections$ListN", name := "isEmpty", desc := "()Z" } : Jvm.MethodName) jdk_45_method_2_code (1 : Nat) (Option.some Jvm.ClassFile.FieldType.boolean), Jvm.Cond.code ({ cls := "java/util/ArrayList", name := "add", desc := "(Ljava/lang/Object;)Z" } : Jvm.MethodName) jdk_38_method_25_code (2 : Nat) (Option.some Jvm.ClassFile.FieldType.boolean), Jvm.Cond.code ({ cls := "java/util/ArrayList", name := "add", desc := "(Ljava/lang/Object;[Ljava/lang/Object;I)V" } : Jvm.MethodName) jdk_38_method_24_code (4 : Nat) (Option.none : Option Jvm.ClassFile.FieldType), Jvm.Cond.code ({ cls := "java/util/ArrayList", name := "grow", desc := "()[Ljava/lang/Object;" } : Jvm.MethodName) jdk_38_method_7_code (1 : Nat) (Option.some (Jvm.ClassFile.FieldType.array (Jvm.ClassFile.FieldType.object "java/lang/Object"))), Jvm.Cond.code ({ cls := "java/util/ArrayList", name := "grow", desc := "(I)[Ljava/lang/Object;" } : Jvm.MethodName) jdk_38_method_6_code (4 : Nat) (Option.some (Jvm.ClassFile.FieldType.array (Jvm.ClassFile.FieldType.object "java/lang/Object"))), Jvm.Cond.code ({ cls := "java/lang/Math", name := "max", desc := "(II)I" } : Jvm.MethodName) jdk_29_method_65_code (2 : Nat) (Option.some Jvm.ClassFile.FieldType.int), Jvm.Cond.code ({ cls := "java/util/ArrayList", name := "toArray", desc := "()[Ljava/lang/Object;" } : Jvm.MethodName) jdk_38_method_16_code (1 : Nat) (Option.some (Jvm.ClassFile.FieldType.array (Jvm.ClassFile.FieldType.object "java/lang/Object"))), Jvm.Cond.code ({ cls := "java/util/Arrays", name := "copyOf", desc := "([Ljava/lang/Object;I)[Ljava/lang/Object;" } : Jvm.MethodName) jdk_65_method_119_code (2 : Nat) (Option.some (Jvm.ClassFile.FieldType.array (Jvm.ClassFile.FieldType.object "java/lang/Object"))), Jvm.Cond.code ({ cls := "java/util/Arrays", name := "copyOf", desc := "([Ljava/lang/Object;ILjava/lang/Class;)[Ljava/lang/Object;" } : Jvm.MethodName) jdk_65_method_120_code (4 : Nat) (Option.some (Jvm.ClassFile.FieldType.array (Jvm.ClassFile.FieldType.object "java/lang/Object"))), Jvm.Cond.code ({ cls := "java/lang/Math", name := "min", desc := "(II)I" } : Jvm.MethodName) jdk_29_method_69_code (2 : Nat) (Option.some Jvm.ClassFile.FieldType.int), Jvm.Cond.code ({ cls := "java/util/List", name := "of", desc := "([Ljava/lang/Object;)Ljava/util/List;" } : Jvm.MethodName) jdk_40_method_47_code (2 : Nat) (Option.some (Jvm.ClassFile.FieldType.object "java/util/List")), Jvm.Cond.code ({ cls := "java/util/ImmutableCollections$List12", name := "<init>", desc := "(Ljava/lang/Object;Ljava/lang/Object;)V" } : Jvm.MethodName) jdk_44_method_2_code (3 : Nat) (Option.none : Option Jvm.ClassFile.FieldType), Jvm.Cond.code ({ cls := "java/util/ImmutableCollections$AbstractImmutableList", name := "<init>", desc := "()V" } : Jvm.MethodName) jdk_46_method_1_code (1 : Nat) (Option.none : Option Jvm.ClassFile.FieldType), Jvm.Cond.code ({ cls := "java/util/ImmutableCollections$AbstractImmutableCollection", name := "<init>", desc := "()V" } : Jvm.MethodName) jdk_47_method_1_code (1 : Nat) (Option.none : Option Jvm.ClassFile.FieldType), Jvm.Cond.code ({ cls := "java/util/Objects", name := "requireNonNull", desc := "(Ljava/lang/Object;)Ljava/lang/Object;" } : Jvm.MethodName) jdk_31_method_10_code (1 : Nat) (Option.some (Jvm.ClassFile.FieldType.object "java/lang/Object")), Jvm.Cond.code ({ cls := "java/util/ArrayList$Itr", name := "next", desc := "()Ljava/lang/Object;" } : Jvm.MethodName) jdk_49_method_3_code (3 : Nat) (Option.some (Jvm.ClassFile.FieldType.object "java/lang/Object")), Jvm.Cond.code ({ cls := "java/util/ArrayList$Itr", name := "checkForComodification", desc := "()V" } : Jvm.MethodName) jdk_49_method_6_code (1 : Nat) (Option.none : Option Jvm.ClassFile.FieldType), Jvm.Cond.code ({ cls := "java/util/ImmutableCollections$List12", name := "size", desc := "()I" } : Jvm.MethodName) jdk_44_method_3_code (1 : Nat) (Option.some Jvm.ClassFile.FieldType.int), Jvm.Cond.code ({ cls := "java/util/ImmutableCollections$List12", name := "get", desc := "(I)Ljava/lang/Object;" } : Jvm.MethodName) jdk_44_method_5_code (2 : Nat) (Option.some (Jvm.ClassFile.FieldType.object "java/lang/Object")), Jvm.Cond.code ({ cls := "tabula/engine/Role", name := "<init>", desc := "(Ljava/lang/String;ZZ)V" } : Jvm.MethodName) prog_33_method_1_code (4 : Nat) (Option.none : Option Jvm.ClassFile.FieldType), Jvm.Cond.code ({ cls := "java/lang/Record", name := "<init>", desc := "()V" } : Jvm.MethodName) jdk_30_method_1_code (1 : Nat) (Option.none : Option Jvm.ClassFile.FieldType), Jvm.Cond.code ({ cls := "java/util/Objects", name := "requireNonNull", desc := "(Ljava/lang/Object;Ljava/lang/String;)Ljava/lang/Object;" } : Jvm.MethodName) jdk_31_method_11_code (2 : Nat) (Option.some (Jvm.ClassFile.FieldType.object "java/lang/Object")), Jvm.Cond.code ({ cls := "java/util/ImmutableCollections$List12", name := "<init>", desc := "(Ljava/lang/Object;)V" } : Jvm.MethodName) jdk_44_method_1_code (2 : Nat) (Option.none : Option Jvm.ClassFile.FieldType), Jvm.Cond.code ({ cls := "tabula/engine/Role", name := "universal", desc := "()Z" } : Jvm.MethodName) prog_33_method_8_code (1 : Nat) (Option.some Jvm.ClassFile.FieldType.boolean), Jvm.Cond.code ({ cls := "java/util/ImmutableCollections", name := "listFromArray", desc := "([Ljava/lang/Object;)Ljava/util/List;" } : Jvm.MethodName) jdk_56_method_4_code (3 : Nat) (Option.some (Jvm.ClassFile.FieldType.object "java/util/List")), Jvm.Cond.code ({ cls := "java/util/ImmutableCollections$ListN", name := "<init>", desc := "([Ljava/lang/Object;Z)V" } : Jvm.MethodName) jdk_45_method_1_code (3 : Nat) (Option.none : Option Jvm.ClassFile.FieldType), Jvm.Cond.code ({ cls := "java/util/ImmutableCollections$ListN", name := "size", desc := "()I" } : Jvm.MethodName) jdk_45_method_3_code (1 : Nat) (Option.some Jvm.ClassFile.FieldType.int), Jvm.Cond.code ({ cls := "java/util/ImmutableCollections$ListN", name := "get", desc := "(I)Ljava/lang/Object;" } : Jvm.MethodName) jdk_45_method_4_code (2 : Nat) (Option.some (Jvm.ClassFile.FieldType.object "java/lang/Object"))]
set_option maxRecDepth 65536 in
theorem codes_eq : words1.filter isCode = codes1 := rfl
theorem w_codes : ∀ c ∈ words1.filter isCode, c.before args0 about1 = true := by
  rw [codes_eq]
  intro c hc
  simp only [codes1, List.mem_cons, List.not_mem_nil, or_false] at hc
  rcases hc with rfl | rfl | rfl | rfl | rfl | rfl | rfl | rfl | rfl | rfl | rfl | rfl | rfl | rfl | rfl | rfl | rfl | rfl | rfl | rfl | rfl | rfl | rfl | rfl | rfl | rfl | rfl | rfl | rfl | rfl | rfl | rfl | rfl | rfl | rfl | rfl | rfl | rfl | rfl | rfl | rfl | rfl | rfl | rfl
  · exact w_c0
  · exact w_c1
  · exact w_c2
  · exact w_c3
  · exact w_c4
  · exact w_c5
  · exact w_c6
  · exact w_c7
  · exact w_c8
  · exact w_c9
  · exact w_c10
  · exact w_c11
  · exact w_c12
  · exact w_c13
  · exact w_c14
  · exact w_c15
  · exact w_c16
  · exact w_c17
  · exact w_c18
  · exact w_c19
  · exact w_c20
  · exact w_c21
  · exact w_c22
  · exact w_c23
  · exact w_c24
  · exact w_c25
  · exact w_c26
  · exact w_c27
  · exact w_c28
  · exact w_c29
  · exact w_c30
  · exact w_c31
  · exact w_c32
  · exact w_c33
  · exact w_c34
  · exact w_c35
  · exact w_c36
  · exact w_c37
  · exact w_c38
  · exact w_c39
  · exact w_c40
  · exact w_c41
  · exact w_c42
  · exact w_c43
set_option maxRecDepth 65536 in
theorem w_t1 : (words1.take 24).all (fun c => isCode c || c.before args0 about1) = true := by decide +kernel
set_option maxRecDepth 65536 in
theorem w_t2 : ((words1.drop 24).take 24).all (fun c => isCode c || c.before args0 about1) = true := by decide +kernel
set_option maxRecDepth 65536 in
theorem w_t3 : (((words1.drop 24).drop 24).take 24).all (fun c => isCode c || c.before args0 about1) = true := by decide +kernel
set_option maxRecDepth 65536 in
theorem w_t4 : ((((words1.drop 24).drop 24).drop 24).take 24).all (fun c => isCode c || c.before args0 about1) = true := by decide +kernel
set_option maxRecDepth 65536 in
theorem w_t5 : (((((words1.drop 24).drop 24).drop 24).drop 24).take 24).all (fun c => isCode c || c.before args0 about1) = true := by decide +kernel
set_option maxRecDepth 65536 in
theorem w_t6 : ((((((words1.drop 24).drop 24).drop 24).drop 24).drop 24).take 24).all (fun c => isCode c || c.before args0 about1) = true := by decide +kernel
set_option maxRecDepth 65536 in
theorem w_t7 : (((((((words1.drop 24).drop 24).drop 24).drop 24).drop 24).drop 24).take 24).all (fun c => isCode c || c.before args0 about1) = true := by decide +kernel
set_option maxRecDepth 65536 in
theorem w_t8 : ((((((((words1.drop 24).drop 24).drop 24).drop 24).drop 24).drop 24).drop 24).take 24).all (fun c => isCode c || c.before args0 about1) = true := by decide +kernel
set_option maxRecDepth 65536 in
theorem w_t9 : (((((((((words1.drop 24).drop 24).drop 24).drop 24).drop 24).drop 24).drop 24).drop 24).take 24).all (fun c => isCode c || c.before args0 about1) = true := by decide +kernel
set_option maxRecDepth 65536 in
theorem w_t10 : ((((((((((words1.drop 24).drop 24).drop 24).drop 24).drop 24).drop 24).drop 24).drop 24).drop 24).take 24).all (fun c => isCode c || c.before args0 about1) = true := by decide +kernel
set_option maxRecDepth 65536 in
theorem w_t11 : (((((((((((words1.drop 24).drop 24).drop 24).drop 24).drop 24).drop 24).drop 24).drop 24).drop 24).drop 24).take 24).all (fun c => isCode c || c.before args0 about1) = true := by decide +kernel
set_option maxRecDepth 65536 in
theorem w_t12 : ((((((((((((words1.drop 24).drop 24).drop 24).drop 24).drop 24).drop 24).drop 24).drop 24).drop 24).drop 24).drop 24).take 24).all (fun c => isCode c || c.before args0 about1) = true := by decide +kernel
set_option maxRecDepth 65536 in
theorem w_t13 : (((((((((((((words1.drop 24).drop 24).drop 24).drop 24).drop 24).drop 24).drop 24).drop 24).drop 24).drop 24).drop 24).drop 24).take 24).all (fun c => isCode c || c.before args0 about1) = true := by decide +kernel
set_option maxRecDepth 65536 in
theorem w_t14 : ((((((((((((((words1.drop 24).drop 24).drop 24).drop 24).drop 24).drop 24).drop 24).drop 24).drop 24).drop 24).drop 24).drop 24).drop 24).take 24).all (fun c => isCode c || c.before args0 about1) = true := by decide +kernel
set_option maxRecDepth 65536 in
theorem w_t15 : ((((((((((((((words1.drop 24).drop 24).drop 24).drop 24).drop 24).drop 24).drop 24).drop 24).drop 24).drop 24).drop 24).drop 24).drop 24).drop 24).all (fun c => isCode c || c.before args0 about1) = true := by decide +kernel
theorem w_tables : (allAtoms (Jvm.Cond.code x code maxLocals ret :: tables_1)).before args0 about1 = true := by
  rw [allAtoms_all]
  show words1.all (fun c => c.before args0 about1) = true
  refine all_split ?_ w_codes
  rw [← List.take_append_drop 24 words1, List.all_append, w_t1, ← List.take_append_drop 24 (words1.drop 24), List.all_append, w_t2, ← List.take_append_drop 24 ((words1.drop 24).drop 24), List.all_append, w_t3, ← List.take_append_drop 24 (((words1.drop 24).drop 24).drop 24), List.all_append, w_t4, ← List.take_append_drop 24 ((((words1.drop 24).drop 24).drop 24).drop 24), List.all_append, w_t5, ← List.take_append_drop 24 (((((words1.drop 24).drop 24).drop 24).drop 24).drop 24), List.all_append, w_t6, ← List.take_append_drop 24 ((((((words1.drop 24).drop 24).drop 24).drop 24).drop 24).drop 24), List.all_append, w_t7, ← List.take_append_drop 24 (((((((words1.drop 24).drop 24).drop 24).drop 24).drop 24).drop 24).drop 24), List.all_append, w_t8, ← List.take_append_drop 24 ((((((((words1.drop 24).drop 24).drop 24).drop 24).drop 24).drop 24).drop 24).drop 24), List.all_append, w_t9, ← List.take_append_drop 24 (((((((((words1.drop 24).drop 24).drop 24).drop 24).drop 24).drop 24).drop 24).drop 24).drop 24), List.all_append, w_t10, ← List.take_append_drop 24 ((((((((((words1.drop 24).drop 24).drop 24).drop 24).drop 24).drop 24).drop 24).drop 24).drop 24).drop 24), List.all_append, w_t11, ← List.take_append_drop 24 (((((((((((words1.drop 24).drop 24).drop 24).drop 24).drop 24).drop 24).drop 24).drop 24).drop 24).drop 24).drop 24), List.all_append, w_t12, ← List.take_append_drop 24 ((((((((((((words1.drop 24).drop 24).drop 24).drop 24).drop 24).drop 24).drop 24).drop 24).drop 24).drop 24).drop 24).drop 24), List.all_append, w_t13, ← List.take_append_drop 24 (((((((((((((words1.drop 24).drop 24).drop 24).drop 24).drop 24).drop 24).drop 24).drop 24).drop 24).drop 24).drop 24).drop 24).drop 24), List.all_append, w_t14, w_t15]
  rfl
set_option maxRecDepth 65536 in
theorem w_rest : rest_1_c.before args0 about1 = true := by decide +kernel
set_option maxRecDepth 65536 in
theorem w_case : (Jvm.Cond.and given_1 narrow_1).before args0 about1 = true := by decide +kernel
theorem w_applies : (headSpec (Jvm.Cond.code x code maxLocals ret :: tables_1) room_1).applies x e0.platform about1 = true :=
  (Spec.applies_iff w_frames).mpr ⟨w_running, w_runnable, w_alone, w_named, w_hears, w_ripe, w_room, w_tables⟩
theorem atStart : AtStart classFile x code maxLocals ret World_1 tables_1 room_1 Calls_1 rest_1 Pre_1 launch0 p0 e0 about1 theMethod args0 below0 :=
  ⟨lists_1, trivial, launch0.admits_env _ _ _, launch0.least_env, fairChoices_fair.cas, fairChoices_fair.clock, w_frames, w_args, w_heap, w_applies, ⟨⟨36, k36, 3, by decide +kernel, rfl, rfl, _, rfl, rfl⟩, trivial⟩, w_rest, w_case⟩
end start1
theorem witness_1 : WitnessClaimed_1 := ⟨start1.p0, start1.e0, start1.about1, start1.theMethod, start1.args0, start1.below0, start1.atStart⟩
end Jvm.Pilot.@@N@@
