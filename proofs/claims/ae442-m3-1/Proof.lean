import JvmDerived
import JvmDerived.Pilot.@@N@@Statement
import JvmDerived.Pilot.@@N@@Code
set_option linter.unusedVariables false
set_option linter.unusedSimpArgs false
namespace Jvm.RoadKit
open Sem ClassFile Op Lib Jvm.Stand Jvm.Free Jvm.LawKit
section New
variable {p : Program} {l : Launch} {e : Env} {R : Room} {s : State} {m : MethodId} {args : Array Value} {below : List Frame} {meth : Method} {c : Code} {T : State} {locs : List Loc} {cells slots : Nat}
theorem retI (X : Stand p l e R s m args below meth c T locs cells slots) (hx : p.tables.exec = Jvm.exec) {pc : Nat} {Ls : Array Slot} {z : Int32} {rest : List Value} (hret : meth.sig.returnType = some .int) (hd : decode c.code pc = .ok (.ireturn, 1)) {fs : List Frame}
    (hl : ∀ (f : JFrame) (acts : List Action), f.method = m → f.locked = none → f.entered = [] → (doReturn e (T.setTop f) acts (some (.int z))).1 = T.setFrames fs) : Steps p.tables e below (T.setTop (mkF m pc Ls (.int z :: rest))) (T.setFrames fs) := by
  have hm' : T.vm.method? m = some meth := X.method'
  have hn : narrow .int (.int z) = .int z := rfl
  show Steps p.tables e below (T.setTop { method := m, pc := pc, locals := Ls, stack := _ :: rest, locked := none }) _
  jvm_step X.here [X.here.top, hx, hd, hm', hret, hn]
  first | (intro acts; rw [hl _ acts rfl rfl rfl]) | rw [hl _ _ rfl rfl rfl]
  exact Steps.refl _
end New
end Jvm.RoadKit
namespace Jvm.Pilot.@@N@@
open Jvm Jvm.ClassFile Sem Op Lib Jvm.Free Jvm.Stand Jvm.LawKit Jvm.RoadKit Bundle Jvm.Pilot.@@N@@.Jvm.D
theorem ow {Z : State} {a0 : Array Value} (hw : ∀ d ∈ tables_1, d.before a0 Z = true) (i : Nat) {d : Jvm.Cond} (h : tables_1[i]? = some d) : d.before a0 Z = true := hw d (List.mem_of_getElem? h)
abbrev HW (a0 : Array Value) (Z : State) : Prop := ∀ d ∈ tables_1, d.before a0 Z = true
abbrev MF (l : Launch) (y : MethodName) (bytes : ByteArray) (ml : Nat) (ret : Option FieldType) (ws : List Jvm.Cond) (rm : Room) (Z : State) (as : Array Value) (h0 : Heap) (Q : Option Value → Heap → List Loc → Prop) : Prop := MetFree l y (head1 (Jvm.Cond.code y bytes ml ret :: ws) rm) (fun a U => a = as ∧ Z.Warmed39 U.vm ∧ U.heap = h0) (fun _ _ _ _ _ => True) (fun _ U o U' => ∃ v L, o = .returned v ∧ Q v U'.heap L ∧ FrameEnd U o U' L rm.cells rm.slots)
abbrev St (p : Program) (e : Env) (below : List Frame) (T : State) (m : MethodId) (pc : Nat) (Ls : Array Slot) (st : List Value) (t : State) : Prop := Steps p.tables e below (T.setTop (mkF m pc Ls st)) t
def own_b (x : Int32) : Int32 := if x = (0 : Int32) then (0 : Int32) else (1 : Int32)
theorem own_i8 (x : Int32) : x.toInt8.toInt32.toInt8.toInt32 = x.toInt8.toInt32 := by simp
theorem own_narb (x : Int32) : nar .byte (x.toInt8.toInt32) = x.toInt8.toInt32 := by simp [nar]
theorem own_sti {args : Array Value} {s : State} {t : Term} {k : Int32} (h : (Jvm.Cond.eq t (Term.int k)).value args s none s [] = some true) : t.eval args s none [] s = some (.int k) := by
  obtain ⟨x, y, h1, h2, h3, h4⟩ := cmp_v (Or.inl h)
  have e2 : y = .int k := (Option.some.inj ((Term.int_eval k).symm.trans h2)).symm
  subst e2
  obtain ⟨z, rfl⟩ := h4
  rw [h1, gotT (Cond.eq_ints h1 h2) h]
theorem own_len {args : Array Value} {s : State} {t : Term} {a : Addr} {cl : Cell} {ty : FieldType} {n : Int32} (ev : t.eval args s none [] s = some (.ref a)) (A : Arr s s.heap a cl ty) (h : (Jvm.Cond.eq (Term.length t) (Term.int n)).value args s none s [] = some true) : cl.slots.size < 2 ^ 31 ∧ cl.slots.size.toInt32 = n := by
  have e := own_sti h
  have q := A.fin (Vm.Alike.refl _)
  have l := SBG.length_lt ev q e
  rw [len_f ev q l] at e
  exact ⟨l, Value.int.inj (Option.some.inj e)⟩
def Base (Z : State) (wRequestState_UNKNOWN : Addr) (wRequestState_IN_PROGRESS : Addr) (wRequestState_REMOVED : Addr) (wRequestState_DONE : Addr) (wRequestState_FAILED : Addr) (wOptional_EMPTY : Addr) (wIntegerCache_cache : Addr) (zCOMPACT_STRINGS : Int32) (clC : Cell) : Prop := Sta Z Z.heap "com/example/agave/agave/store/RequestState" "UNKNOWN" "Lcom/example/agave/agave/store/RequestState;" (.ref wRequestState_UNKNOWN) ∧ Exa Z Z.heap wRequestState_UNKNOWN "com/example/agave/agave/store/RequestState" ∧ Sta Z Z.heap "com/example/agave/agave/store/RequestState" "IN_PROGRESS" "Lcom/example/agave/agave/store/RequestState;" (.ref wRequestState_IN_PROGRESS) ∧ Exa Z Z.heap wRequestState_IN_PROGRESS "com/example/agave/agave/store/RequestState" ∧ Sta Z Z.heap "com/example/agave/agave/store/RequestState" "REMOVED" "Lcom/example/agave/agave/store/RequestState;" (.ref wRequestState_REMOVED) ∧ Exa Z Z.heap wRequestState_REMOVED "com/example/agave/agave/store/RequestState" ∧ Sta Z Z.heap "com/example/agave/agave/store/RequestState" "DONE" "Lcom/example/agave/agave/store/RequestState;" (.ref wRequestState_DONE) ∧ Exa Z Z.heap wRequestState_DONE "com/example/agave/agave/store/RequestState" ∧ Sta Z Z.heap "com/example/agave/agave/store/RequestState" "FAILED" "Lcom/example/agave/agave/store/RequestState;" (.ref wRequestState_FAILED) ∧ Exa Z Z.heap wRequestState_FAILED "com/example/agave/agave/store/RequestState" ∧ Sta Z Z.heap "java/util/Optional" "EMPTY" "Ljava/util/Optional;" (.ref wOptional_EMPTY) ∧ Exa Z Z.heap wOptional_EMPTY "java/util/Optional" ∧ Sta Z Z.heap "java/lang/Integer$IntegerCache" "high" "I" (.int (127 : Int32)) ∧ Sta Z Z.heap "java/lang/Integer$IntegerCache" "cache" "[Ljava/lang/Integer;" (.ref wIntegerCache_cache) ∧ Exa Z Z.heap wIntegerCache_cache "[Ljava/lang/Integer;" ∧ Sta Z Z.heap "java/lang/String" "COMPACT_STRINGS" "Z" (.int zCOMPACT_STRINGS) ∧ ¬ (zCOMPACT_STRINGS = (0 : Int32)) ∧ Fld Z Z.heap wOptional_EMPTY "java/util/Optional" "value" "Ljava/lang/Object;" .null ∧ wRequestState_UNKNOWN ≠ wOptional_EMPTY ∧ wRequestState_UNKNOWN ≠ wIntegerCache_cache ∧ wRequestState_IN_PROGRESS ≠ wOptional_EMPTY ∧ wRequestState_IN_PROGRESS ≠ wIntegerCache_cache ∧ wRequestState_REMOVED ≠ wOptional_EMPTY ∧ wRequestState_REMOVED ≠ wIntegerCache_cache ∧ wRequestState_DONE ≠ wOptional_EMPTY ∧ wRequestState_DONE ≠ wIntegerCache_cache ∧ wRequestState_FAILED ≠ wOptional_EMPTY ∧ wRequestState_FAILED ≠ wIntegerCache_cache ∧ wOptional_EMPTY ≠ wIntegerCache_cache ∧ Arr Z Z.heap wIntegerCache_cache clC (.object "java/lang/Integer") ∧ clC.slots.size = 256 ∧ ∀ j : Int32, ¬ (j < 0 ∨ clC.slots.size ≤ j.toNatClampNeg) → ∃ r : Addr, clC.slots[j.toNatClampNeg]? = some (.ref r)
set_option maxRecDepth 65536 in
set_option maxHeartbeats 40000000 in
theorem g0_1 {p : Program} {l : Launch} {e : Env} {R : Room} {s : State} {m : MethodId} {args : Array Value} {below : List Frame} {meth : Method} {c : Code} {T0 : State} {locs : List Loc} {cells slots : Nat} {Z : State} {a0 : Array Value} {h0 : Heap} {n0 : Nat} (p1 : Int32) (p2 : Int32) (p3 : Int32)
    (X0 : Stand p l e R s m args below meth c T0 locs cells slots) (hx : p.tables.exec = Jvm.exec) (hZ : Z.Warmed39 s.vm) (hw : HW a0 Z) (hby : c.code = code) (hml : c.maxLocals = 19) (hown : s.vm.findClass "com/example/agave/agave/store/RequestStateOfPinLaw" = some m.cls) (e0 : T0.heap = h0) (O0 : Old Z n0 h0) (N0 : Fr n0 locs) (rc : cells + 0 ≤ R.cells) (rs : slots + 0 ≤ R.slots) (rf : 0 ≤ R.frames) (rl : 0 ≤ R.locals) :
    ∃ (T' : State) (L' : List Loc), Stand p l e R s m args below meth c T' L' (cells + 0) (slots + 0) ∧ T'.heap = h0 ∧ Fr n0 L' ∧
      ∀ target, St p e below T' m 94 #[iv p1, iv p2, iv p3, iv (own_b (p1 &&& (1 : Int32))), iv (own_b (p1 &&& (2 : Int32))), iv (own_b (p1 &&& (4 : Int32))), iv (own_b (p1 &&& (8 : Int32))), iv (own_b (p1 &&& (16 : Int32))), iv (own_b (p1 &&& (32 : Int32))), iv (own_b (p1 &&& (64 : Int32))), .unset, .unset, .unset, .unset, .unset, .unset, .unset, .unset, .unset] [] target → St p e below T0 m 0 #[iv p1, iv p2, iv p3, .unset, .unset, .unset, .unset, .unset, .unset, .unset, .unset, .unset, .unset, .unset, .unset, .unset, .unset, .unset, .unset] [] target := by
  have D4 : ∀ t, St p e below T0 m 12 #[iv p1, iv p2, iv p3, iv (own_b (p1 &&& (1 : Int32))), .unset, .unset, .unset, .unset, .unset, .unset, .unset, .unset, .unset, .unset, .unset, .unset, .unset, .unset, .unset] [] t → St p e below T0 m 0 #[iv p1, iv p2, iv p3, .unset, .unset, .unset, .unset, .unset, .unset, .unset, .unset, .unset, .unset, .unset, .unset, .unset, .unset, .unset, .unset] [] t := by
    intro t kt
    by_cases q : (p1 &&& (1 : Int32)) = (0 : Int32)
    · have q' : (own_b (p1 &&& (1 : Int32))) = (0 : Int32) := if_pos q
      rw [q'] at kt
      show St p e below T0 m 0 #[iv p1, iv p2, iv p3, .unset, .unset, .unset, .unset, .unset, .unset, .unset, .unset, .unset, .unset, .unset, .unset, .unset, .unset, .unset, .unset] [] _
      refine XS.iloadN X0.here hx rfl (hb hby at_0) rfl ?_
      show St p e below T0 m 1 #[iv p1, iv p2, iv p3, .unset, .unset, .unset, .unset, .unset, .unset, .unset, .unset, .unset, .unset, .unset, .unset, .unset, .unset, .unset, .unset] [(.int p1)] _
      refine XS.iconst X0.here hx rfl (hb hby at_1) ?_
      show St p e below T0 m 2 #[iv p1, iv p2, iv p3, .unset, .unset, .unset, .unset, .unset, .unset, .unset, .unset, .unset, .unset, .unset, .unset, .unset, .unset, .unset, .unset] [(.int (1 : Int32)), (.int p1)] _
      refine XS.iand X0.here hx rfl (hb hby at_2) rfl ?_
      show St p e below T0 m 3 #[iv p1, iv p2, iv p3, .unset, .unset, .unset, .unset, .unset, .unset, .unset, .unset, .unset, .unset, .unset, .unset, .unset, .unset, .unset, .unset] [(.int (p1 &&& (1 : Int32)))] _
      refine XS.ifYes X0.here hx rfl (pc0 := 3) (pc' := 10) rfl (hb hby at_3) rfl ((if0 _ _).trans (teq q).1) (by decide) (by decide) ?_
      show St p e below T0 m 10 #[iv p1, iv p2, iv p3, .unset, .unset, .unset, .unset, .unset, .unset, .unset, .unset, .unset, .unset, .unset, .unset, .unset, .unset, .unset, .unset] [] _
      refine XS.iconst X0.here hx rfl (hb hby at_10) ?_
      show St p e below T0 m 11 #[iv p1, iv p2, iv p3, .unset, .unset, .unset, .unset, .unset, .unset, .unset, .unset, .unset, .unset, .unset, .unset, .unset, .unset, .unset, .unset] [(.int (0 : Int32))] _
      refine XS.istoreN X0.here hx rfl (hb hby at_11) rfl (l' := #[iv p1, iv p2, iv p3, iv (0 : Int32), .unset, .unset, .unset, .unset, .unset, .unset, .unset, .unset, .unset, .unset, .unset, .unset, .unset, .unset, .unset]) rfl ?_
      exact kt
    · have q' : (own_b (p1 &&& (1 : Int32))) = (1 : Int32) := if_neg q
      rw [q'] at kt
      show St p e below T0 m 0 #[iv p1, iv p2, iv p3, .unset, .unset, .unset, .unset, .unset, .unset, .unset, .unset, .unset, .unset, .unset, .unset, .unset, .unset, .unset, .unset] [] _
      refine XS.iloadN X0.here hx rfl (hb hby at_0) rfl ?_
      show St p e below T0 m 1 #[iv p1, iv p2, iv p3, .unset, .unset, .unset, .unset, .unset, .unset, .unset, .unset, .unset, .unset, .unset, .unset, .unset, .unset, .unset, .unset] [(.int p1)] _
      refine XS.iconst X0.here hx rfl (hb hby at_1) ?_
      show St p e below T0 m 2 #[iv p1, iv p2, iv p3, .unset, .unset, .unset, .unset, .unset, .unset, .unset, .unset, .unset, .unset, .unset, .unset, .unset, .unset, .unset, .unset] [(.int (1 : Int32)), (.int p1)] _
      refine XS.iand X0.here hx rfl (hb hby at_2) rfl ?_
      show St p e below T0 m 3 #[iv p1, iv p2, iv p3, .unset, .unset, .unset, .unset, .unset, .unset, .unset, .unset, .unset, .unset, .unset, .unset, .unset, .unset, .unset, .unset] [(.int (p1 &&& (1 : Int32)))] _
      refine XS.ifNo X0.here hx rfl (hb hby at_3) rfl ((if0 _ _).trans (feq q).1) ?_
      show St p e below T0 m 6 #[iv p1, iv p2, iv p3, .unset, .unset, .unset, .unset, .unset, .unset, .unset, .unset, .unset, .unset, .unset, .unset, .unset, .unset, .unset, .unset] [] _
      refine XS.iconst X0.here hx rfl (hb hby at_6) ?_
      show St p e below T0 m 7 #[iv p1, iv p2, iv p3, .unset, .unset, .unset, .unset, .unset, .unset, .unset, .unset, .unset, .unset, .unset, .unset, .unset, .unset, .unset, .unset] [(.int (1 : Int32))] _
      refine XS.goto X0.here hx rfl (pc0 := 7) (pc' := 11) rfl (hb hby at_7) (by decide) (by decide) ?_
      show St p e below T0 m 11 #[iv p1, iv p2, iv p3, .unset, .unset, .unset, .unset, .unset, .unset, .unset, .unset, .unset, .unset, .unset, .unset, .unset, .unset, .unset, .unset] [(.int (1 : Int32))] _
      refine XS.istoreN X0.here hx rfl (hb hby at_11) rfl (l' := #[iv p1, iv p2, iv p3, iv (1 : Int32), .unset, .unset, .unset, .unset, .unset, .unset, .unset, .unset, .unset, .unset, .unset, .unset, .unset, .unset, .unset]) rfl ?_
      exact kt
  have D5 : ∀ t, St p e below T0 m 25 #[iv p1, iv p2, iv p3, iv (own_b (p1 &&& (1 : Int32))), iv (own_b (p1 &&& (2 : Int32))), .unset, .unset, .unset, .unset, .unset, .unset, .unset, .unset, .unset, .unset, .unset, .unset, .unset, .unset] [] t → St p e below T0 m 12 #[iv p1, iv p2, iv p3, iv (own_b (p1 &&& (1 : Int32))), .unset, .unset, .unset, .unset, .unset, .unset, .unset, .unset, .unset, .unset, .unset, .unset, .unset, .unset, .unset] [] t := by
    intro t kt
    by_cases q : (p1 &&& (2 : Int32)) = (0 : Int32)
    · have q' : (own_b (p1 &&& (2 : Int32))) = (0 : Int32) := if_pos q
      rw [q'] at kt
      show St p e below T0 m 12 #[iv p1, iv p2, iv p3, iv (own_b (p1 &&& (1 : Int32))), .unset, .unset, .unset, .unset, .unset, .unset, .unset, .unset, .unset, .unset, .unset, .unset, .unset, .unset, .unset] [] _
      refine XS.iloadN X0.here hx rfl (hb hby at_12) rfl ?_
      show St p e below T0 m 13 #[iv p1, iv p2, iv p3, iv (own_b (p1 &&& (1 : Int32))), .unset, .unset, .unset, .unset, .unset, .unset, .unset, .unset, .unset, .unset, .unset, .unset, .unset, .unset, .unset] [(.int p1)] _
      refine XS.iconst X0.here hx rfl (hb hby at_13) ?_
      show St p e below T0 m 14 #[iv p1, iv p2, iv p3, iv (own_b (p1 &&& (1 : Int32))), .unset, .unset, .unset, .unset, .unset, .unset, .unset, .unset, .unset, .unset, .unset, .unset, .unset, .unset, .unset] [(.int (2 : Int32)), (.int p1)] _
      refine XS.iand X0.here hx rfl (hb hby at_14) rfl ?_
      show St p e below T0 m 15 #[iv p1, iv p2, iv p3, iv (own_b (p1 &&& (1 : Int32))), .unset, .unset, .unset, .unset, .unset, .unset, .unset, .unset, .unset, .unset, .unset, .unset, .unset, .unset, .unset] [(.int (p1 &&& (2 : Int32)))] _
      refine XS.ifYes X0.here hx rfl (pc0 := 15) (pc' := 22) rfl (hb hby at_15) rfl ((if0 _ _).trans (teq q).1) (by decide) (by decide) ?_
      show St p e below T0 m 22 #[iv p1, iv p2, iv p3, iv (own_b (p1 &&& (1 : Int32))), .unset, .unset, .unset, .unset, .unset, .unset, .unset, .unset, .unset, .unset, .unset, .unset, .unset, .unset, .unset] [] _
      refine XS.iconst X0.here hx rfl (hb hby at_22) ?_
      show St p e below T0 m 23 #[iv p1, iv p2, iv p3, iv (own_b (p1 &&& (1 : Int32))), .unset, .unset, .unset, .unset, .unset, .unset, .unset, .unset, .unset, .unset, .unset, .unset, .unset, .unset, .unset] [(.int (0 : Int32))] _
      refine XS.istore X0.here hx rfl (hb hby at_23) rfl (l' := #[iv p1, iv p2, iv p3, iv (own_b (p1 &&& (1 : Int32))), iv (0 : Int32), .unset, .unset, .unset, .unset, .unset, .unset, .unset, .unset, .unset, .unset, .unset, .unset, .unset, .unset]) rfl ?_
      exact kt
    · have q' : (own_b (p1 &&& (2 : Int32))) = (1 : Int32) := if_neg q
      rw [q'] at kt
      show St p e below T0 m 12 #[iv p1, iv p2, iv p3, iv (own_b (p1 &&& (1 : Int32))), .unset, .unset, .unset, .unset, .unset, .unset, .unset, .unset, .unset, .unset, .unset, .unset, .unset, .unset, .unset] [] _
      refine XS.iloadN X0.here hx rfl (hb hby at_12) rfl ?_
      show St p e below T0 m 13 #[iv p1, iv p2, iv p3, iv (own_b (p1 &&& (1 : Int32))), .unset, .unset, .unset, .unset, .unset, .unset, .unset, .unset, .unset, .unset, .unset, .unset, .unset, .unset, .unset] [(.int p1)] _
      refine XS.iconst X0.here hx rfl (hb hby at_13) ?_
      show St p e below T0 m 14 #[iv p1, iv p2, iv p3, iv (own_b (p1 &&& (1 : Int32))), .unset, .unset, .unset, .unset, .unset, .unset, .unset, .unset, .unset, .unset, .unset, .unset, .unset, .unset, .unset] [(.int (2 : Int32)), (.int p1)] _
      refine XS.iand X0.here hx rfl (hb hby at_14) rfl ?_
      show St p e below T0 m 15 #[iv p1, iv p2, iv p3, iv (own_b (p1 &&& (1 : Int32))), .unset, .unset, .unset, .unset, .unset, .unset, .unset, .unset, .unset, .unset, .unset, .unset, .unset, .unset, .unset] [(.int (p1 &&& (2 : Int32)))] _
      refine XS.ifNo X0.here hx rfl (hb hby at_15) rfl ((if0 _ _).trans (feq q).1) ?_
      show St p e below T0 m 18 #[iv p1, iv p2, iv p3, iv (own_b (p1 &&& (1 : Int32))), .unset, .unset, .unset, .unset, .unset, .unset, .unset, .unset, .unset, .unset, .unset, .unset, .unset, .unset, .unset] [] _
      refine XS.iconst X0.here hx rfl (hb hby at_18) ?_
      show St p e below T0 m 19 #[iv p1, iv p2, iv p3, iv (own_b (p1 &&& (1 : Int32))), .unset, .unset, .unset, .unset, .unset, .unset, .unset, .unset, .unset, .unset, .unset, .unset, .unset, .unset, .unset] [(.int (1 : Int32))] _
      refine XS.goto X0.here hx rfl (pc0 := 19) (pc' := 23) rfl (hb hby at_19) (by decide) (by decide) ?_
      show St p e below T0 m 23 #[iv p1, iv p2, iv p3, iv (own_b (p1 &&& (1 : Int32))), .unset, .unset, .unset, .unset, .unset, .unset, .unset, .unset, .unset, .unset, .unset, .unset, .unset, .unset, .unset] [(.int (1 : Int32))] _
      refine XS.istore X0.here hx rfl (hb hby at_23) rfl (l' := #[iv p1, iv p2, iv p3, iv (own_b (p1 &&& (1 : Int32))), iv (1 : Int32), .unset, .unset, .unset, .unset, .unset, .unset, .unset, .unset, .unset, .unset, .unset, .unset, .unset, .unset]) rfl ?_
      exact kt
  have D6 : ∀ t, St p e below T0 m 38 #[iv p1, iv p2, iv p3, iv (own_b (p1 &&& (1 : Int32))), iv (own_b (p1 &&& (2 : Int32))), iv (own_b (p1 &&& (4 : Int32))), .unset, .unset, .unset, .unset, .unset, .unset, .unset, .unset, .unset, .unset, .unset, .unset, .unset] [] t → St p e below T0 m 25 #[iv p1, iv p2, iv p3, iv (own_b (p1 &&& (1 : Int32))), iv (own_b (p1 &&& (2 : Int32))), .unset, .unset, .unset, .unset, .unset, .unset, .unset, .unset, .unset, .unset, .unset, .unset, .unset, .unset] [] t := by
    intro t kt
    by_cases q : (p1 &&& (4 : Int32)) = (0 : Int32)
    · have q' : (own_b (p1 &&& (4 : Int32))) = (0 : Int32) := if_pos q
      rw [q'] at kt
      show St p e below T0 m 25 #[iv p1, iv p2, iv p3, iv (own_b (p1 &&& (1 : Int32))), iv (own_b (p1 &&& (2 : Int32))), .unset, .unset, .unset, .unset, .unset, .unset, .unset, .unset, .unset, .unset, .unset, .unset, .unset, .unset] [] _
      refine XS.iloadN X0.here hx rfl (hb hby at_25) rfl ?_
      show St p e below T0 m 26 #[iv p1, iv p2, iv p3, iv (own_b (p1 &&& (1 : Int32))), iv (own_b (p1 &&& (2 : Int32))), .unset, .unset, .unset, .unset, .unset, .unset, .unset, .unset, .unset, .unset, .unset, .unset, .unset, .unset] [(.int p1)] _
      refine XS.iconst X0.here hx rfl (hb hby at_26) ?_
      show St p e below T0 m 27 #[iv p1, iv p2, iv p3, iv (own_b (p1 &&& (1 : Int32))), iv (own_b (p1 &&& (2 : Int32))), .unset, .unset, .unset, .unset, .unset, .unset, .unset, .unset, .unset, .unset, .unset, .unset, .unset, .unset] [(.int (4 : Int32)), (.int p1)] _
      refine XS.iand X0.here hx rfl (hb hby at_27) rfl ?_
      show St p e below T0 m 28 #[iv p1, iv p2, iv p3, iv (own_b (p1 &&& (1 : Int32))), iv (own_b (p1 &&& (2 : Int32))), .unset, .unset, .unset, .unset, .unset, .unset, .unset, .unset, .unset, .unset, .unset, .unset, .unset, .unset] [(.int (p1 &&& (4 : Int32)))] _
      refine XS.ifYes X0.here hx rfl (pc0 := 28) (pc' := 35) rfl (hb hby at_28) rfl ((if0 _ _).trans (teq q).1) (by decide) (by decide) ?_
      show St p e below T0 m 35 #[iv p1, iv p2, iv p3, iv (own_b (p1 &&& (1 : Int32))), iv (own_b (p1 &&& (2 : Int32))), .unset, .unset, .unset, .unset, .unset, .unset, .unset, .unset, .unset, .unset, .unset, .unset, .unset, .unset] [] _
      refine XS.iconst X0.here hx rfl (hb hby at_35) ?_
      show St p e below T0 m 36 #[iv p1, iv p2, iv p3, iv (own_b (p1 &&& (1 : Int32))), iv (own_b (p1 &&& (2 : Int32))), .unset, .unset, .unset, .unset, .unset, .unset, .unset, .unset, .unset, .unset, .unset, .unset, .unset, .unset] [(.int (0 : Int32))] _
      refine XS.istore X0.here hx rfl (hb hby at_36) rfl (l' := #[iv p1, iv p2, iv p3, iv (own_b (p1 &&& (1 : Int32))), iv (own_b (p1 &&& (2 : Int32))), iv (0 : Int32), .unset, .unset, .unset, .unset, .unset, .unset, .unset, .unset, .unset, .unset, .unset, .unset, .unset]) rfl ?_
      exact kt
    · have q' : (own_b (p1 &&& (4 : Int32))) = (1 : Int32) := if_neg q
      rw [q'] at kt
      show St p e below T0 m 25 #[iv p1, iv p2, iv p3, iv (own_b (p1 &&& (1 : Int32))), iv (own_b (p1 &&& (2 : Int32))), .unset, .unset, .unset, .unset, .unset, .unset, .unset, .unset, .unset, .unset, .unset, .unset, .unset, .unset] [] _
      refine XS.iloadN X0.here hx rfl (hb hby at_25) rfl ?_
      show St p e below T0 m 26 #[iv p1, iv p2, iv p3, iv (own_b (p1 &&& (1 : Int32))), iv (own_b (p1 &&& (2 : Int32))), .unset, .unset, .unset, .unset, .unset, .unset, .unset, .unset, .unset, .unset, .unset, .unset, .unset, .unset] [(.int p1)] _
      refine XS.iconst X0.here hx rfl (hb hby at_26) ?_
      show St p e below T0 m 27 #[iv p1, iv p2, iv p3, iv (own_b (p1 &&& (1 : Int32))), iv (own_b (p1 &&& (2 : Int32))), .unset, .unset, .unset, .unset, .unset, .unset, .unset, .unset, .unset, .unset, .unset, .unset, .unset, .unset] [(.int (4 : Int32)), (.int p1)] _
      refine XS.iand X0.here hx rfl (hb hby at_27) rfl ?_
      show St p e below T0 m 28 #[iv p1, iv p2, iv p3, iv (own_b (p1 &&& (1 : Int32))), iv (own_b (p1 &&& (2 : Int32))), .unset, .unset, .unset, .unset, .unset, .unset, .unset, .unset, .unset, .unset, .unset, .unset, .unset, .unset] [(.int (p1 &&& (4 : Int32)))] _
      refine XS.ifNo X0.here hx rfl (hb hby at_28) rfl ((if0 _ _).trans (feq q).1) ?_
      show St p e below T0 m 31 #[iv p1, iv p2, iv p3, iv (own_b (p1 &&& (1 : Int32))), iv (own_b (p1 &&& (2 : Int32))), .unset, .unset, .unset, .unset, .unset, .unset, .unset, .unset, .unset, .unset, .unset, .unset, .unset, .unset] [] _
      refine XS.iconst X0.here hx rfl (hb hby at_31) ?_
      show St p e below T0 m 32 #[iv p1, iv p2, iv p3, iv (own_b (p1 &&& (1 : Int32))), iv (own_b (p1 &&& (2 : Int32))), .unset, .unset, .unset, .unset, .unset, .unset, .unset, .unset, .unset, .unset, .unset, .unset, .unset, .unset] [(.int (1 : Int32))] _
      refine XS.goto X0.here hx rfl (pc0 := 32) (pc' := 36) rfl (hb hby at_32) (by decide) (by decide) ?_
      show St p e below T0 m 36 #[iv p1, iv p2, iv p3, iv (own_b (p1 &&& (1 : Int32))), iv (own_b (p1 &&& (2 : Int32))), .unset, .unset, .unset, .unset, .unset, .unset, .unset, .unset, .unset, .unset, .unset, .unset, .unset, .unset] [(.int (1 : Int32))] _
      refine XS.istore X0.here hx rfl (hb hby at_36) rfl (l' := #[iv p1, iv p2, iv p3, iv (own_b (p1 &&& (1 : Int32))), iv (own_b (p1 &&& (2 : Int32))), iv (1 : Int32), .unset, .unset, .unset, .unset, .unset, .unset, .unset, .unset, .unset, .unset, .unset, .unset, .unset]) rfl ?_
      exact kt
  have D7 : ∀ t, St p e below T0 m 52 #[iv p1, iv p2, iv p3, iv (own_b (p1 &&& (1 : Int32))), iv (own_b (p1 &&& (2 : Int32))), iv (own_b (p1 &&& (4 : Int32))), iv (own_b (p1 &&& (8 : Int32))), .unset, .unset, .unset, .unset, .unset, .unset, .unset, .unset, .unset, .unset, .unset, .unset] [] t → St p e below T0 m 38 #[iv p1, iv p2, iv p3, iv (own_b (p1 &&& (1 : Int32))), iv (own_b (p1 &&& (2 : Int32))), iv (own_b (p1 &&& (4 : Int32))), .unset, .unset, .unset, .unset, .unset, .unset, .unset, .unset, .unset, .unset, .unset, .unset, .unset] [] t := by
    intro t kt
    by_cases q : (p1 &&& (8 : Int32)) = (0 : Int32)
    · have q' : (own_b (p1 &&& (8 : Int32))) = (0 : Int32) := if_pos q
      rw [q'] at kt
      show St p e below T0 m 38 #[iv p1, iv p2, iv p3, iv (own_b (p1 &&& (1 : Int32))), iv (own_b (p1 &&& (2 : Int32))), iv (own_b (p1 &&& (4 : Int32))), .unset, .unset, .unset, .unset, .unset, .unset, .unset, .unset, .unset, .unset, .unset, .unset, .unset] [] _
      refine XS.iloadN X0.here hx rfl (hb hby at_38) rfl ?_
      show St p e below T0 m 39 #[iv p1, iv p2, iv p3, iv (own_b (p1 &&& (1 : Int32))), iv (own_b (p1 &&& (2 : Int32))), iv (own_b (p1 &&& (4 : Int32))), .unset, .unset, .unset, .unset, .unset, .unset, .unset, .unset, .unset, .unset, .unset, .unset, .unset] [(.int p1)] _
      refine XS.bipush X0.here hx rfl (hb hby at_39) ?_
      show St p e below T0 m 41 #[iv p1, iv p2, iv p3, iv (own_b (p1 &&& (1 : Int32))), iv (own_b (p1 &&& (2 : Int32))), iv (own_b (p1 &&& (4 : Int32))), .unset, .unset, .unset, .unset, .unset, .unset, .unset, .unset, .unset, .unset, .unset, .unset, .unset] [(.int (8 : Int32)), (.int p1)] _
      refine XS.iand X0.here hx rfl (hb hby at_41) rfl ?_
      show St p e below T0 m 42 #[iv p1, iv p2, iv p3, iv (own_b (p1 &&& (1 : Int32))), iv (own_b (p1 &&& (2 : Int32))), iv (own_b (p1 &&& (4 : Int32))), .unset, .unset, .unset, .unset, .unset, .unset, .unset, .unset, .unset, .unset, .unset, .unset, .unset] [(.int (p1 &&& (8 : Int32)))] _
      refine XS.ifYes X0.here hx rfl (pc0 := 42) (pc' := 49) rfl (hb hby at_42) rfl ((if0 _ _).trans (teq q).1) (by decide) (by decide) ?_
      show St p e below T0 m 49 #[iv p1, iv p2, iv p3, iv (own_b (p1 &&& (1 : Int32))), iv (own_b (p1 &&& (2 : Int32))), iv (own_b (p1 &&& (4 : Int32))), .unset, .unset, .unset, .unset, .unset, .unset, .unset, .unset, .unset, .unset, .unset, .unset, .unset] [] _
      refine XS.iconst X0.here hx rfl (hb hby at_49) ?_
      show St p e below T0 m 50 #[iv p1, iv p2, iv p3, iv (own_b (p1 &&& (1 : Int32))), iv (own_b (p1 &&& (2 : Int32))), iv (own_b (p1 &&& (4 : Int32))), .unset, .unset, .unset, .unset, .unset, .unset, .unset, .unset, .unset, .unset, .unset, .unset, .unset] [(.int (0 : Int32))] _
      refine XS.istore X0.here hx rfl (hb hby at_50) rfl (l' := #[iv p1, iv p2, iv p3, iv (own_b (p1 &&& (1 : Int32))), iv (own_b (p1 &&& (2 : Int32))), iv (own_b (p1 &&& (4 : Int32))), iv (0 : Int32), .unset, .unset, .unset, .unset, .unset, .unset, .unset, .unset, .unset, .unset, .unset, .unset]) rfl ?_
      exact kt
    · have q' : (own_b (p1 &&& (8 : Int32))) = (1 : Int32) := if_neg q
      rw [q'] at kt
      show St p e below T0 m 38 #[iv p1, iv p2, iv p3, iv (own_b (p1 &&& (1 : Int32))), iv (own_b (p1 &&& (2 : Int32))), iv (own_b (p1 &&& (4 : Int32))), .unset, .unset, .unset, .unset, .unset, .unset, .unset, .unset, .unset, .unset, .unset, .unset, .unset] [] _
      refine XS.iloadN X0.here hx rfl (hb hby at_38) rfl ?_
      show St p e below T0 m 39 #[iv p1, iv p2, iv p3, iv (own_b (p1 &&& (1 : Int32))), iv (own_b (p1 &&& (2 : Int32))), iv (own_b (p1 &&& (4 : Int32))), .unset, .unset, .unset, .unset, .unset, .unset, .unset, .unset, .unset, .unset, .unset, .unset, .unset] [(.int p1)] _
      refine XS.bipush X0.here hx rfl (hb hby at_39) ?_
      show St p e below T0 m 41 #[iv p1, iv p2, iv p3, iv (own_b (p1 &&& (1 : Int32))), iv (own_b (p1 &&& (2 : Int32))), iv (own_b (p1 &&& (4 : Int32))), .unset, .unset, .unset, .unset, .unset, .unset, .unset, .unset, .unset, .unset, .unset, .unset, .unset] [(.int (8 : Int32)), (.int p1)] _
      refine XS.iand X0.here hx rfl (hb hby at_41) rfl ?_
      show St p e below T0 m 42 #[iv p1, iv p2, iv p3, iv (own_b (p1 &&& (1 : Int32))), iv (own_b (p1 &&& (2 : Int32))), iv (own_b (p1 &&& (4 : Int32))), .unset, .unset, .unset, .unset, .unset, .unset, .unset, .unset, .unset, .unset, .unset, .unset, .unset] [(.int (p1 &&& (8 : Int32)))] _
      refine XS.ifNo X0.here hx rfl (hb hby at_42) rfl ((if0 _ _).trans (feq q).1) ?_
      show St p e below T0 m 45 #[iv p1, iv p2, iv p3, iv (own_b (p1 &&& (1 : Int32))), iv (own_b (p1 &&& (2 : Int32))), iv (own_b (p1 &&& (4 : Int32))), .unset, .unset, .unset, .unset, .unset, .unset, .unset, .unset, .unset, .unset, .unset, .unset, .unset] [] _
      refine XS.iconst X0.here hx rfl (hb hby at_45) ?_
      show St p e below T0 m 46 #[iv p1, iv p2, iv p3, iv (own_b (p1 &&& (1 : Int32))), iv (own_b (p1 &&& (2 : Int32))), iv (own_b (p1 &&& (4 : Int32))), .unset, .unset, .unset, .unset, .unset, .unset, .unset, .unset, .unset, .unset, .unset, .unset, .unset] [(.int (1 : Int32))] _
      refine XS.goto X0.here hx rfl (pc0 := 46) (pc' := 50) rfl (hb hby at_46) (by decide) (by decide) ?_
      show St p e below T0 m 50 #[iv p1, iv p2, iv p3, iv (own_b (p1 &&& (1 : Int32))), iv (own_b (p1 &&& (2 : Int32))), iv (own_b (p1 &&& (4 : Int32))), .unset, .unset, .unset, .unset, .unset, .unset, .unset, .unset, .unset, .unset, .unset, .unset, .unset] [(.int (1 : Int32))] _
      refine XS.istore X0.here hx rfl (hb hby at_50) rfl (l' := #[iv p1, iv p2, iv p3, iv (own_b (p1 &&& (1 : Int32))), iv (own_b (p1 &&& (2 : Int32))), iv (own_b (p1 &&& (4 : Int32))), iv (1 : Int32), .unset, .unset, .unset, .unset, .unset, .unset, .unset, .unset, .unset, .unset, .unset, .unset]) rfl ?_
      exact kt
  have D8 : ∀ t, St p e below T0 m 66 #[iv p1, iv p2, iv p3, iv (own_b (p1 &&& (1 : Int32))), iv (own_b (p1 &&& (2 : Int32))), iv (own_b (p1 &&& (4 : Int32))), iv (own_b (p1 &&& (8 : Int32))), iv (own_b (p1 &&& (16 : Int32))), .unset, .unset, .unset, .unset, .unset, .unset, .unset, .unset, .unset, .unset, .unset] [] t → St p e below T0 m 52 #[iv p1, iv p2, iv p3, iv (own_b (p1 &&& (1 : Int32))), iv (own_b (p1 &&& (2 : Int32))), iv (own_b (p1 &&& (4 : Int32))), iv (own_b (p1 &&& (8 : Int32))), .unset, .unset, .unset, .unset, .unset, .unset, .unset, .unset, .unset, .unset, .unset, .unset] [] t := by
    intro t kt
    by_cases q : (p1 &&& (16 : Int32)) = (0 : Int32)
    · have q' : (own_b (p1 &&& (16 : Int32))) = (0 : Int32) := if_pos q
      rw [q'] at kt
      show St p e below T0 m 52 #[iv p1, iv p2, iv p3, iv (own_b (p1 &&& (1 : Int32))), iv (own_b (p1 &&& (2 : Int32))), iv (own_b (p1 &&& (4 : Int32))), iv (own_b (p1 &&& (8 : Int32))), .unset, .unset, .unset, .unset, .unset, .unset, .unset, .unset, .unset, .unset, .unset, .unset] [] _
      refine XS.iloadN X0.here hx rfl (hb hby at_52) rfl ?_
      show St p e below T0 m 53 #[iv p1, iv p2, iv p3, iv (own_b (p1 &&& (1 : Int32))), iv (own_b (p1 &&& (2 : Int32))), iv (own_b (p1 &&& (4 : Int32))), iv (own_b (p1 &&& (8 : Int32))), .unset, .unset, .unset, .unset, .unset, .unset, .unset, .unset, .unset, .unset, .unset, .unset] [(.int p1)] _
      refine XS.bipush X0.here hx rfl (hb hby at_53) ?_
      show St p e below T0 m 55 #[iv p1, iv p2, iv p3, iv (own_b (p1 &&& (1 : Int32))), iv (own_b (p1 &&& (2 : Int32))), iv (own_b (p1 &&& (4 : Int32))), iv (own_b (p1 &&& (8 : Int32))), .unset, .unset, .unset, .unset, .unset, .unset, .unset, .unset, .unset, .unset, .unset, .unset] [(.int (16 : Int32)), (.int p1)] _
      refine XS.iand X0.here hx rfl (hb hby at_55) rfl ?_
      show St p e below T0 m 56 #[iv p1, iv p2, iv p3, iv (own_b (p1 &&& (1 : Int32))), iv (own_b (p1 &&& (2 : Int32))), iv (own_b (p1 &&& (4 : Int32))), iv (own_b (p1 &&& (8 : Int32))), .unset, .unset, .unset, .unset, .unset, .unset, .unset, .unset, .unset, .unset, .unset, .unset] [(.int (p1 &&& (16 : Int32)))] _
      refine XS.ifYes X0.here hx rfl (pc0 := 56) (pc' := 63) rfl (hb hby at_56) rfl ((if0 _ _).trans (teq q).1) (by decide) (by decide) ?_
      show St p e below T0 m 63 #[iv p1, iv p2, iv p3, iv (own_b (p1 &&& (1 : Int32))), iv (own_b (p1 &&& (2 : Int32))), iv (own_b (p1 &&& (4 : Int32))), iv (own_b (p1 &&& (8 : Int32))), .unset, .unset, .unset, .unset, .unset, .unset, .unset, .unset, .unset, .unset, .unset, .unset] [] _
      refine XS.iconst X0.here hx rfl (hb hby at_63) ?_
      show St p e below T0 m 64 #[iv p1, iv p2, iv p3, iv (own_b (p1 &&& (1 : Int32))), iv (own_b (p1 &&& (2 : Int32))), iv (own_b (p1 &&& (4 : Int32))), iv (own_b (p1 &&& (8 : Int32))), .unset, .unset, .unset, .unset, .unset, .unset, .unset, .unset, .unset, .unset, .unset, .unset] [(.int (0 : Int32))] _
      refine XS.istore X0.here hx rfl (hb hby at_64) rfl (l' := #[iv p1, iv p2, iv p3, iv (own_b (p1 &&& (1 : Int32))), iv (own_b (p1 &&& (2 : Int32))), iv (own_b (p1 &&& (4 : Int32))), iv (own_b (p1 &&& (8 : Int32))), iv (0 : Int32), .unset, .unset, .unset, .unset, .unset, .unset, .unset, .unset, .unset, .unset, .unset]) rfl ?_
      exact kt
    · have q' : (own_b (p1 &&& (16 : Int32))) = (1 : Int32) := if_neg q
      rw [q'] at kt
      show St p e below T0 m 52 #[iv p1, iv p2, iv p3, iv (own_b (p1 &&& (1 : Int32))), iv (own_b (p1 &&& (2 : Int32))), iv (own_b (p1 &&& (4 : Int32))), iv (own_b (p1 &&& (8 : Int32))), .unset, .unset, .unset, .unset, .unset, .unset, .unset, .unset, .unset, .unset, .unset, .unset] [] _
      refine XS.iloadN X0.here hx rfl (hb hby at_52) rfl ?_
      show St p e below T0 m 53 #[iv p1, iv p2, iv p3, iv (own_b (p1 &&& (1 : Int32))), iv (own_b (p1 &&& (2 : Int32))), iv (own_b (p1 &&& (4 : Int32))), iv (own_b (p1 &&& (8 : Int32))), .unset, .unset, .unset, .unset, .unset, .unset, .unset, .unset, .unset, .unset, .unset, .unset] [(.int p1)] _
      refine XS.bipush X0.here hx rfl (hb hby at_53) ?_
      show St p e below T0 m 55 #[iv p1, iv p2, iv p3, iv (own_b (p1 &&& (1 : Int32))), iv (own_b (p1 &&& (2 : Int32))), iv (own_b (p1 &&& (4 : Int32))), iv (own_b (p1 &&& (8 : Int32))), .unset, .unset, .unset, .unset, .unset, .unset, .unset, .unset, .unset, .unset, .unset, .unset] [(.int (16 : Int32)), (.int p1)] _
      refine XS.iand X0.here hx rfl (hb hby at_55) rfl ?_
      show St p e below T0 m 56 #[iv p1, iv p2, iv p3, iv (own_b (p1 &&& (1 : Int32))), iv (own_b (p1 &&& (2 : Int32))), iv (own_b (p1 &&& (4 : Int32))), iv (own_b (p1 &&& (8 : Int32))), .unset, .unset, .unset, .unset, .unset, .unset, .unset, .unset, .unset, .unset, .unset, .unset] [(.int (p1 &&& (16 : Int32)))] _
      refine XS.ifNo X0.here hx rfl (hb hby at_56) rfl ((if0 _ _).trans (feq q).1) ?_
      show St p e below T0 m 59 #[iv p1, iv p2, iv p3, iv (own_b (p1 &&& (1 : Int32))), iv (own_b (p1 &&& (2 : Int32))), iv (own_b (p1 &&& (4 : Int32))), iv (own_b (p1 &&& (8 : Int32))), .unset, .unset, .unset, .unset, .unset, .unset, .unset, .unset, .unset, .unset, .unset, .unset] [] _
      refine XS.iconst X0.here hx rfl (hb hby at_59) ?_
      show St p e below T0 m 60 #[iv p1, iv p2, iv p3, iv (own_b (p1 &&& (1 : Int32))), iv (own_b (p1 &&& (2 : Int32))), iv (own_b (p1 &&& (4 : Int32))), iv (own_b (p1 &&& (8 : Int32))), .unset, .unset, .unset, .unset, .unset, .unset, .unset, .unset, .unset, .unset, .unset, .unset] [(.int (1 : Int32))] _
      refine XS.goto X0.here hx rfl (pc0 := 60) (pc' := 64) rfl (hb hby at_60) (by decide) (by decide) ?_
      show St p e below T0 m 64 #[iv p1, iv p2, iv p3, iv (own_b (p1 &&& (1 : Int32))), iv (own_b (p1 &&& (2 : Int32))), iv (own_b (p1 &&& (4 : Int32))), iv (own_b (p1 &&& (8 : Int32))), .unset, .unset, .unset, .unset, .unset, .unset, .unset, .unset, .unset, .unset, .unset, .unset] [(.int (1 : Int32))] _
      refine XS.istore X0.here hx rfl (hb hby at_64) rfl (l' := #[iv p1, iv p2, iv p3, iv (own_b (p1 &&& (1 : Int32))), iv (own_b (p1 &&& (2 : Int32))), iv (own_b (p1 &&& (4 : Int32))), iv (own_b (p1 &&& (8 : Int32))), iv (1 : Int32), .unset, .unset, .unset, .unset, .unset, .unset, .unset, .unset, .unset, .unset, .unset]) rfl ?_
      exact kt
  have D9 : ∀ t, St p e below T0 m 80 #[iv p1, iv p2, iv p3, iv (own_b (p1 &&& (1 : Int32))), iv (own_b (p1 &&& (2 : Int32))), iv (own_b (p1 &&& (4 : Int32))), iv (own_b (p1 &&& (8 : Int32))), iv (own_b (p1 &&& (16 : Int32))), iv (own_b (p1 &&& (32 : Int32))), .unset, .unset, .unset, .unset, .unset, .unset, .unset, .unset, .unset, .unset] [] t → St p e below T0 m 66 #[iv p1, iv p2, iv p3, iv (own_b (p1 &&& (1 : Int32))), iv (own_b (p1 &&& (2 : Int32))), iv (own_b (p1 &&& (4 : Int32))), iv (own_b (p1 &&& (8 : Int32))), iv (own_b (p1 &&& (16 : Int32))), .unset, .unset, .unset, .unset, .unset, .unset, .unset, .unset, .unset, .unset, .unset] [] t := by
    intro t kt
    by_cases q : (p1 &&& (32 : Int32)) = (0 : Int32)
    · have q' : (own_b (p1 &&& (32 : Int32))) = (0 : Int32) := if_pos q
      rw [q'] at kt
      show St p e below T0 m 66 #[iv p1, iv p2, iv p3, iv (own_b (p1 &&& (1 : Int32))), iv (own_b (p1 &&& (2 : Int32))), iv (own_b (p1 &&& (4 : Int32))), iv (own_b (p1 &&& (8 : Int32))), iv (own_b (p1 &&& (16 : Int32))), .unset, .unset, .unset, .unset, .unset, .unset, .unset, .unset, .unset, .unset, .unset] [] _
      refine XS.iloadN X0.here hx rfl (hb hby at_66) rfl ?_
      show St p e below T0 m 67 #[iv p1, iv p2, iv p3, iv (own_b (p1 &&& (1 : Int32))), iv (own_b (p1 &&& (2 : Int32))), iv (own_b (p1 &&& (4 : Int32))), iv (own_b (p1 &&& (8 : Int32))), iv (own_b (p1 &&& (16 : Int32))), .unset, .unset, .unset, .unset, .unset, .unset, .unset, .unset, .unset, .unset, .unset] [(.int p1)] _
      refine XS.bipush X0.here hx rfl (hb hby at_67) ?_
      show St p e below T0 m 69 #[iv p1, iv p2, iv p3, iv (own_b (p1 &&& (1 : Int32))), iv (own_b (p1 &&& (2 : Int32))), iv (own_b (p1 &&& (4 : Int32))), iv (own_b (p1 &&& (8 : Int32))), iv (own_b (p1 &&& (16 : Int32))), .unset, .unset, .unset, .unset, .unset, .unset, .unset, .unset, .unset, .unset, .unset] [(.int (32 : Int32)), (.int p1)] _
      refine XS.iand X0.here hx rfl (hb hby at_69) rfl ?_
      show St p e below T0 m 70 #[iv p1, iv p2, iv p3, iv (own_b (p1 &&& (1 : Int32))), iv (own_b (p1 &&& (2 : Int32))), iv (own_b (p1 &&& (4 : Int32))), iv (own_b (p1 &&& (8 : Int32))), iv (own_b (p1 &&& (16 : Int32))), .unset, .unset, .unset, .unset, .unset, .unset, .unset, .unset, .unset, .unset, .unset] [(.int (p1 &&& (32 : Int32)))] _
      refine XS.ifYes X0.here hx rfl (pc0 := 70) (pc' := 77) rfl (hb hby at_70) rfl ((if0 _ _).trans (teq q).1) (by decide) (by decide) ?_
      show St p e below T0 m 77 #[iv p1, iv p2, iv p3, iv (own_b (p1 &&& (1 : Int32))), iv (own_b (p1 &&& (2 : Int32))), iv (own_b (p1 &&& (4 : Int32))), iv (own_b (p1 &&& (8 : Int32))), iv (own_b (p1 &&& (16 : Int32))), .unset, .unset, .unset, .unset, .unset, .unset, .unset, .unset, .unset, .unset, .unset] [] _
      refine XS.iconst X0.here hx rfl (hb hby at_77) ?_
      show St p e below T0 m 78 #[iv p1, iv p2, iv p3, iv (own_b (p1 &&& (1 : Int32))), iv (own_b (p1 &&& (2 : Int32))), iv (own_b (p1 &&& (4 : Int32))), iv (own_b (p1 &&& (8 : Int32))), iv (own_b (p1 &&& (16 : Int32))), .unset, .unset, .unset, .unset, .unset, .unset, .unset, .unset, .unset, .unset, .unset] [(.int (0 : Int32))] _
      refine XS.istore X0.here hx rfl (hb hby at_78) rfl (l' := #[iv p1, iv p2, iv p3, iv (own_b (p1 &&& (1 : Int32))), iv (own_b (p1 &&& (2 : Int32))), iv (own_b (p1 &&& (4 : Int32))), iv (own_b (p1 &&& (8 : Int32))), iv (own_b (p1 &&& (16 : Int32))), iv (0 : Int32), .unset, .unset, .unset, .unset, .unset, .unset, .unset, .unset, .unset, .unset]) rfl ?_
      exact kt
    · have q' : (own_b (p1 &&& (32 : Int32))) = (1 : Int32) := if_neg q
      rw [q'] at kt
      show St p e below T0 m 66 #[iv p1, iv p2, iv p3, iv (own_b (p1 &&& (1 : Int32))), iv (own_b (p1 &&& (2 : Int32))), iv (own_b (p1 &&& (4 : Int32))), iv (own_b (p1 &&& (8 : Int32))), iv (own_b (p1 &&& (16 : Int32))), .unset, .unset, .unset, .unset, .unset, .unset, .unset, .unset, .unset, .unset, .unset] [] _
      refine XS.iloadN X0.here hx rfl (hb hby at_66) rfl ?_
      show St p e below T0 m 67 #[iv p1, iv p2, iv p3, iv (own_b (p1 &&& (1 : Int32))), iv (own_b (p1 &&& (2 : Int32))), iv (own_b (p1 &&& (4 : Int32))), iv (own_b (p1 &&& (8 : Int32))), iv (own_b (p1 &&& (16 : Int32))), .unset, .unset, .unset, .unset, .unset, .unset, .unset, .unset, .unset, .unset, .unset] [(.int p1)] _
      refine XS.bipush X0.here hx rfl (hb hby at_67) ?_
      show St p e below T0 m 69 #[iv p1, iv p2, iv p3, iv (own_b (p1 &&& (1 : Int32))), iv (own_b (p1 &&& (2 : Int32))), iv (own_b (p1 &&& (4 : Int32))), iv (own_b (p1 &&& (8 : Int32))), iv (own_b (p1 &&& (16 : Int32))), .unset, .unset, .unset, .unset, .unset, .unset, .unset, .unset, .unset, .unset, .unset] [(.int (32 : Int32)), (.int p1)] _
      refine XS.iand X0.here hx rfl (hb hby at_69) rfl ?_
      show St p e below T0 m 70 #[iv p1, iv p2, iv p3, iv (own_b (p1 &&& (1 : Int32))), iv (own_b (p1 &&& (2 : Int32))), iv (own_b (p1 &&& (4 : Int32))), iv (own_b (p1 &&& (8 : Int32))), iv (own_b (p1 &&& (16 : Int32))), .unset, .unset, .unset, .unset, .unset, .unset, .unset, .unset, .unset, .unset, .unset] [(.int (p1 &&& (32 : Int32)))] _
      refine XS.ifNo X0.here hx rfl (hb hby at_70) rfl ((if0 _ _).trans (feq q).1) ?_
      show St p e below T0 m 73 #[iv p1, iv p2, iv p3, iv (own_b (p1 &&& (1 : Int32))), iv (own_b (p1 &&& (2 : Int32))), iv (own_b (p1 &&& (4 : Int32))), iv (own_b (p1 &&& (8 : Int32))), iv (own_b (p1 &&& (16 : Int32))), .unset, .unset, .unset, .unset, .unset, .unset, .unset, .unset, .unset, .unset, .unset] [] _
      refine XS.iconst X0.here hx rfl (hb hby at_73) ?_
      show St p e below T0 m 74 #[iv p1, iv p2, iv p3, iv (own_b (p1 &&& (1 : Int32))), iv (own_b (p1 &&& (2 : Int32))), iv (own_b (p1 &&& (4 : Int32))), iv (own_b (p1 &&& (8 : Int32))), iv (own_b (p1 &&& (16 : Int32))), .unset, .unset, .unset, .unset, .unset, .unset, .unset, .unset, .unset, .unset, .unset] [(.int (1 : Int32))] _
      refine XS.goto X0.here hx rfl (pc0 := 74) (pc' := 78) rfl (hb hby at_74) (by decide) (by decide) ?_
      show St p e below T0 m 78 #[iv p1, iv p2, iv p3, iv (own_b (p1 &&& (1 : Int32))), iv (own_b (p1 &&& (2 : Int32))), iv (own_b (p1 &&& (4 : Int32))), iv (own_b (p1 &&& (8 : Int32))), iv (own_b (p1 &&& (16 : Int32))), .unset, .unset, .unset, .unset, .unset, .unset, .unset, .unset, .unset, .unset, .unset] [(.int (1 : Int32))] _
      refine XS.istore X0.here hx rfl (hb hby at_78) rfl (l' := #[iv p1, iv p2, iv p3, iv (own_b (p1 &&& (1 : Int32))), iv (own_b (p1 &&& (2 : Int32))), iv (own_b (p1 &&& (4 : Int32))), iv (own_b (p1 &&& (8 : Int32))), iv (own_b (p1 &&& (16 : Int32))), iv (1 : Int32), .unset, .unset, .unset, .unset, .unset, .unset, .unset, .unset, .unset, .unset]) rfl ?_
      exact kt
  have D10 : ∀ t, St p e below T0 m 94 #[iv p1, iv p2, iv p3, iv (own_b (p1 &&& (1 : Int32))), iv (own_b (p1 &&& (2 : Int32))), iv (own_b (p1 &&& (4 : Int32))), iv (own_b (p1 &&& (8 : Int32))), iv (own_b (p1 &&& (16 : Int32))), iv (own_b (p1 &&& (32 : Int32))), iv (own_b (p1 &&& (64 : Int32))), .unset, .unset, .unset, .unset, .unset, .unset, .unset, .unset, .unset] [] t → St p e below T0 m 80 #[iv p1, iv p2, iv p3, iv (own_b (p1 &&& (1 : Int32))), iv (own_b (p1 &&& (2 : Int32))), iv (own_b (p1 &&& (4 : Int32))), iv (own_b (p1 &&& (8 : Int32))), iv (own_b (p1 &&& (16 : Int32))), iv (own_b (p1 &&& (32 : Int32))), .unset, .unset, .unset, .unset, .unset, .unset, .unset, .unset, .unset, .unset] [] t := by
    intro t kt
    by_cases q : (p1 &&& (64 : Int32)) = (0 : Int32)
    · have q' : (own_b (p1 &&& (64 : Int32))) = (0 : Int32) := if_pos q
      rw [q'] at kt
      show St p e below T0 m 80 #[iv p1, iv p2, iv p3, iv (own_b (p1 &&& (1 : Int32))), iv (own_b (p1 &&& (2 : Int32))), iv (own_b (p1 &&& (4 : Int32))), iv (own_b (p1 &&& (8 : Int32))), iv (own_b (p1 &&& (16 : Int32))), iv (own_b (p1 &&& (32 : Int32))), .unset, .unset, .unset, .unset, .unset, .unset, .unset, .unset, .unset, .unset] [] _
      refine XS.iloadN X0.here hx rfl (hb hby at_80) rfl ?_
      show St p e below T0 m 81 #[iv p1, iv p2, iv p3, iv (own_b (p1 &&& (1 : Int32))), iv (own_b (p1 &&& (2 : Int32))), iv (own_b (p1 &&& (4 : Int32))), iv (own_b (p1 &&& (8 : Int32))), iv (own_b (p1 &&& (16 : Int32))), iv (own_b (p1 &&& (32 : Int32))), .unset, .unset, .unset, .unset, .unset, .unset, .unset, .unset, .unset, .unset] [(.int p1)] _
      refine XS.bipush X0.here hx rfl (hb hby at_81) ?_
      show St p e below T0 m 83 #[iv p1, iv p2, iv p3, iv (own_b (p1 &&& (1 : Int32))), iv (own_b (p1 &&& (2 : Int32))), iv (own_b (p1 &&& (4 : Int32))), iv (own_b (p1 &&& (8 : Int32))), iv (own_b (p1 &&& (16 : Int32))), iv (own_b (p1 &&& (32 : Int32))), .unset, .unset, .unset, .unset, .unset, .unset, .unset, .unset, .unset, .unset] [(.int (64 : Int32)), (.int p1)] _
      refine XS.iand X0.here hx rfl (hb hby at_83) rfl ?_
      show St p e below T0 m 84 #[iv p1, iv p2, iv p3, iv (own_b (p1 &&& (1 : Int32))), iv (own_b (p1 &&& (2 : Int32))), iv (own_b (p1 &&& (4 : Int32))), iv (own_b (p1 &&& (8 : Int32))), iv (own_b (p1 &&& (16 : Int32))), iv (own_b (p1 &&& (32 : Int32))), .unset, .unset, .unset, .unset, .unset, .unset, .unset, .unset, .unset, .unset] [(.int (p1 &&& (64 : Int32)))] _
      refine XS.ifYes X0.here hx rfl (pc0 := 84) (pc' := 91) rfl (hb hby at_84) rfl ((if0 _ _).trans (teq q).1) (by decide) (by decide) ?_
      show St p e below T0 m 91 #[iv p1, iv p2, iv p3, iv (own_b (p1 &&& (1 : Int32))), iv (own_b (p1 &&& (2 : Int32))), iv (own_b (p1 &&& (4 : Int32))), iv (own_b (p1 &&& (8 : Int32))), iv (own_b (p1 &&& (16 : Int32))), iv (own_b (p1 &&& (32 : Int32))), .unset, .unset, .unset, .unset, .unset, .unset, .unset, .unset, .unset, .unset] [] _
      refine XS.iconst X0.here hx rfl (hb hby at_91) ?_
      show St p e below T0 m 92 #[iv p1, iv p2, iv p3, iv (own_b (p1 &&& (1 : Int32))), iv (own_b (p1 &&& (2 : Int32))), iv (own_b (p1 &&& (4 : Int32))), iv (own_b (p1 &&& (8 : Int32))), iv (own_b (p1 &&& (16 : Int32))), iv (own_b (p1 &&& (32 : Int32))), .unset, .unset, .unset, .unset, .unset, .unset, .unset, .unset, .unset, .unset] [(.int (0 : Int32))] _
      refine XS.istore X0.here hx rfl (hb hby at_92) rfl (l' := #[iv p1, iv p2, iv p3, iv (own_b (p1 &&& (1 : Int32))), iv (own_b (p1 &&& (2 : Int32))), iv (own_b (p1 &&& (4 : Int32))), iv (own_b (p1 &&& (8 : Int32))), iv (own_b (p1 &&& (16 : Int32))), iv (own_b (p1 &&& (32 : Int32))), iv (0 : Int32), .unset, .unset, .unset, .unset, .unset, .unset, .unset, .unset, .unset]) rfl ?_
      exact kt
    · have q' : (own_b (p1 &&& (64 : Int32))) = (1 : Int32) := if_neg q
      rw [q'] at kt
      show St p e below T0 m 80 #[iv p1, iv p2, iv p3, iv (own_b (p1 &&& (1 : Int32))), iv (own_b (p1 &&& (2 : Int32))), iv (own_b (p1 &&& (4 : Int32))), iv (own_b (p1 &&& (8 : Int32))), iv (own_b (p1 &&& (16 : Int32))), iv (own_b (p1 &&& (32 : Int32))), .unset, .unset, .unset, .unset, .unset, .unset, .unset, .unset, .unset, .unset] [] _
      refine XS.iloadN X0.here hx rfl (hb hby at_80) rfl ?_
      show St p e below T0 m 81 #[iv p1, iv p2, iv p3, iv (own_b (p1 &&& (1 : Int32))), iv (own_b (p1 &&& (2 : Int32))), iv (own_b (p1 &&& (4 : Int32))), iv (own_b (p1 &&& (8 : Int32))), iv (own_b (p1 &&& (16 : Int32))), iv (own_b (p1 &&& (32 : Int32))), .unset, .unset, .unset, .unset, .unset, .unset, .unset, .unset, .unset, .unset] [(.int p1)] _
      refine XS.bipush X0.here hx rfl (hb hby at_81) ?_
      show St p e below T0 m 83 #[iv p1, iv p2, iv p3, iv (own_b (p1 &&& (1 : Int32))), iv (own_b (p1 &&& (2 : Int32))), iv (own_b (p1 &&& (4 : Int32))), iv (own_b (p1 &&& (8 : Int32))), iv (own_b (p1 &&& (16 : Int32))), iv (own_b (p1 &&& (32 : Int32))), .unset, .unset, .unset, .unset, .unset, .unset, .unset, .unset, .unset, .unset] [(.int (64 : Int32)), (.int p1)] _
      refine XS.iand X0.here hx rfl (hb hby at_83) rfl ?_
      show St p e below T0 m 84 #[iv p1, iv p2, iv p3, iv (own_b (p1 &&& (1 : Int32))), iv (own_b (p1 &&& (2 : Int32))), iv (own_b (p1 &&& (4 : Int32))), iv (own_b (p1 &&& (8 : Int32))), iv (own_b (p1 &&& (16 : Int32))), iv (own_b (p1 &&& (32 : Int32))), .unset, .unset, .unset, .unset, .unset, .unset, .unset, .unset, .unset, .unset] [(.int (p1 &&& (64 : Int32)))] _
      refine XS.ifNo X0.here hx rfl (hb hby at_84) rfl ((if0 _ _).trans (feq q).1) ?_
      show St p e below T0 m 87 #[iv p1, iv p2, iv p3, iv (own_b (p1 &&& (1 : Int32))), iv (own_b (p1 &&& (2 : Int32))), iv (own_b (p1 &&& (4 : Int32))), iv (own_b (p1 &&& (8 : Int32))), iv (own_b (p1 &&& (16 : Int32))), iv (own_b (p1 &&& (32 : Int32))), .unset, .unset, .unset, .unset, .unset, .unset, .unset, .unset, .unset, .unset] [] _
      refine XS.iconst X0.here hx rfl (hb hby at_87) ?_
      show St p e below T0 m 88 #[iv p1, iv p2, iv p3, iv (own_b (p1 &&& (1 : Int32))), iv (own_b (p1 &&& (2 : Int32))), iv (own_b (p1 &&& (4 : Int32))), iv (own_b (p1 &&& (8 : Int32))), iv (own_b (p1 &&& (16 : Int32))), iv (own_b (p1 &&& (32 : Int32))), .unset, .unset, .unset, .unset, .unset, .unset, .unset, .unset, .unset, .unset] [(.int (1 : Int32))] _
      refine XS.goto X0.here hx rfl (pc0 := 88) (pc' := 92) rfl (hb hby at_88) (by decide) (by decide) ?_
      show St p e below T0 m 92 #[iv p1, iv p2, iv p3, iv (own_b (p1 &&& (1 : Int32))), iv (own_b (p1 &&& (2 : Int32))), iv (own_b (p1 &&& (4 : Int32))), iv (own_b (p1 &&& (8 : Int32))), iv (own_b (p1 &&& (16 : Int32))), iv (own_b (p1 &&& (32 : Int32))), .unset, .unset, .unset, .unset, .unset, .unset, .unset, .unset, .unset, .unset] [(.int (1 : Int32))] _
      refine XS.istore X0.here hx rfl (hb hby at_92) rfl (l' := #[iv p1, iv p2, iv p3, iv (own_b (p1 &&& (1 : Int32))), iv (own_b (p1 &&& (2 : Int32))), iv (own_b (p1 &&& (4 : Int32))), iv (own_b (p1 &&& (8 : Int32))), iv (own_b (p1 &&& (16 : Int32))), iv (own_b (p1 &&& (32 : Int32))), iv (1 : Int32), .unset, .unset, .unset, .unset, .unset, .unset, .unset, .unset, .unset]) rfl ?_
      exact kt
  refine ⟨T0, _, X0.more (by omega) (by omega), e0, N0, fun target kt => ?_⟩
  show St p e below T0 m 0 #[iv p1, iv p2, iv p3, .unset, .unset, .unset, .unset, .unset, .unset, .unset, .unset, .unset, .unset, .unset, .unset, .unset, .unset, .unset, .unset] [] _
  refine D4 _ ?_
  show St p e below T0 m 12 #[iv p1, iv p2, iv p3, iv (own_b (p1 &&& (1 : Int32))), .unset, .unset, .unset, .unset, .unset, .unset, .unset, .unset, .unset, .unset, .unset, .unset, .unset, .unset, .unset] [] _
  refine D5 _ ?_
  show St p e below T0 m 25 #[iv p1, iv p2, iv p3, iv (own_b (p1 &&& (1 : Int32))), iv (own_b (p1 &&& (2 : Int32))), .unset, .unset, .unset, .unset, .unset, .unset, .unset, .unset, .unset, .unset, .unset, .unset, .unset, .unset] [] _
  refine D6 _ ?_
  show St p e below T0 m 38 #[iv p1, iv p2, iv p3, iv (own_b (p1 &&& (1 : Int32))), iv (own_b (p1 &&& (2 : Int32))), iv (own_b (p1 &&& (4 : Int32))), .unset, .unset, .unset, .unset, .unset, .unset, .unset, .unset, .unset, .unset, .unset, .unset, .unset] [] _
  refine D7 _ ?_
  show St p e below T0 m 52 #[iv p1, iv p2, iv p3, iv (own_b (p1 &&& (1 : Int32))), iv (own_b (p1 &&& (2 : Int32))), iv (own_b (p1 &&& (4 : Int32))), iv (own_b (p1 &&& (8 : Int32))), .unset, .unset, .unset, .unset, .unset, .unset, .unset, .unset, .unset, .unset, .unset, .unset] [] _
  refine D8 _ ?_
  show St p e below T0 m 66 #[iv p1, iv p2, iv p3, iv (own_b (p1 &&& (1 : Int32))), iv (own_b (p1 &&& (2 : Int32))), iv (own_b (p1 &&& (4 : Int32))), iv (own_b (p1 &&& (8 : Int32))), iv (own_b (p1 &&& (16 : Int32))), .unset, .unset, .unset, .unset, .unset, .unset, .unset, .unset, .unset, .unset, .unset] [] _
  refine D9 _ ?_
  show St p e below T0 m 80 #[iv p1, iv p2, iv p3, iv (own_b (p1 &&& (1 : Int32))), iv (own_b (p1 &&& (2 : Int32))), iv (own_b (p1 &&& (4 : Int32))), iv (own_b (p1 &&& (8 : Int32))), iv (own_b (p1 &&& (16 : Int32))), iv (own_b (p1 &&& (32 : Int32))), .unset, .unset, .unset, .unset, .unset, .unset, .unset, .unset, .unset, .unset] [] _
  refine D10 _ ?_
  exact kt
theorem d1_0 : decode jdk_42_method_139_code 0 = .ok (.getstatic 38, 3) := by decide +kernel
theorem d1_3 : decode jdk_42_method_139_code 3 = .ok (.ifCond .eq 23, 3) := by decide +kernel
theorem d1_6 : decode jdk_42_method_139_code 6 = .ok (.iload_n 0, 1) := by decide +kernel
theorem d1_7 : decode jdk_42_method_139_code 7 = .ok (.invokestatic 1015, 3) := by decide +kernel
theorem d2_0 : decode jdk_43_method_3_code 0 = .ok (.iload_n 0, 1) := by decide +kernel
theorem d2_1 : decode jdk_43_method_3_code 1 = .ok (.sipush 255, 3) := by decide +kernel
theorem d2_4 : decode jdk_43_method_3_code 4 = .ok (.if_icmp .gt 7, 3) := by decide +kernel
theorem d2_7 : decode jdk_43_method_3_code 7 = .ok (.iconst 1, 1) := by decide +kernel
theorem d2_8 : decode jdk_43_method_3_code 8 = .ok (.goto 4, 3) := by decide +kernel
theorem d2_12 : decode jdk_43_method_3_code 12 = .ok (.ireturn, 1) := by decide +kernel
abbrev y2 : MethodName := ⟨"java/lang/StringLatin1", "canEncode", "(C)Z"⟩
theorem pn_java_lang_StringLatin1 : plainName "java/lang/StringLatin1" = true := by first | (simp [plainName, overriddenIn]; done) | decide +kernel
def r2_1Q (Z : State) (p1 : Int32) (h0 : Heap) (n0 : Nat) (v : Option Value) (h : Heap) (L : List Loc) : Prop := v = some (.int (1 : Int32)) ∧ Fr n0 L ∧ h = h0
theorem r2_1e (m : MethodId) (p1 : Int32) : entryFrame m #[(.int p1)] 1 = mkF m 0 #[iv p1] [] := by first | (simp [entryFrame, mkF, argsToLocals, Value.category]; done) | rfl
set_option maxRecDepth 65536 in
set_option maxHeartbeats 40000000 in
theorem r2_1 (l : Launch) (Z : State) (a0 : Array Value) (hw : HW a0 Z) (ws : List Jvm.Cond) (p1 : Int32) (h0 : Heap) (n0 : Nat) (O0 : Old Z n0 h0) (hc2 : ¬ ((255 : Int32) < p1)) :
    MF l y2 jdk_43_method_3_code 1 (some .boolean) ws ({ frames := 0, cells := 0, slots := 0, locals := 0 } : Room) Z #[(.int p1)] h0 (r2_1Q Z p1 h0 n0) := by
  refine MetFree.of_bodySF (plainFor_of_name pn_java_lang_StringLatin1) hisR ?_
  intro p e s m args below meth c s₁ Bd hml0 hP hK
  obtain ⟨rfl, hZ, hh⟩ := hP
  have hx := Bd.exec
  have hby := Bd.bytes
  have hml : c.maxLocals = 1 := hml0
  have hown : s.vm.findClass "java/lang/StringLatin1" = some m.cls := findClass_of_methodNamed Bd.named
  have hnm := (name_of_methodNamed Bd.named Bd.method).1
  have X0 : Stand p l e ({ frames := 0, cells := 0, slots := 0, locals := 0 } : Room) s m #[(.int p1)] below meth c s₁ [] 0 0 := Stand.of_body Bd
  have e0 : s₁.heap = h0 := by rw [← hh, Bd.state]; rfl
  have N0 := Fr.nil n0
  have pre0 : ∀ t, Steps p.tables e below (s₁.setTop (mkF m 0 #[iv p1] [])) t → Steps p.tables e below (s₁.setTop (entryFrame m #[(.int p1)] 1)) t := fun t k => castTop (r2_1e m p1) k
  obtain ⟨fs, hr, hrun, hended, hW, hsame⟩ := X0.leave (v := some (.int (1 : Int32))) (fun h => by rw [Bd.returns] at h; cases h)
  refine ⟨_, _, pre0 _ ?_, hrun, hended, _, _, rfl, ?_, ⟨_, rfl⟩, hW, hsame.mono (by decide) (by decide)⟩
  · show St p e below s₁ m 0 #[iv p1] [] _
    refine XS.iloadN X0.here hx rfl (hb hby d2_0) rfl ?_
    show St p e below s₁ m 1 #[iv p1] [(.int p1)] _
    refine XS.sipush X0.here hx rfl (hb hby d2_1) ?_
    show St p e below s₁ m 4 #[iv p1] [(.int (255 : Int32)), (.int p1)] _
    refine XS.icmpNo X0.here hx rfl (hb hby d2_4) rfl (flt hc2).2.2.1 ?_
    show St p e below s₁ m 7 #[iv p1] [] _
    refine XS.iconst X0.here hx rfl (hb hby d2_7) ?_
    show St p e below s₁ m 8 #[iv p1] [(.int (1 : Int32))] _
    refine XS.goto X0.here hx rfl (pc0 := 8) (pc' := 12) rfl (hb hby d2_8) (by decide) (by decide) ?_
    show St p e below s₁ m 12 #[iv p1] [(.int (1 : Int32))] _
    exact retN X0 hx (t := .boolean) Bd.returns (by simp) (hb hby d2_12) hr
  · show r2_1Q Z p1 h0 n0 _ s₁.heap _
    rw [e0]
    exact ⟨rfl, N0, rfl⟩
theorem pd__C_Z : parseMethodDescriptor "(C)Z" = some ⟨[.char], some .boolean⟩ := by decide +kernel
theorem d1_10 : decode jdk_42_method_139_code 10 = .ok (.ifCond .eq 16, 3) := by decide +kernel
theorem d1_13 : decode jdk_42_method_139_code 13 = .ok (.new 10, 3) := by decide +kernel
theorem d1_16 : decode jdk_42_method_139_code 16 = .ok (.dup, 1) := by decide +kernel
theorem d1_17 : decode jdk_42_method_139_code 17 = .ok (.iload_n 0, 1) := by decide +kernel
theorem d1_18 : decode jdk_42_method_139_code 18 = .ok (.invokestatic 1018, 3) := by decide +kernel
theorem d3_0 : decode jdk_43_method_46_code 0 = .ok (.iconst 1, 1) := by decide +kernel
theorem d3_1 : decode jdk_43_method_46_code 1 = .ok (.newarray .byte, 2) := by decide +kernel
theorem d3_3 : decode jdk_43_method_46_code 3 = .ok (.dup, 1) := by decide +kernel
theorem d3_4 : decode jdk_43_method_46_code 4 = .ok (.iconst 0, 1) := by decide +kernel
theorem d3_5 : decode jdk_43_method_46_code 5 = .ok (.iload_n 0, 1) := by decide +kernel
theorem d3_6 : decode jdk_43_method_46_code 6 = .ok (.i2b, 1) := by decide +kernel
theorem d3_7 : decode jdk_43_method_46_code 7 = .ok (.bastore, 1) := by decide +kernel
theorem d3_8 : decode jdk_43_method_46_code 8 = .ok (.areturn, 1) := by decide +kernel
abbrev y3 : MethodName := ⟨"java/lang/StringLatin1", "toBytes", "(C)[B"⟩
def r3_1Q (Z : State) (p1 : Int32) (h0 : Heap) (n0 : Nat) (v : Option Value) (h : Heap) (L : List Loc) : Prop := ∃ (b2 : Addr) (k2 : ClassId), v = some (.ref b2) ∧ Fr n0 L ∧ Keep h0 h [] ∧ h0.size ≤ b2 ∧ Arv Z h b2 k2 .byte (1 : Int32) [(.int (p1.toInt8.toInt32))] (.int (0 : Int32)) ∧ Exa Z h b2 "[B"
theorem r3_1e (m : MethodId) (p1 : Int32) : entryFrame m #[(.int p1)] 1 = mkF m 0 #[iv p1] [] := by first | (simp [entryFrame, mkF, argsToLocals, Value.category]; done) | rfl
set_option maxRecDepth 65536 in
set_option maxHeartbeats 40000000 in
theorem r3_1 (l : Launch) (Z : State) (a0 : Array Value) (hw : HW a0 Z) (ws : List Jvm.Cond) (p1 : Int32) (h0 : Heap) (n0 : Nat) (O0 : Old Z n0 h0) :
    MF l y3 jdk_43_method_46_code 1 (some (.array .byte)) ws ({ frames := 0, cells := 1, slots := 1, locals := 0 } : Room) Z #[(.int p1)] h0 (r3_1Q Z p1 h0 n0) := by
  refine MetFree.of_bodySF (plainFor_of_name pn_java_lang_StringLatin1) hisR ?_
  intro p e s m args below meth c s₁ Bd hml0 hP hK
  obtain ⟨rfl, hZ, hh⟩ := hP
  have hx := Bd.exec
  have hby := Bd.bytes
  have hml : c.maxLocals = 1 := hml0
  have hown : s.vm.findClass "java/lang/StringLatin1" = some m.cls := findClass_of_methodNamed Bd.named
  have hnm := (name_of_methodNamed Bd.named Bd.method).1
  have X0 : Stand p l e ({ frames := 0, cells := 1, slots := 1, locals := 0 } : Room) s m #[(.int p1)] below meth c s₁ [] 0 0 := Stand.of_body Bd
  have e0 : s₁.heap = h0 := by rw [← hh, Bd.state]; rfl
  have N0 := Fr.nil n0
  have pre0 : ∀ t, Steps p.tables e below (s₁.setTop (mkF m 0 #[iv p1] [])) t → Steps p.tables e below (s₁.setTop (entryFrame m #[(.int p1)] 1)) t := fun t k => castTop (r3_1e m p1) k
  obtain ⟨T2, h2, k2, X2, e2, E2, A2, C2, st2⟩ := newPE X0 hx hZ (ow hw 14 rfl) e0 (g := (mkF m 1 #[iv p1] [(.int (1 : Int32))])) rfl (hb hby d3_1) rfl (by decide) (cap := 1) (by decide) (by decide) (by decide) (by decide) (ad := "[B") (by decide)
  obtain ⟨b2, g2⟩ : ∃ z, z = h0.size := ⟨_, rfl⟩
  rw [← g2] at A2 C2 st2
  have O_E2 : Old Z n0 h2 := O0.ext E2
  have Kp_E2 : Keep h0 h2 [] := (Keep.refl h0 []).ext E2
  have V2 : Arv Z h2 b2 k2 .byte (1 : Int32) [(.int (0 : Int32))] (.int (0 : Int32)) := (Arv.new A2 (by decide)).pad (pad_rep [] (.int (0 : Int32)) 1)
  obtain ⟨cl3, Ar3, q3, S3, M3, H3, G3⟩ := id V2
  have hin3 : ¬ ((0 : Int32) < 0 ∨ cl3.slots.size ≤ ((0 : Int32)).toNatClampNeg) := inb_of S3 ⟨by decide, by decide⟩
  obtain ⟨T3, h3, X3, e3, W3, st3⟩ := stB X2 hx hZ e2 Ar3 (j := (0 : Int32)) hin3 (g := (mkF m 7 #[iv p1] [(.int (p1.toInt8.toInt32)), (.int (0 : Int32)), (.ref b2), (.ref b2)])) rfl rfl (hb hby d3_7)
  have g5 : n0 ≤ b2 := Nat.le_trans (Nat.le_trans (Nat.le_of_eq O0.1.symm) O0.2.1) (Nat.le_of_eq g2.symm)
  have z6 : h0.size ≤ b2 := Nat.le_trans (Keep.refl h0 []).1 (Nat.le_of_eq g2.symm)
  have O_W3 : Old Z n0 h3 := O_E2.wr W3 g5
  have Kp_W3 : Keep h0 h3 [] := Kp_E2.wr W3 (Or.inr z6)
  have N7 := Fr.snoc X3 N0 g5
  have f4 : Arv Z h3 b2 k2 .byte (1 : Int32) [(.int (p1.toInt8.toInt32))] (.int (0 : Int32)) := by simpa only [own_narb, own_i8, List.set] using Arv.set Ar3 q3 S3 M3 H3 G3 (fits_nar_byte _) W3 0 rfl (Nat.le_of_ble_eq_true rfl)
  have f8 := (C2.wr W3)
  obtain ⟨fs, hr, hrun, hended, hW, hsame⟩ := X3.leave (v := some (.ref b2)) (fun h => by rw [Bd.returns] at h; cases h)
  refine ⟨_, _, pre0 _ ?_, hrun, hended, _, _, rfl, ?_, ⟨_, rfl⟩, hW, hsame.mono (by decide) (by decide)⟩
  · show St p e below s₁ m 0 #[iv p1] [] _
    refine XS.iconst X0.here hx rfl (hb hby d3_0) ?_
    show St p e below s₁ m 1 #[iv p1] [(.int (1 : Int32))] _
    refine st2 _ ?_
    show St p e below T2 m 3 #[iv p1] [(.ref b2)] _
    refine XS.dup X2.here hx rfl (hb hby d3_3) rfl rfl ?_
    show St p e below T2 m 4 #[iv p1] [(.ref b2), (.ref b2)] _
    refine XS.iconst X2.here hx rfl (hb hby d3_4) ?_
    show St p e below T2 m 5 #[iv p1] [(.int (0 : Int32)), (.ref b2), (.ref b2)] _
    refine XS.iloadN X2.here hx rfl (hb hby d3_5) rfl ?_
    show St p e below T2 m 6 #[iv p1] [(.int p1), (.int (0 : Int32)), (.ref b2), (.ref b2)] _
    refine XS.i2b X2.here hx rfl (hb hby d3_6) rfl ?_
    show St p e below T2 m 7 #[iv p1] [(.int (p1.toInt8.toInt32)), (.int (0 : Int32)), (.ref b2), (.ref b2)] _
    refine st3 _ ?_
    show St p e below T3 m 8 #[iv p1] [(.ref b2)] _
    jvm_step X3.here [X3.here.top, hx, (hb hby d3_8), X3.method', Bd.returns, Value.isRef, FieldType.isReference]
    first | (intro acts; rw [hr _ acts rfl rfl rfl]) | rw [hr _ _ rfl rfl rfl]
    exact Steps.refl _
  · show r3_1Q Z p1 h0 n0 _ T3.heap _
    rw [e3]
    exact ⟨b2, k2, rfl, N7, Kp_W3, z6, f4, f8⟩
theorem pd__C__B : parseMethodDescriptor "(C)[B" = some ⟨[.char], some (.array .byte)⟩ := by decide +kernel
theorem d1_21 : decode jdk_42_method_139_code 21 = .ok (.iconst 0, 1) := by decide +kernel
theorem d1_22 : decode jdk_42_method_139_code 22 = .ok (.invokespecial 209, 3) := by decide +kernel
theorem d4_0 : decode jdk_42_method_151_code 0 = .ok (.aload_n 0, 1) := by decide +kernel
theorem d4_1 : decode jdk_42_method_151_code 1 = .ok (.invokespecial 1, 3) := by decide +kernel
theorem d4_4 : decode jdk_42_method_151_code 4 = .ok (.aload_n 0, 1) := by decide +kernel
theorem d4_5 : decode jdk_42_method_151_code 5 = .ok (.aload_n 1, 1) := by decide +kernel
theorem d4_6 : decode jdk_42_method_151_code 6 = .ok (.putfield 9, 3) := by decide +kernel
theorem d4_9 : decode jdk_42_method_151_code 9 = .ok (.aload_n 0, 1) := by decide +kernel
theorem d4_10 : decode jdk_42_method_151_code 10 = .ok (.iload_n 2, 1) := by decide +kernel
theorem d4_11 : decode jdk_42_method_151_code 11 = .ok (.putfield 15, 3) := by decide +kernel
theorem d4_14 : decode jdk_42_method_151_code 14 = .ok (.return_, 1) := by decide +kernel
abbrev y4 : MethodName := ⟨"java/lang/String", "<init>", "([BB)V"⟩
theorem pn_java_lang_String : plainName "java/lang/String" = true := by first | (simp [plainName, overriddenIn]; done) | decide +kernel
def r4_1Q (Z : State) (a1 : Addr) (a2 : Addr) (h0 : Heap) (n0 : Nat) (v : Option Value) (h : Heap) (L : List Loc) : Prop := v = none ∧ Fr n0 L ∧ Keep h0 h [a1] ∧ Fld Z h a1 "java/lang/String" "value" "[B" (.ref a2) ∧ Exa Z h a1 "java/lang/String" ∧ Fld Z h a1 "java/lang/String" "coder" "B" (.int (0 : Int32))
theorem r4_1e (m : MethodId) (a1 : Addr) (a2 : Addr) : entryFrame m #[(.ref a1), (.ref a2), (.int (0 : Int32))] 3 = mkF m 0 #[rv a1, rv a2, iv (0 : Int32)] [] := by first | (simp [entryFrame, mkF, argsToLocals, Value.category]; done) | rfl
set_option maxRecDepth 65536 in
set_option maxHeartbeats 40000000 in
theorem r4_1 (l : Launch) (Z : State) (a0 : Array Value) (hw : HW a0 Z) (ws : List Jvm.Cond) (a1 : Addr) (a2 : Addr) (h0 : Heap) (n0 : Nat) (O0 : Old Z n0 h0) (H4 : Fld Z h0 a1 "java/lang/String" "value" "[B" .null) (H5 : Exa Z h0 a1 "java/lang/String") (H7 : n0 ≤ a1) (H10 : Fld Z h0 a1 "java/lang/String" "coder" "B" (.int (0 : Int32))) :
    MF l y4 jdk_42_method_151_code 3 none ws ({ frames := 1, cells := 0, slots := 0, locals := 12 } : Room) Z #[(.ref a1), (.ref a2), (.int (0 : Int32))] h0 (r4_1Q Z a1 a2 h0 n0) := by
  refine MetFree.of_bodySF (plainFor_of_name pn_java_lang_String) hisR ?_
  intro p e s m args below meth c s₁ Bd hml0 hP hK
  obtain ⟨rfl, hZ, hh⟩ := hP
  have hx := Bd.exec
  have hby := Bd.bytes
  have hml : c.maxLocals = 3 := hml0
  have hown : s.vm.findClass "java/lang/String" = some m.cls := findClass_of_methodNamed Bd.named
  have hnm := (name_of_methodNamed Bd.named Bd.method).1
  have X0 : Stand p l e ({ frames := 1, cells := 0, slots := 0, locals := 12 } : Room) s m #[(.ref a1), (.ref a2), (.int (0 : Int32))] below meth c s₁ [] 0 0 := Stand.of_body Bd
  have e0 : s₁.heap = h0 := by rw [← hh, Bd.state]; rfl
  have N0 := Fr.nil n0
  have pre0 : ∀ t, Steps p.tables e below (s₁.setTop (mkF m 0 #[rv a1, rv a2, iv (0 : Int32)] [])) t → Steps p.tables e below (s₁.setTop (entryFrame m #[(.ref a1), (.ref a2), (.int (0 : Int32))] 3)) t := fun t k => castTop (r4_1e m a1 a2) k
  obtain ⟨T3, X3, e3, st3⟩ := initO X0 hx hZ hown (ow hw 19 rfl) (ow hw 20 rfl) (ow hw 21 rfl) e0 (g := (mkF m 1 #[rv a1, rv a2, iv (0 : Int32)] [(.ref a1)])) rfl (by rw [hml]; rfl) rfl (hb hby d4_1) (by decide) (W := 0) (by show 2 * 0 + _ ≤ _; exact Nat.le_of_eq rfl) (by decide)
  obtain ⟨T6, h6, X6, e6, W6, st6⟩ := putF X3 hx hZ hown (host := "") (Or.inl (ow hw 22 rfl)) Via.refl e3 H4 H5 (Or.inr ⟨(ow hw 23 rfl), rfl, hnm⟩) (ow hw 10 rfl) (ty := (.array .byte)) (by decide) rfl rfl (g := (mkF m 6 #[rv a1, rv a2, iv (0 : Int32)] [(.ref a2), (.ref a1)])) rfl rfl (hb hby d4_6)
  have O_W6 : Old Z n0 h6 := O0.wr W6 H7
  have Kp_W6 : Keep h0 h6 [a1] := (Keep.refl h0 [a1]).wr W6 (Or.inl (List.mem_of_getElem? (i := 0) rfl))
  have N8 := Fr.snoc X6 N0 H7
  have f9 := H4.same W6
  have f11 := (H5.wr W6)
  have f12 := (H10.other W6 (Or.inr (slot_ne (Or.inr (ow hw 25 rfl)) (Or.inr (ow hw 23 rfl)) (by decide) (t := .byte) (t' := (.array .byte)) (by decide) (by decide))))
  obtain ⟨T13, h13, X13, e13, W13, st13⟩ := putF X6 hx hZ hown (host := "") (Or.inl (ow hw 24 rfl)) Via.refl e6 f12 f11 (Or.inr ⟨(ow hw 25 rfl), rfl, hnm⟩) (ow hw 10 rfl) (ty := .byte) (by decide) rfl rfl (g := (mkF m 11 #[rv a1, rv a2, iv (0 : Int32)] [(.int (0 : Int32)), (.ref a1)])) rfl rfl (hb hby d4_11)
  have O_W13 : Old Z n0 h13 := O_W6.wr W13 H7
  have Kp_W13 : Keep h0 h13 [a1] := Kp_W6.wr W13 (Or.inl (List.mem_of_getElem? (i := 0) rfl))
  have N14 := Fr.snoc X13 N8 H7
  have f15 := f12.same W13
  have f16 := (f11.wr W13)
  have f17 := (f9.other W13 (Or.inr (slot_ne (Or.inr (ow hw 23 rfl)) (Or.inr (ow hw 25 rfl)) (by decide) (t := (.array .byte)) (t' := .byte) (by decide) (by decide))))
  obtain ⟨fs, hr, hrun, hended, hW, hsame⟩ := X13.leave (v := none) (fun _ => rfl)
  refine ⟨_, _, pre0 _ ?_, hrun, hended, _, _, rfl, ?_, ⟨_, rfl⟩, hW, hsame.mono (by decide) (by decide)⟩
  · show St p e below s₁ m 0 #[rv a1, rv a2, iv (0 : Int32)] [] _
    refine XS.aloadN X0.here hx rfl (hb hby d4_0) rfl rfl ?_
    show St p e below s₁ m 1 #[rv a1, rv a2, iv (0 : Int32)] [(.ref a1)] _
    refine st3 _ ?_
    show St p e below T3 m 4 #[rv a1, rv a2, iv (0 : Int32)] [] _
    refine XS.aloadN X3.here hx rfl (hb hby d4_4) rfl rfl ?_
    show St p e below T3 m 5 #[rv a1, rv a2, iv (0 : Int32)] [(.ref a1)] _
    refine XS.aloadN X3.here hx rfl (hb hby d4_5) rfl rfl ?_
    show St p e below T3 m 6 #[rv a1, rv a2, iv (0 : Int32)] [(.ref a2), (.ref a1)] _
    refine st6 _ ?_
    show St p e below T6 m 9 #[rv a1, rv a2, iv (0 : Int32)] [] _
    refine XS.aloadN X6.here hx rfl (hb hby d4_9) rfl rfl ?_
    show St p e below T6 m 10 #[rv a1, rv a2, iv (0 : Int32)] [(.ref a1)] _
    refine XS.iloadN X6.here hx rfl (hb hby d4_10) rfl ?_
    show St p e below T6 m 11 #[rv a1, rv a2, iv (0 : Int32)] [(.int (0 : Int32)), (.ref a1)] _
    refine st13 _ ?_
    show St p e below T13 m 14 #[rv a1, rv a2, iv (0 : Int32)] [] _
    exact X13.returnOut hx Bd.returns (hb hby d4_14) hr
  · show r4_1Q Z a1 a2 h0 n0 _ T13.heap _
    rw [e13]
    exact ⟨rfl, N14, Kp_W13, f17, f16, f15⟩
theorem pd___BB_V : parseMethodDescriptor "([BB)V" = some ⟨[(.array .byte), .byte], none⟩ := by decide +kernel
theorem d1_25 : decode jdk_42_method_139_code 25 = .ok (.areturn, 1) := by decide +kernel
abbrev y1 : MethodName := ⟨"java/lang/String", "valueOf", "(C)Ljava/lang/String;"⟩
def r1_1Q (Z : State) (p1 : Int32) (p2 : Int32) (h0 : Heap) (n0 : Nat) (v : Option Value) (h : Heap) (L : List Loc) : Prop := ∃ (b8 : Addr) (b9_0 : Addr) (k9_0 : ClassId), v = some (.ref b8) ∧ Fr n0 L ∧ Keep h0 h [] ∧ h0.size ≤ b8 ∧ h0.size ≤ b9_0 ∧ b8 ≠ b9_0 ∧ Exa Z h b8 "java/lang/String" ∧ Fld Z h b8 "java/lang/String" "value" "[B" (.ref b9_0) ∧ Fld Z h b8 "java/lang/String" "coder" "B" (.int (0 : Int32)) ∧ Arv Z h b9_0 k9_0 .byte (1 : Int32) [(.int (p1.toInt8.toInt32))] (.int (0 : Int32)) ∧ Exa Z h b9_0 "[B"
theorem r1_1e (m : MethodId) (p1 : Int32) (p2 : Int32) : entryFrame m #[(.int p1)] 1 = mkF m 0 #[iv p1] [] := by first | (simp [entryFrame, mkF, argsToLocals, Value.category]; done) | rfl
set_option maxRecDepth 65536 in
set_option maxHeartbeats 40000000 in
theorem r1_1 (l : Launch) (Z : State) (a0 : Array Value) (hw : HW a0 Z) (ws : List Jvm.Cond) (p1 : Int32) (p2 : Int32) (h0 : Heap) (n0 : Nat) (O0 : Old Z n0 h0) (H3 : Sta Z Z.heap "java/lang/String" "COMPACT_STRINGS" "Z" (.int p2)) (hc5 : ¬ (p2 = (0 : Int32))) (hc6 : ¬ ((255 : Int32) < p1)) :
    MF l y1 jdk_42_method_139_code 1 (some (.object "java/lang/String")) ws ({ frames := 2, cells := 2, slots := 5, locals := 27 } : Room) Z #[(.int p1)] h0 (r1_1Q Z p1 p2 h0 n0) := by
  refine MetFree.of_bodySF (plainFor_of_name pn_java_lang_String) hisR ?_
  intro p e s m args below meth c s₁ Bd hml0 hP hK
  obtain ⟨rfl, hZ, hh⟩ := hP
  have hx := Bd.exec
  have hby := Bd.bytes
  have hml : c.maxLocals = 1 := hml0
  have hown : s.vm.findClass "java/lang/String" = some m.cls := findClass_of_methodNamed Bd.named
  have hnm := (name_of_methodNamed Bd.named Bd.method).1
  have X0 : Stand p l e ({ frames := 2, cells := 2, slots := 5, locals := 27 } : Room) s m #[(.int p1)] below meth c s₁ [] 0 0 := Stand.of_body Bd
  have e0 : s₁.heap = h0 := by rw [← hh, Bd.state]; rfl
  have N0 := Fr.nil n0
  have pre0 : ∀ t, Steps p.tables e below (s₁.setTop (mkF m 0 #[iv p1] [])) t → Steps p.tables e below (s₁.setTop (entryFrame m #[(.int p1)] 1)) t := fun t k => castTop (r1_1e m p1 p2) k
  obtain ⟨T4, X4, e4, st4⟩ := getS2 X0 hx hZ hown (host := "") (Or.inl (ow hw 4 rfl)) Via.refl e0 (H3.ext O0.2) (g := (mkF m 0 #[iv p1] [])) rfl (hb hby d1_0)
  obtain ⟨_, _, ⟨T7, L7, k7, n7⟩, -, X7, ⟨Lc7, hQ7, l7, y7, z7⟩, st7⟩ := Jvm.LawKit.callS X4 hx (y := y2) hown (mvT hZ (ow hw 5 rfl)) (mvT hZ (ow hw 6 rfl)) (mvT hZ (ow hw 7 rfl)) (mvT hZ (ow hw 8 rfl)) (by decide) (backOf (W := 0) (r2_1 l Z a0 hw [] p1 h0 n0 O0 hc6) hZ (ow hw 8 rfl) (ow hw 7 rfl) (by decide) (by decide)) (g := (mkF m 7 #[iv p1] [(.int p1)])) rfl (by rw [hml]; rfl) (argsL := [(.int p1)]) (rest := []) (lenOf pd__C_Z rfl) rfl (by show 2 * 0 + _ ≤ _; exact Nat.le_of_eq rfl) (hb hby d1_7) (fun _ _ => ⟨rfl, e4, (by decide : 0 + 0 ≤ _), (by decide : 0 + 0 ≤ _)⟩)
  dsimp only [Pt.U, Pt.locs, Pt.cells, Pt.slots] at X7 l7 y7 z7 st7 hQ7
  subst l7 y7 z7
  obtain ⟨rfl, N7q, e7⟩ := hQ7
  have N7 := Fr.app N0 N7q
  obtain ⟨T8, h8, X8, e8, E8, A8, D8, -, st8⟩ := newO X7 hx hZ hown (ow hw 9 rfl) (ow hw 10 rfl) (ow hw 2 rfl) e7 (g := (mkF m 13 #[iv p1] [])) rfl (hb hby d1_13) (by decide) (by decide)
  obtain ⟨b8, g8⟩ : ∃ z, z = h0.size := ⟨_, rfl⟩
  rw [← g8] at A8 D8 st8
  have O_E8 : Old Z n0 h8 := O0.ext E8
  have Kp_E8 : Keep h0 h8 [] := (Keep.refl h0 []).ext E8
  obtain ⟨_, _, ⟨T9, L9, k9, n9⟩, -, X9, ⟨Lc9, hQ9, l9, y9, z9⟩, st9⟩ := Jvm.LawKit.callS X8 hx (y := y3) hown (mvT hZ (ow hw 11 rfl)) (mvT hZ (ow hw 12 rfl)) (mvT hZ (ow hw 7 rfl)) (mvT hZ (ow hw 13 rfl)) (by decide) (backOf (W := 2) (r3_1 l Z a0 hw [] p1 h8 n0 O_E8) hZ (ow hw 13 rfl) (ow hw 7 rfl) (by decide) (by decide)) (g := (mkF m 18 #[iv p1] [(.int p1), (.ref b8), (.ref b8)])) rfl (by rw [hml]; rfl) (argsL := [(.int p1)]) (rest := [(.ref b8), (.ref b8)]) (lenOf pd__C__B rfl) rfl (by show 2 * 0 + _ ≤ _; exact Nat.le_of_eq rfl) (hb hby d1_18) (fun _ _ => ⟨rfl, e8, (by decide : 1 + 1 ≤ _), (by decide : 4 + 1 ≤ _)⟩)
  dsimp only [Pt.U, Pt.locs, Pt.cells, Pt.slots] at X9 l9 y9 z9 st9 hQ9
  subst l9 y9 z9
  obtain ⟨b9_0, k9_0, rfl, N9q, K9, lo9_1, f9_2, f9_3⟩ := hQ9
  have N9 := Fr.app N7 N9q
  have O_K9 : Old Z n0 T9.heap := O_E8.keep K9 all0
  have Kp_K9 : Keep h0 T9.heap [] := Kp_E8.trans K9 all0
  have f10 : Fld Z h8 b8 "java/lang/String" "value" "[B" .null := D8 (Or.inr (ow hw 23 rfl)) (ty := (.array .byte)) (by decide)
  have f11 := (f10.keep K9 nin0)
  have f12 := (A8.keep K9)
  have g13 : n0 ≤ b8 := Nat.le_trans (Nat.le_trans (Nat.le_of_eq O0.1.symm) O0.2.1) (Nat.le_of_eq g8.symm)
  have f14 : Fld Z h8 b8 "java/lang/String" "coder" "B" (.int (0 : Int32)) := D8 (Or.inr (ow hw 25 rfl)) (ty := .byte) (by decide)
  have f15 := (f14.keep K9 nin0)
  obtain ⟨_, _, ⟨T16, L16, k16, n16⟩, -, X16, ⟨Lc16, hQ16, l16, y16, z16⟩, st16⟩ := X9.specialBack hx (y := y4) rfl hown (mvT hZ (ow hw 15 rfl)) (mvT hZ (ow hw 16 rfl)) (mvT hZ (ow hw 18 rfl)) (by decide) (backOf (W := 1) (r4_1 l Z a0 hw [] b8 b9_0 T9.heap n0 O_K9 f11 f12 g13 f15) hZ (ow hw 18 rfl) (ow hw 2 rfl) (by decide) (by decide)) (g := (mkF m 22 #[iv p1] [(.int (0 : Int32)), (.ref b9_0), (.ref b8), (.ref b8)])) rfl (by rw [hml]; rfl) (Steps.refl _) (a := b8) (argsL := [(.ref b9_0), (.int (0 : Int32))]) (rest := [(.ref b8)]) (lenOf pd___BB_V rfl) rfl (by show 2 * 0 + _ ≤ _; exact Nat.le_of_eq rfl) (hb hby d1_22) (fun _ _ => ⟨rfl, rfl, (by decide : 2 + 0 ≤ _), (by decide : 5 + 0 ≤ _)⟩)
  dsimp only [Pt.U, Pt.locs, Pt.cells, Pt.slots] at X16 l16 y16 z16 st16 hQ16
  subst l16 y16 z16
  obtain ⟨rfl, N16q, K16, f16_1, f16_2, f16_3⟩ := hQ16
  have N16 := Fr.app N9 N16q
  have z17 : h0.size ≤ b8 := Nat.le_trans (Keep.refl h0 []).1 (Nat.le_of_eq g8.symm)
  have O_K16 : Old Z n0 T16.heap := O_K9.keep K16 (allS g13 all0)
  have Kp_K16 : Keep h0 T16.heap [] := Kp_K9.trans K16 (allS (Or.inr z17) all0)
  have z18 : h0.size ≤ b9_0 := Nat.le_trans Kp_E8.1 lo9_1
  have ne19 : b8 ≠ b9_0 := Nat.ne_of_lt (Nat.lt_of_lt_of_le A8.lt lo9_1)
  have f20 := (f9_2.keep K16 (ninS (Ne.symm ne19) nin0))
  have f21 := (f9_3.keep K16)
  obtain ⟨fs, hr, hrun, hended, hW, hsame⟩ := X16.leave (v := some (.ref b8)) (fun h => by rw [Bd.returns] at h; cases h)
  refine ⟨_, _, pre0 _ ?_, hrun, hended, _, _, rfl, ?_, ⟨_, rfl⟩, hW, hsame.mono (by decide) (by decide)⟩
  · show St p e below s₁ m 0 #[iv p1] [] _
    refine st4 _ ?_
    show St p e below T4 m 3 #[iv p1] [(.int p2)] _
    refine XS.ifNo X4.here hx rfl (hb hby d1_3) rfl ((if0 _ _).trans (feq hc5).1) ?_
    show St p e below T4 m 6 #[iv p1] [] _
    refine XS.iloadN X4.here hx rfl (hb hby d1_6) rfl ?_
    show St p e below T4 m 7 #[iv p1] [(.int p1)] _
    refine st7 _ ?_
    show St p e below T7 m 10 #[iv p1] [(.int (1 : Int32))] _
    refine XS.ifNo X7.here hx rfl (hb hby d1_10) rfl ((if0 _ _).trans (feq (by decide : ¬ ((1 : Int32) = (0 : Int32)))).1) ?_
    show St p e below T7 m 13 #[iv p1] [] _
    refine st8 _ ?_
    show St p e below T8 m 16 #[iv p1] [(.ref b8)] _
    refine XS.dup X8.here hx rfl (hb hby d1_16) rfl rfl ?_
    show St p e below T8 m 17 #[iv p1] [(.ref b8), (.ref b8)] _
    refine XS.iloadN X8.here hx rfl (hb hby d1_17) rfl ?_
    show St p e below T8 m 18 #[iv p1] [(.int p1), (.ref b8), (.ref b8)] _
    refine st9 _ ?_
    show St p e below T9 m 21 #[iv p1] [(.ref b9_0), (.ref b8), (.ref b8)] _
    refine XS.iconst X9.here hx rfl (hb hby d1_21) ?_
    show St p e below T9 m 22 #[iv p1] [(.int (0 : Int32)), (.ref b9_0), (.ref b8), (.ref b8)] _
    refine st16.trans ?_
    show St p e below T16 m 25 #[iv p1] [(.ref b8)] _
    jvm_step X16.here [X16.here.top, hx, (hb hby d1_25), X16.method', Bd.returns, Value.isRef, FieldType.isReference]
    first | (intro acts; rw [hr _ acts rfl rfl rfl]) | rw [hr _ _ rfl rfl rfl]
    exact Steps.refl _
  · show r1_1Q Z p1 p2 h0 n0 _ T16.heap _
    exact ⟨b8, b9_0, k9_0, rfl, N16, Kp_K16, z17, z18, ne19, f16_2, f16_1, f16_3, f20, f21⟩
theorem pd__C_Ljava_lang_String_ : parseMethodDescriptor "(C)Ljava/lang/String;" = some ⟨[.char], some (.object "java/lang/String")⟩ := by decide +kernel
set_option maxRecDepth 65536 in
set_option maxHeartbeats 40000000 in
theorem g0_2 {p : Program} {l : Launch} {e : Env} {R : Room} {s : State} {m : MethodId} {args : Array Value} {below : List Frame} {meth : Method} {c : Code} {T0 : State} {locs : List Loc} {cells slots : Nat} {Z : State} {a0 : Array Value} {h0 : Heap} {n0 : Nat} (p1 : Int32) (p2 : Int32) (p3 : Int32) (p4 : Int32) (p5 : Int32) (p6 : Int32) (p7 : Int32) (p8 : Int32) (p9 : Int32) (p10 : Int32) (p11 : Int32)
    (X0 : Stand p l e R s m args below meth c T0 locs cells slots) (hx : p.tables.exec = Jvm.exec) (hZ : Z.Warmed39 s.vm) (hw : HW a0 Z) (hby : c.code = code) (hml : c.maxLocals = 19) (hown : s.vm.findClass "com/example/agave/agave/store/RequestStateOfPinLaw" = some m.cls) (e0 : T0.heap = h0) (O0 : Old Z n0 h0) (N0 : Fr n0 locs) (rc : cells + 4 ≤ R.cells) (rs : slots + 10 ≤ R.slots) (rf : 3 ≤ R.frames) (rl : 39 ≤ R.locals) (H12 : Sta Z Z.heap "java/lang/String" "COMPACT_STRINGS" "Z" (.int p11)) (hc13 : ¬ (p11 = (0 : Int32))) (hc14 : ¬ ((255 : Int32) < ((p2 &&& (255 : Int32)).toUInt32.toUInt16.toUInt32.toInt32))) (hc16 : ¬ ((255 : Int32) < ((p3 &&& (255 : Int32)).toUInt32.toUInt16.toUInt32.toInt32))) :
    ∃ (T' : State) (h' : Heap) (L' : List Loc) (b15_0 : Addr) (b17_0 : Addr) (b15_1 : Addr) (b17_1 : Addr) (k15_0 : ClassId) (k17_0 : ClassId), Stand p l e R s m args below meth c T' L' (cells + 4) (slots + 10) ∧ T'.heap = h' ∧ Fr n0 L' ∧ Keep h0 h' [] ∧ h0.size ≤ b15_0 ∧ h0.size ≤ b17_0 ∧ h0.size ≤ b15_1 ∧ h0.size ≤ b17_1 ∧ b15_0 ≠ b17_0 ∧ b15_0 ≠ b15_1 ∧ b15_0 ≠ b17_1 ∧ b17_0 ≠ b15_1 ∧ b17_0 ≠ b17_1 ∧ b15_1 ≠ b17_1 ∧ Exa Z h' b15_0 "java/lang/String" ∧ Fld Z h' b15_0 "java/lang/String" "value" "[B" (.ref b15_1) ∧ Fld Z h' b15_0 "java/lang/String" "coder" "B" (.int (0 : Int32)) ∧ Exa Z h' b17_0 "java/lang/String" ∧ Fld Z h' b17_0 "java/lang/String" "value" "[B" (.ref b17_1) ∧ Fld Z h' b17_0 "java/lang/String" "coder" "B" (.int (0 : Int32)) ∧ Arv Z h' b15_1 k15_0 .byte (1 : Int32) [(.int (((p2 &&& (255 : Int32)).toUInt32.toUInt16.toUInt32.toInt32).toInt8.toInt32))] (.int (0 : Int32)) ∧ Exa Z h' b15_1 "[B" ∧ Arv Z h' b17_1 k17_0 .byte (1 : Int32) [(.int (((p3 &&& (255 : Int32)).toUInt32.toUInt16.toUInt32.toInt32).toInt8.toInt32))] (.int (0 : Int32)) ∧ Exa Z h' b17_1 "[B" ∧
      ∀ target, St p e below T' m 116 #[iv p1, iv p2, iv p3, iv p4, iv p5, iv p6, iv p7, iv p8, iv p9, iv p10, rv b15_0, rv b17_0, .unset, .unset, .unset, .unset, .unset, .unset, .unset] [] target → St p e below T0 m 94 #[iv p1, iv p2, iv p3, iv p4, iv p5, iv p6, iv p7, iv p8, iv p9, iv p10, .unset, .unset, .unset, .unset, .unset, .unset, .unset, .unset, .unset] [] target := by
  obtain ⟨_, _, ⟨T15, L15, k15, n15⟩, -, X15, ⟨Lc15, hQ15, l15, y15, z15⟩, st15⟩ := Jvm.LawKit.callS X0 hx (y := y1) hown (mvT hZ (ow hw 0 rfl)) (mvT hZ (ow hw 1 rfl)) (mvT hZ (ow hw 2 rfl)) (mvT hZ (ow hw 3 rfl)) (by decide) (backOf (W := 0) (r1_1 l Z a0 hw [] ((p2 &&& (255 : Int32)).toUInt32.toUInt16.toUInt32.toInt32) p11 h0 n0 O0 H12 hc13 hc14) hZ (ow hw 3 rfl) (ow hw 2 rfl) (by show 2 + 1 ≤ R.frames; omega) (by show 0 + (1 + 11) + 27 ≤ R.locals; omega)) (g := (mkF m 100 #[iv p1, iv p2, iv p3, iv p4, iv p5, iv p6, iv p7, iv p8, iv p9, iv p10, .unset, .unset, .unset, .unset, .unset, .unset, .unset, .unset, .unset] [(.int ((p2 &&& (255 : Int32)).toUInt32.toUInt16.toUInt32.toInt32))])) rfl (by rw [hml]; rfl) (argsL := [(.int ((p2 &&& (255 : Int32)).toUInt32.toUInt16.toUInt32.toInt32))]) (rest := []) (lenOf pd__C_Ljava_lang_String_ rfl) rfl (by show 2 * 0 + _ ≤ _; exact Nat.le_of_eq rfl) (hb hby at_100) (fun _ _ => ⟨rfl, e0, (by show cells + 0 + 2 ≤ R.cells; omega), (by show slots + 0 + 5 ≤ R.slots; omega)⟩)
  dsimp only [Pt.U, Pt.locs, Pt.cells, Pt.slots] at X15 l15 y15 z15 st15 hQ15
  subst l15
  rw [y15, z15] at X15
  obtain ⟨b15_0, b15_1, k15_0, rfl, N15q, K15, lo15_1, lo15_2, nq15_3, f15_4, f15_5, f15_6, f15_7, f15_8⟩ := hQ15
  have N15 := Fr.app N0 N15q
  have O_K15 : Old Z n0 T15.heap := O0.keep K15 all0
  have Kp_K15 : Keep h0 T15.heap [] := (Keep.refl h0 []).trans K15 all0
  replace X15 : Stand p l e R _ m args below meth c T15 _ (cells + 2) (slots + 5) := X15
  obtain ⟨_, _, ⟨T17, L17, k17, n17⟩, -, X17, ⟨Lc17, hQ17, l17, y17, z17⟩, st17⟩ := Jvm.LawKit.callS X15 hx (y := y1) hown (mvT hZ (ow hw 0 rfl)) (mvT hZ (ow hw 1 rfl)) (mvT hZ (ow hw 2 rfl)) (mvT hZ (ow hw 3 rfl)) (by decide) (backOf (W := 0) (r1_1 l Z a0 hw [] ((p3 &&& (255 : Int32)).toUInt32.toUInt16.toUInt32.toInt32) p11 T15.heap n0 O_K15 H12 hc13 hc16) hZ (ow hw 3 rfl) (ow hw 2 rfl) (by show 2 + 1 ≤ R.frames; omega) (by show 0 + (1 + 11) + 27 ≤ R.locals; omega)) (g := (mkF m 111 #[iv p1, iv p2, iv p3, iv p4, iv p5, iv p6, iv p7, iv p8, iv p9, iv p10, rv b15_0, .unset, .unset, .unset, .unset, .unset, .unset, .unset, .unset] [(.int ((p3 &&& (255 : Int32)).toUInt32.toUInt16.toUInt32.toInt32))])) rfl (by rw [hml]; rfl) (argsL := [(.int ((p3 &&& (255 : Int32)).toUInt32.toUInt16.toUInt32.toInt32))]) (rest := []) (lenOf pd__C_Ljava_lang_String_ rfl) rfl (by show 2 * 0 + _ ≤ _; exact Nat.le_of_eq rfl) (hb hby at_111) (fun _ _ => ⟨rfl, rfl, (by show cells + 2 + 2 ≤ R.cells; omega), (by show slots + 5 + 5 ≤ R.slots; omega)⟩)
  dsimp only [Pt.U, Pt.locs, Pt.cells, Pt.slots] at X17 l17 y17 z17 st17 hQ17
  subst l17
  rw [y17, z17] at X17
  obtain ⟨b17_0, b17_1, k17_0, rfl, N17q, K17, lo17_1, lo17_2, nq17_3, f17_4, f17_5, f17_6, f17_7, f17_8⟩ := hQ17
  have N17 := Fr.app N15 N17q
  have O_K17 : Old Z n0 T17.heap := O_K15.keep K17 all0
  have Kp_K17 : Keep h0 T17.heap [] := Kp_K15.trans K17 all0
  replace X17 : Stand p l e R _ m args below meth c T17 _ (cells + 4) (slots + 10) := X17
  have z18 : h0.size ≤ b15_0 := Nat.le_trans (Keep.refl h0 []).1 lo15_1
  have z19 : h0.size ≤ b17_0 := Nat.le_trans Kp_K15.1 lo17_1
  have z20 : h0.size ≤ b15_1 := Nat.le_trans (Keep.refl h0 []).1 lo15_2
  have z21 : h0.size ≤ b17_1 := Nat.le_trans Kp_K15.1 lo17_2
  have ne22 : b15_0 ≠ b17_0 := Nat.ne_of_lt (Nat.lt_of_lt_of_le f15_4.lt lo17_1)
  have ne23 : b15_0 ≠ b17_1 := Nat.ne_of_lt (Nat.lt_of_lt_of_le f15_4.lt lo17_2)
  have ne24 : b15_1 ≠ b17_0 := Nat.ne_of_lt (Nat.lt_of_lt_of_le f15_8.lt lo17_1)
  have ne25 : b15_1 ≠ b17_1 := Nat.ne_of_lt (Nat.lt_of_lt_of_le f15_8.lt lo17_2)
  have f26 := (f15_4.keep K17)
  have f27 := (f15_5.keep K17 nin0)
  have f28 := (f15_6.keep K17 nin0)
  have f29 := (f15_7.keep K17 nin0)
  have f30 := (f15_8.keep K17)
  refine ⟨T17, _, _, b15_0, b17_0, b15_1, b17_1, k15_0, k17_0, X17.more (by omega) (by omega), rfl, N17, Kp_K17, z18, z19, z20, z21, ne22, nq15_3, ne23, (Ne.symm ne24), nq17_3, ne25, f26, f27, f28, f17_4, f17_5, f17_6, f29, f30, f17_7, f17_8, fun target kt => ?_⟩
  show St p e below T0 m 94 #[iv p1, iv p2, iv p3, iv p4, iv p5, iv p6, iv p7, iv p8, iv p9, iv p10, .unset, .unset, .unset, .unset, .unset, .unset, .unset, .unset, .unset] [] _
  refine XS.iloadN X0.here hx rfl (hb hby at_94) rfl ?_
  show St p e below T0 m 95 #[iv p1, iv p2, iv p3, iv p4, iv p5, iv p6, iv p7, iv p8, iv p9, iv p10, .unset, .unset, .unset, .unset, .unset, .unset, .unset, .unset, .unset] [(.int p2)] _
  refine XS.sipush X0.here hx rfl (hb hby at_95) ?_
  show St p e below T0 m 98 #[iv p1, iv p2, iv p3, iv p4, iv p5, iv p6, iv p7, iv p8, iv p9, iv p10, .unset, .unset, .unset, .unset, .unset, .unset, .unset, .unset, .unset] [(.int (255 : Int32)), (.int p2)] _
  refine XS.iand X0.here hx rfl (hb hby at_98) rfl ?_
  show St p e below T0 m 99 #[iv p1, iv p2, iv p3, iv p4, iv p5, iv p6, iv p7, iv p8, iv p9, iv p10, .unset, .unset, .unset, .unset, .unset, .unset, .unset, .unset, .unset] [(.int (p2 &&& (255 : Int32)))] _
  refine XS.i2c X0.here hx rfl (hb hby at_99) rfl ?_
  show St p e below T0 m 100 #[iv p1, iv p2, iv p3, iv p4, iv p5, iv p6, iv p7, iv p8, iv p9, iv p10, .unset, .unset, .unset, .unset, .unset, .unset, .unset, .unset, .unset] [(.int ((p2 &&& (255 : Int32)).toUInt32.toUInt16.toUInt32.toInt32))] _
  refine st15 _ ?_
  show St p e below T15 m 103 #[iv p1, iv p2, iv p3, iv p4, iv p5, iv p6, iv p7, iv p8, iv p9, iv p10, .unset, .unset, .unset, .unset, .unset, .unset, .unset, .unset, .unset] [(.ref b15_0)] _
  refine XS.astore X15.here hx rfl (hb hby at_103) rfl rfl (l' := #[iv p1, iv p2, iv p3, iv p4, iv p5, iv p6, iv p7, iv p8, iv p9, iv p10, rv b15_0, .unset, .unset, .unset, .unset, .unset, .unset, .unset, .unset]) rfl ?_
  show St p e below T15 m 105 #[iv p1, iv p2, iv p3, iv p4, iv p5, iv p6, iv p7, iv p8, iv p9, iv p10, rv b15_0, .unset, .unset, .unset, .unset, .unset, .unset, .unset, .unset] [] _
  refine XS.iloadN X15.here hx rfl (hb hby at_105) rfl ?_
  show St p e below T15 m 106 #[iv p1, iv p2, iv p3, iv p4, iv p5, iv p6, iv p7, iv p8, iv p9, iv p10, rv b15_0, .unset, .unset, .unset, .unset, .unset, .unset, .unset, .unset] [(.int p3)] _
  refine XS.sipush X15.here hx rfl (hb hby at_106) ?_
  show St p e below T15 m 109 #[iv p1, iv p2, iv p3, iv p4, iv p5, iv p6, iv p7, iv p8, iv p9, iv p10, rv b15_0, .unset, .unset, .unset, .unset, .unset, .unset, .unset, .unset] [(.int (255 : Int32)), (.int p3)] _
  refine XS.iand X15.here hx rfl (hb hby at_109) rfl ?_
  show St p e below T15 m 110 #[iv p1, iv p2, iv p3, iv p4, iv p5, iv p6, iv p7, iv p8, iv p9, iv p10, rv b15_0, .unset, .unset, .unset, .unset, .unset, .unset, .unset, .unset] [(.int (p3 &&& (255 : Int32)))] _
  refine XS.i2c X15.here hx rfl (hb hby at_110) rfl ?_
  show St p e below T15 m 111 #[iv p1, iv p2, iv p3, iv p4, iv p5, iv p6, iv p7, iv p8, iv p9, iv p10, rv b15_0, .unset, .unset, .unset, .unset, .unset, .unset, .unset, .unset] [(.int ((p3 &&& (255 : Int32)).toUInt32.toUInt16.toUInt32.toInt32))] _
  refine st17 _ ?_
  show St p e below T17 m 114 #[iv p1, iv p2, iv p3, iv p4, iv p5, iv p6, iv p7, iv p8, iv p9, iv p10, rv b15_0, .unset, .unset, .unset, .unset, .unset, .unset, .unset, .unset] [(.ref b17_0)] _
  refine XS.astore X17.here hx rfl (hb hby at_114) rfl rfl (l' := #[iv p1, iv p2, iv p3, iv p4, iv p5, iv p6, iv p7, iv p8, iv p9, iv p10, rv b15_0, rv b17_0, .unset, .unset, .unset, .unset, .unset, .unset, .unset]) rfl ?_
  exact kt
theorem d5_0 : decode jdk_32_method_1_code 0 = .ok (.getstatic 1, 3) := by decide +kernel
theorem d5_3 : decode jdk_32_method_1_code 3 = .ok (.astore_n 0, 1) := by decide +kernel
theorem d5_4 : decode jdk_32_method_1_code 4 = .ok (.aload_n 0, 1) := by decide +kernel
theorem d5_5 : decode jdk_32_method_1_code 5 = .ok (.areturn, 1) := by decide +kernel
abbrev y5 : MethodName := ⟨"java/util/Optional", "empty", "()Ljava/util/Optional;"⟩
theorem pn_java_util_Optional : plainName "java/util/Optional" = true := by first | (simp [plainName, overriddenIn]; done) | decide +kernel
def r5_1Q (Z : State) (a1 : Addr) (h0 : Heap) (n0 : Nat) (v : Option Value) (h : Heap) (L : List Loc) : Prop := v = some (.ref a1) ∧ Fr n0 L ∧ h = h0
theorem r5_1e (m : MethodId) (a1 : Addr) : entryFrame m #[] 1 = mkF m 0 #[.unset] [] := by first | (simp [entryFrame, mkF, argsToLocals, Value.category]; done) | rfl
set_option maxRecDepth 65536 in
set_option maxHeartbeats 40000000 in
theorem r5_1 (l : Launch) (Z : State) (a0 : Array Value) (hw : HW a0 Z) (ws : List Jvm.Cond) (a1 : Addr) (h0 : Heap) (n0 : Nat) (O0 : Old Z n0 h0) (H2 : Sta Z Z.heap "java/util/Optional" "EMPTY" "Ljava/util/Optional;" (.ref a1)) :
    MF l y5 jdk_32_method_1_code 1 (some (.object "java/util/Optional")) ws ({ frames := 0, cells := 0, slots := 0, locals := 0 } : Room) Z #[] h0 (r5_1Q Z a1 h0 n0) := by
  refine MetFree.of_bodySF (plainFor_of_name pn_java_util_Optional) hisR ?_
  intro p e s m args below meth c s₁ Bd hml0 hP hK
  obtain ⟨rfl, hZ, hh⟩ := hP
  have hx := Bd.exec
  have hby := Bd.bytes
  have hml : c.maxLocals = 1 := hml0
  have hown : s.vm.findClass "java/util/Optional" = some m.cls := findClass_of_methodNamed Bd.named
  have hnm := (name_of_methodNamed Bd.named Bd.method).1
  have X0 : Stand p l e ({ frames := 0, cells := 0, slots := 0, locals := 0 } : Room) s m #[] below meth c s₁ [] 0 0 := Stand.of_body Bd
  have e0 : s₁.heap = h0 := by rw [← hh, Bd.state]; rfl
  have N0 := Fr.nil n0
  have pre0 : ∀ t, Steps p.tables e below (s₁.setTop (mkF m 0 #[.unset] [])) t → Steps p.tables e below (s₁.setTop (entryFrame m #[] 1)) t := fun t k => castTop (r5_1e m a1) k
  obtain ⟨T3, X3, e3, st3⟩ := getS2 X0 hx hZ hown (host := "") (Or.inl (ow hw 30 rfl)) Via.refl e0 (H2.ext O0.2) (g := (mkF m 0 #[.unset] [])) rfl (hb hby d5_0)
  obtain ⟨fs, hr, hrun, hended, hW, hsame⟩ := X3.leave (v := some (.ref a1)) (fun h => by rw [Bd.returns] at h; cases h)
  refine ⟨_, _, pre0 _ ?_, hrun, hended, _, _, rfl, ?_, ⟨_, rfl⟩, hW, hsame.mono (by decide) (by decide)⟩
  · show St p e below s₁ m 0 #[.unset] [] _
    refine st3 _ ?_
    show St p e below T3 m 3 #[.unset] [(.ref a1)] _
    refine XS.astoreN X3.here hx rfl (hb hby d5_3) rfl rfl (l' := #[rv a1]) rfl ?_
    show St p e below T3 m 4 #[rv a1] [] _
    refine XS.aloadN X3.here hx rfl (hb hby d5_4) rfl rfl ?_
    show St p e below T3 m 5 #[rv a1] [(.ref a1)] _
    jvm_step X3.here [X3.here.top, hx, (hb hby d5_5), X3.method', Bd.returns, Value.isRef, FieldType.isReference]
    first | (intro acts; rw [hr _ acts rfl rfl rfl]) | rw [hr _ _ rfl rfl rfl]
    exact Steps.refl _
  · show r5_1Q Z a1 h0 n0 _ T3.heap _
    rw [e3]
    exact ⟨rfl, N0, rfl⟩
theorem pd___Ljava_util_Optional_ : parseMethodDescriptor "()Ljava/util/Optional;" = some ⟨[], some (.object "java/util/Optional")⟩ := by decide +kernel
set_option maxRecDepth 65536 in
set_option maxHeartbeats 40000000 in
theorem g0_3 {p : Program} {l : Launch} {e : Env} {R : Room} {s : State} {m : MethodId} {args : Array Value} {below : List Frame} {meth : Method} {c : Code} {T0 : State} {locs : List Loc} {cells slots : Nat} {Z : State} {a0 : Array Value} {h0 : Heap} {n0 : Nat} (p1 : Int32) (p2 : Int32) (p3 : Int32) (p4 : Int32) (p5 : Int32) (p6 : Int32) (p7 : Int32) (p8 : Int32) (p9 : Int32) (a10 : Addr) (a11 : Addr) (a12 : Addr)
    (X0 : Stand p l e R s m args below meth c T0 locs cells slots) (hx : p.tables.exec = Jvm.exec) (hZ : Z.Warmed39 s.vm) (hw : HW a0 Z) (hby : c.code = code) (hml : c.maxLocals = 19) (hown : s.vm.findClass "com/example/agave/agave/store/RequestStateOfPinLaw" = some m.cls) (e0 : T0.heap = h0) (O0 : Old Z n0 h0) (N0 : Fr n0 locs) (rc : cells + 0 ≤ R.cells) (rs : slots + 0 ≤ R.slots) (rf : 1 ≤ R.frames) (rl : 12 ≤ R.locals) (H13 : Sta Z Z.heap "java/util/Optional" "EMPTY" "Ljava/util/Optional;" (.ref a12)) :
    ∃ (T' : State) (L' : List Loc), Stand p l e R s m args below meth c T' L' (cells + 0) (slots + 0) ∧ T'.heap = h0 ∧ Fr n0 L' ∧
      ∀ target, St p e below T' m 133 #[iv p1, iv p2, iv p3, iv p4, iv p5, iv p6, iv (0 : Int32), iv p7, iv p8, iv p9, rv a10, rv a11, rv a12, .unset, .unset, .unset, .unset, .unset, .unset] [] target → St p e below T0 m 116 #[iv p1, iv p2, iv p3, iv p4, iv p5, iv p6, iv (0 : Int32), iv p7, iv p8, iv p9, rv a10, rv a11, .unset, .unset, .unset, .unset, .unset, .unset, .unset] [] target := by
  obtain ⟨_, _, ⟨T14, L14, k14, n14⟩, -, X14, ⟨Lc14, hQ14, l14, y14, z14⟩, st14⟩ := Jvm.LawKit.callS X0 hx (y := y5) hown (mvT hZ (ow hw 26 rfl)) (mvT hZ (ow hw 27 rfl)) (mvT hZ (ow hw 28 rfl)) (mvT hZ (ow hw 29 rfl)) (by decide) (backOf (W := 0) (r5_1 l Z a0 hw [] a12 h0 n0 O0 H13) hZ (ow hw 29 rfl) (ow hw 28 rfl) (by show 0 + 1 ≤ R.frames; omega) (by show 0 + (1 + 11) + 0 ≤ R.locals; omega)) (g := (mkF m 116 #[iv p1, iv p2, iv p3, iv p4, iv p5, iv p6, iv (0 : Int32), iv p7, iv p8, iv p9, rv a10, rv a11, .unset, .unset, .unset, .unset, .unset, .unset, .unset] [])) rfl (by rw [hml]; rfl) (argsL := []) (rest := []) (lenOf pd___Ljava_util_Optional_ rfl) rfl (by show 2 * 0 + _ ≤ _; exact Nat.le_of_eq rfl) (hb hby at_116) (fun _ _ => ⟨rfl, e0, (by show cells + 0 + 0 ≤ R.cells; omega), (by show slots + 0 + 0 ≤ R.slots; omega)⟩)
  dsimp only [Pt.U, Pt.locs, Pt.cells, Pt.slots] at X14 l14 y14 z14 st14 hQ14
  subst l14
  rw [y14, z14] at X14
  obtain ⟨rfl, N14q, e14⟩ := hQ14
  have N14 := Fr.app N0 N14q
  replace X14 : Stand p l e R _ m args below meth c T14 _ (cells + 0) (slots + 0) := X14
  refine ⟨T14, _, X14.more (by omega) (by omega), e14, N14, fun target kt => ?_⟩
  show St p e below T0 m 116 #[iv p1, iv p2, iv p3, iv p4, iv p5, iv p6, iv (0 : Int32), iv p7, iv p8, iv p9, rv a10, rv a11, .unset, .unset, .unset, .unset, .unset, .unset, .unset] [] _
  refine st14 _ ?_
  show St p e below T14 m 119 #[iv p1, iv p2, iv p3, iv p4, iv p5, iv p6, iv (0 : Int32), iv p7, iv p8, iv p9, rv a10, rv a11, .unset, .unset, .unset, .unset, .unset, .unset, .unset] [(.ref a12)] _
  refine XS.astore X14.here hx rfl (hb hby at_119) rfl rfl (l' := #[iv p1, iv p2, iv p3, iv p4, iv p5, iv p6, iv (0 : Int32), iv p7, iv p8, iv p9, rv a10, rv a11, rv a12, .unset, .unset, .unset, .unset, .unset, .unset]) rfl ?_
  show St p e below T14 m 121 #[iv p1, iv p2, iv p3, iv p4, iv p5, iv p6, iv (0 : Int32), iv p7, iv p8, iv p9, rv a10, rv a11, rv a12, .unset, .unset, .unset, .unset, .unset, .unset] [] _
  refine XS.iload X14.here hx rfl (hb hby at_121) rfl ?_
  show St p e below T14 m 123 #[iv p1, iv p2, iv p3, iv p4, iv p5, iv p6, iv (0 : Int32), iv p7, iv p8, iv p9, rv a10, rv a11, rv a12, .unset, .unset, .unset, .unset, .unset, .unset] [(.int (0 : Int32))] _
  refine XS.ifYes X14.here hx rfl (pc0 := 123) (pc' := 133) rfl (hb hby at_123) rfl ((if0 _ _).trans (teq (rfl : (0 : Int32) = (0 : Int32))).1) (by decide) (by decide) ?_
  exact kt
set_option maxRecDepth 65536 in
set_option maxHeartbeats 40000000 in
theorem g0_4 {p : Program} {l : Launch} {e : Env} {R : Room} {s : State} {m : MethodId} {args : Array Value} {below : List Frame} {meth : Method} {c : Code} {T0 : State} {locs : List Loc} {cells slots : Nat} {Z : State} {a0 : Array Value} {h0 : Heap} {n0 : Nat} (p1 : Int32) (p2 : Int32) (p3 : Int32) (p4 : Int32) (p5 : Int32) (p6 : Int32) (p7 : Int32) (p8 : Int32) (p9 : Int32) (a10 : Addr) (a11 : Addr) (a12 : Addr) (a13 : Addr)
    (X0 : Stand p l e R s m args below meth c T0 locs cells slots) (hx : p.tables.exec = Jvm.exec) (hZ : Z.Warmed39 s.vm) (hw : HW a0 Z) (hby : c.code = code) (hml : c.maxLocals = 19) (hown : s.vm.findClass "com/example/agave/agave/store/RequestStateOfPinLaw" = some m.cls) (e0 : T0.heap = h0) (O0 : Old Z n0 h0) (N0 : Fr n0 locs) (rc : cells + 0 ≤ R.cells) (rs : slots + 0 ≤ R.slots) (rf : 1 ≤ R.frames) (rl : 12 ≤ R.locals) (H14 : Sta Z Z.heap "java/util/Optional" "EMPTY" "Ljava/util/Optional;" (.ref a13)) :
    ∃ (T' : State) (L' : List Loc), Stand p l e R s m args below meth c T' L' (cells + 0) (slots + 0) ∧ T'.heap = h0 ∧ Fr n0 L' ∧
      ∀ target, St p e below T' m 150 #[iv p1, iv p2, iv p3, iv p4, iv p5, iv p6, iv p7, iv (0 : Int32), iv p8, iv p9, rv a10, rv a11, rv a12, rv a13, .unset, .unset, .unset, .unset, .unset] [] target → St p e below T0 m 133 #[iv p1, iv p2, iv p3, iv p4, iv p5, iv p6, iv p7, iv (0 : Int32), iv p8, iv p9, rv a10, rv a11, rv a12, .unset, .unset, .unset, .unset, .unset, .unset] [] target := by
  obtain ⟨_, _, ⟨T15, L15, k15, n15⟩, -, X15, ⟨Lc15, hQ15, l15, y15, z15⟩, st15⟩ := Jvm.LawKit.callS X0 hx (y := y5) hown (mvT hZ (ow hw 26 rfl)) (mvT hZ (ow hw 27 rfl)) (mvT hZ (ow hw 28 rfl)) (mvT hZ (ow hw 29 rfl)) (by decide) (backOf (W := 0) (r5_1 l Z a0 hw [] a13 h0 n0 O0 H14) hZ (ow hw 29 rfl) (ow hw 28 rfl) (by show 0 + 1 ≤ R.frames; omega) (by show 0 + (1 + 11) + 0 ≤ R.locals; omega)) (g := (mkF m 133 #[iv p1, iv p2, iv p3, iv p4, iv p5, iv p6, iv p7, iv (0 : Int32), iv p8, iv p9, rv a10, rv a11, rv a12, .unset, .unset, .unset, .unset, .unset, .unset] [])) rfl (by rw [hml]; rfl) (argsL := []) (rest := []) (lenOf pd___Ljava_util_Optional_ rfl) rfl (by show 2 * 0 + _ ≤ _; exact Nat.le_of_eq rfl) (hb hby at_133) (fun _ _ => ⟨rfl, e0, (by show cells + 0 + 0 ≤ R.cells; omega), (by show slots + 0 + 0 ≤ R.slots; omega)⟩)
  dsimp only [Pt.U, Pt.locs, Pt.cells, Pt.slots] at X15 l15 y15 z15 st15 hQ15
  subst l15
  rw [y15, z15] at X15
  obtain ⟨rfl, N15q, e15⟩ := hQ15
  have N15 := Fr.app N0 N15q
  replace X15 : Stand p l e R _ m args below meth c T15 _ (cells + 0) (slots + 0) := X15
  refine ⟨T15, _, X15.more (by omega) (by omega), e15, N15, fun target kt => ?_⟩
  show St p e below T0 m 133 #[iv p1, iv p2, iv p3, iv p4, iv p5, iv p6, iv p7, iv (0 : Int32), iv p8, iv p9, rv a10, rv a11, rv a12, .unset, .unset, .unset, .unset, .unset, .unset] [] _
  refine st15 _ ?_
  show St p e below T15 m 136 #[iv p1, iv p2, iv p3, iv p4, iv p5, iv p6, iv p7, iv (0 : Int32), iv p8, iv p9, rv a10, rv a11, rv a12, .unset, .unset, .unset, .unset, .unset, .unset] [(.ref a13)] _
  refine XS.astore X15.here hx rfl (hb hby at_136) rfl rfl (l' := #[iv p1, iv p2, iv p3, iv p4, iv p5, iv p6, iv p7, iv (0 : Int32), iv p8, iv p9, rv a10, rv a11, rv a12, rv a13, .unset, .unset, .unset, .unset, .unset]) rfl ?_
  show St p e below T15 m 138 #[iv p1, iv p2, iv p3, iv p4, iv p5, iv p6, iv p7, iv (0 : Int32), iv p8, iv p9, rv a10, rv a11, rv a12, rv a13, .unset, .unset, .unset, .unset, .unset] [] _
  refine XS.iload X15.here hx rfl (hb hby at_138) rfl ?_
  show St p e below T15 m 140 #[iv p1, iv p2, iv p3, iv p4, iv p5, iv p6, iv p7, iv (0 : Int32), iv p8, iv p9, rv a10, rv a11, rv a12, rv a13, .unset, .unset, .unset, .unset, .unset] [(.int (0 : Int32))] _
  refine XS.ifYes X15.here hx rfl (pc0 := 140) (pc' := 150) rfl (hb hby at_140) rfl ((if0 _ _).trans (teq (rfl : (0 : Int32) = (0 : Int32))).1) (by decide) (by decide) ?_
  exact kt
set_option maxRecDepth 65536 in
set_option maxHeartbeats 40000000 in
theorem g0_5 {p : Program} {l : Launch} {e : Env} {R : Room} {s : State} {m : MethodId} {args : Array Value} {below : List Frame} {meth : Method} {c : Code} {T0 : State} {locs : List Loc} {cells slots : Nat} {Z : State} {a0 : Array Value} {h0 : Heap} {n0 : Nat} (p1 : Int32) (p2 : Int32) (p3 : Int32) (p4 : Int32) (p5 : Int32) (p6 : Int32) (p7 : Int32) (p8 : Int32) (p9 : Int32) (p10 : Int32) (a11 : Addr) (a12 : Addr) (a13 : Addr) (a14 : Addr) (a15 : Addr)
    (X0 : Stand p l e R s m args below meth c T0 locs cells slots) (hx : p.tables.exec = Jvm.exec) (hZ : Z.Warmed39 s.vm) (hw : HW a0 Z) (hby : c.code = code) (hml : c.maxLocals = 19) (hown : s.vm.findClass "com/example/agave/agave/store/RequestStateOfPinLaw" = some m.cls) (e0 : T0.heap = h0) (O0 : Old Z n0 h0) (N0 : Fr n0 locs) (rc : cells + 0 ≤ R.cells) (rs : slots + 0 ≤ R.slots) (rf : 1 ≤ R.frames) (rl : 12 ≤ R.locals) (H16 : Sta Z Z.heap "java/util/Optional" "EMPTY" "Ljava/util/Optional;" (.ref a15)) (hq : p10 = (0 : Int32)) :
    ∃ (T' : State) (L' : List Loc), Stand p l e R s m args below meth c T' L' (cells + 0) (slots + 0) ∧ T'.heap = h0 ∧ Fr n0 L' ∧
      ∀ target, St p e below T' m 169 #[iv p1, iv p2, iv p3, iv p4, iv p5, iv p6, iv p7, iv p8, iv p9, iv p10, rv a11, rv a12, rv a13, rv a14, rv a15, .unset, .unset, .unset, .unset] [] target → St p e below T0 m 150 #[iv p1, iv p2, iv p3, iv p4, iv p5, iv p6, iv p7, iv p8, iv p9, iv p10, rv a11, rv a12, rv a13, rv a14, .unset, .unset, .unset, .unset, .unset] [] target := by
  obtain ⟨_, _, ⟨T17, L17, k17, n17⟩, -, X17, ⟨Lc17, hQ17, l17, y17, z17⟩, st17⟩ := Jvm.LawKit.callS X0 hx (y := y5) hown (mvT hZ (ow hw 26 rfl)) (mvT hZ (ow hw 27 rfl)) (mvT hZ (ow hw 28 rfl)) (mvT hZ (ow hw 29 rfl)) (by decide) (backOf (W := 0) (r5_1 l Z a0 hw [] a15 h0 n0 O0 H16) hZ (ow hw 29 rfl) (ow hw 28 rfl) (by show 0 + 1 ≤ R.frames; omega) (by show 0 + (1 + 11) + 0 ≤ R.locals; omega)) (g := (mkF m 150 #[iv p1, iv p2, iv p3, iv p4, iv p5, iv p6, iv p7, iv p8, iv p9, iv p10, rv a11, rv a12, rv a13, rv a14, .unset, .unset, .unset, .unset, .unset] [])) rfl (by rw [hml]; rfl) (argsL := []) (rest := []) (lenOf pd___Ljava_util_Optional_ rfl) rfl (by show 2 * 0 + _ ≤ _; exact Nat.le_of_eq rfl) (hb hby at_150) (fun _ _ => ⟨rfl, e0, (by show cells + 0 + 0 ≤ R.cells; omega), (by show slots + 0 + 0 ≤ R.slots; omega)⟩)
  dsimp only [Pt.U, Pt.locs, Pt.cells, Pt.slots] at X17 l17 y17 z17 st17 hQ17
  subst l17
  rw [y17, z17] at X17
  obtain ⟨rfl, N17q, e17⟩ := hQ17
  have N17 := Fr.app N0 N17q
  replace X17 : Stand p l e R _ m args below meth c T17 _ (cells + 0) (slots + 0) := X17
  refine ⟨T17, _, X17.more (by omega) (by omega), e17, N17, fun target kt => ?_⟩
  show St p e below T0 m 150 #[iv p1, iv p2, iv p3, iv p4, iv p5, iv p6, iv p7, iv p8, iv p9, iv p10, rv a11, rv a12, rv a13, rv a14, .unset, .unset, .unset, .unset, .unset] [] _
  refine st17 _ ?_
  show St p e below T17 m 153 #[iv p1, iv p2, iv p3, iv p4, iv p5, iv p6, iv p7, iv p8, iv p9, iv p10, rv a11, rv a12, rv a13, rv a14, .unset, .unset, .unset, .unset, .unset] [(.ref a15)] _
  refine XS.astore X17.here hx rfl (hb hby at_153) rfl rfl (l' := #[iv p1, iv p2, iv p3, iv p4, iv p5, iv p6, iv p7, iv p8, iv p9, iv p10, rv a11, rv a12, rv a13, rv a14, rv a15, .unset, .unset, .unset, .unset]) rfl ?_
  show St p e below T17 m 155 #[iv p1, iv p2, iv p3, iv p4, iv p5, iv p6, iv p7, iv p8, iv p9, iv p10, rv a11, rv a12, rv a13, rv a14, rv a15, .unset, .unset, .unset, .unset] [] _
  refine XS.iload X17.here hx rfl (hb hby at_155) rfl ?_
  show St p e below T17 m 157 #[iv p1, iv p2, iv p3, iv p4, iv p5, iv p6, iv p7, iv p8, iv p9, iv p10, rv a11, rv a12, rv a13, rv a14, rv a15, .unset, .unset, .unset, .unset] [(.int p10)] _
  refine XS.ifYes X17.here hx rfl (pc0 := 157) (pc' := 169) rfl (hb hby at_157) rfl ((if0 _ _).trans (teq hq).1) (by decide) (by decide) ?_
  exact kt
theorem d6_0 : decode jdk_33_method_22_code 0 = .ok (.iload_n 0, 1) := by decide +kernel
theorem d6_1 : decode jdk_33_method_22_code 1 = .ok (.bipush (-128), 2) := by decide +kernel
theorem d6_3 : decode jdk_33_method_22_code 3 = .ok (.if_icmp .lt 20, 3) := by decide +kernel
theorem d6_23 : decode jdk_33_method_22_code 23 = .ok (.new 1, 3) := by decide +kernel
theorem d6_26 : decode jdk_33_method_22_code 26 = .ok (.dup, 1) := by decide +kernel
theorem d6_27 : decode jdk_33_method_22_code 27 = .ok (.iload_n 0, 1) := by decide +kernel
theorem d6_28 : decode jdk_33_method_22_code 28 = .ok (.invokespecial 199, 3) := by decide +kernel
theorem d7_0 : decode jdk_33_method_23_code 0 = .ok (.aload_n 0, 1) := by decide +kernel
theorem d7_1 : decode jdk_33_method_23_code 1 = .ok (.invokespecial 202, 3) := by decide +kernel
theorem d8_0 : decode jdk_18_method_1_code 0 = .ok (.aload_n 0, 1) := by decide +kernel
theorem d8_1 : decode jdk_18_method_1_code 1 = .ok (.invokespecial 1, 3) := by decide +kernel
theorem d8_4 : decode jdk_18_method_1_code 4 = .ok (.return_, 1) := by decide +kernel
abbrev y8 : MethodName := ⟨"java/lang/Number", "<init>", "()V"⟩
theorem pn_java_lang_Number : plainName "java/lang/Number" = true := by first | (simp [plainName, overriddenIn]; done) | decide +kernel
def r8_1Q (Z : State) (a1 : Addr) (h0 : Heap) (n0 : Nat) (v : Option Value) (h : Heap) (L : List Loc) : Prop := v = none ∧ Fr n0 L ∧ h = h0
theorem r8_1e (m : MethodId) (a1 : Addr) : entryFrame m #[(.ref a1)] 1 = mkF m 0 #[rv a1] [] := by first | (simp [entryFrame, mkF, argsToLocals, Value.category]; done) | rfl
set_option maxRecDepth 65536 in
set_option maxHeartbeats 40000000 in
theorem r8_1 (l : Launch) (Z : State) (a0 : Array Value) (hw : HW a0 Z) (ws : List Jvm.Cond) (a1 : Addr) (h0 : Heap) (n0 : Nat) (O0 : Old Z n0 h0) :
    MF l y8 jdk_18_method_1_code 1 none ws ({ frames := 1, cells := 0, slots := 0, locals := 12 } : Room) Z #[(.ref a1)] h0 (r8_1Q Z a1 h0 n0) := by
  refine MetFree.of_bodySF (plainFor_of_name pn_java_lang_Number) hisR ?_
  intro p e s m args below meth c s₁ Bd hml0 hP hK
  obtain ⟨rfl, hZ, hh⟩ := hP
  have hx := Bd.exec
  have hby := Bd.bytes
  have hml : c.maxLocals = 1 := hml0
  have hown : s.vm.findClass "java/lang/Number" = some m.cls := findClass_of_methodNamed Bd.named
  have hnm := (name_of_methodNamed Bd.named Bd.method).1
  have X0 : Stand p l e ({ frames := 1, cells := 0, slots := 0, locals := 12 } : Room) s m #[(.ref a1)] below meth c s₁ [] 0 0 := Stand.of_body Bd
  have e0 : s₁.heap = h0 := by rw [← hh, Bd.state]; rfl
  have N0 := Fr.nil n0
  have pre0 : ∀ t, Steps p.tables e below (s₁.setTop (mkF m 0 #[rv a1] [])) t → Steps p.tables e below (s₁.setTop (entryFrame m #[(.ref a1)] 1)) t := fun t k => castTop (r8_1e m a1) k
  obtain ⟨T2, X2, e2, st2⟩ := initO X0 hx hZ hown (ow hw 149 rfl) (ow hw 20 rfl) (ow hw 21 rfl) e0 (g := (mkF m 1 #[rv a1] [(.ref a1)])) rfl (by rw [hml]; rfl) rfl (hb hby d8_1) (by decide) (W := 0) (by show 2 * 0 + _ ≤ _; exact Nat.le_of_eq rfl) (by decide)
  obtain ⟨fs, hr, hrun, hended, hW, hsame⟩ := X2.leave (v := none) (fun _ => rfl)
  refine ⟨_, _, pre0 _ ?_, hrun, hended, _, _, rfl, ?_, ⟨_, rfl⟩, hW, hsame.mono (by decide) (by decide)⟩
  · show St p e below s₁ m 0 #[rv a1] [] _
    refine XS.aloadN X0.here hx rfl (hb hby d8_0) rfl rfl ?_
    show St p e below s₁ m 1 #[rv a1] [(.ref a1)] _
    refine st2 _ ?_
    show St p e below T2 m 4 #[rv a1] [] _
    exact X2.returnOut hx Bd.returns (hb hby d8_4) hr
  · show r8_1Q Z a1 h0 n0 _ T2.heap _
    rw [e2]
    exact ⟨rfl, N0, rfl⟩
theorem pd___V : parseMethodDescriptor "()V" = some ⟨[], none⟩ := by decide +kernel
theorem d7_4 : decode jdk_33_method_23_code 4 = .ok (.aload_n 0, 1) := by decide +kernel
theorem d7_5 : decode jdk_33_method_23_code 5 = .ok (.iload_n 1, 1) := by decide +kernel
theorem d7_6 : decode jdk_33_method_23_code 6 = .ok (.putfield 205, 3) := by decide +kernel
theorem d7_9 : decode jdk_33_method_23_code 9 = .ok (.return_, 1) := by decide +kernel
abbrev y7 : MethodName := ⟨"java/lang/Integer", "<init>", "(I)V"⟩
theorem pn_java_lang_Integer : plainName "java/lang/Integer" = true := by first | (simp [plainName, overriddenIn]; done) | decide +kernel
def r7_1Q (Z : State) (a1 : Addr) (p2 : Int32) (h0 : Heap) (n0 : Nat) (v : Option Value) (h : Heap) (L : List Loc) : Prop := v = none ∧ Fr n0 L ∧ Keep h0 h [a1] ∧ Fld Z h a1 "java/lang/Integer" "value" "I" (.int p2) ∧ Exa Z h a1 "java/lang/Integer"
theorem r7_1e (m : MethodId) (a1 : Addr) (p2 : Int32) : entryFrame m #[(.ref a1), (.int p2)] 2 = mkF m 0 #[rv a1, iv p2] [] := by first | (simp [entryFrame, mkF, argsToLocals, Value.category]; done) | rfl
set_option maxRecDepth 65536 in
set_option maxHeartbeats 40000000 in
theorem r7_1 (l : Launch) (Z : State) (a0 : Array Value) (hw : HW a0 Z) (ws : List Jvm.Cond) (a1 : Addr) (p2 : Int32) (h0 : Heap) (n0 : Nat) (O0 : Old Z n0 h0) (H4 : Fld Z h0 a1 "java/lang/Integer" "value" "I" (.int (0 : Int32))) (H5 : Exa Z h0 a1 "java/lang/Integer") (H7 : n0 ≤ a1) :
    MF l y7 jdk_33_method_23_code 2 none ws ({ frames := 2, cells := 0, slots := 0, locals := 24 } : Room) Z #[(.ref a1), (.int p2)] h0 (r7_1Q Z a1 p2 h0 n0) := by
  refine MetFree.of_bodySF (plainFor_of_name pn_java_lang_Integer) hisR ?_
  intro p e s m args below meth c s₁ Bd hml0 hP hK
  obtain ⟨rfl, hZ, hh⟩ := hP
  have hx := Bd.exec
  have hby := Bd.bytes
  have hml : c.maxLocals = 2 := hml0
  have hown : s.vm.findClass "java/lang/Integer" = some m.cls := findClass_of_methodNamed Bd.named
  have hnm := (name_of_methodNamed Bd.named Bd.method).1
  have X0 : Stand p l e ({ frames := 2, cells := 0, slots := 0, locals := 24 } : Room) s m #[(.ref a1), (.int p2)] below meth c s₁ [] 0 0 := Stand.of_body Bd
  have e0 : s₁.heap = h0 := by rw [← hh, Bd.state]; rfl
  have N0 := Fr.nil n0
  have pre0 : ∀ t, Steps p.tables e below (s₁.setTop (mkF m 0 #[rv a1, iv p2] [])) t → Steps p.tables e below (s₁.setTop (entryFrame m #[(.ref a1), (.int p2)] 2)) t := fun t k => castTop (r7_1e m a1 p2) k
  obtain ⟨_, _, ⟨T3, L3, k3, n3⟩, -, X3, ⟨Lc3, hQ3, l3, y3, z3⟩, st3⟩ := X0.specialBack hx (y := y8) rfl hown (mvT hZ (ow hw 143 rfl)) (mvT hZ (ow hw 144 rfl)) (mvT hZ (ow hw 148 rfl)) (by decide) (backOf (W := 0) (r8_1 l Z a0 hw [] a1 h0 n0 O0) hZ (ow hw 148 rfl) (ow hw 147 rfl) (by decide) (by decide)) (g := (mkF m 1 #[rv a1, iv p2] [(.ref a1)])) rfl (by rw [hml]; rfl) (Steps.refl _) (a := a1) (argsL := []) (rest := []) (lenOf pd___V rfl) rfl (by show 2 * 0 + _ ≤ _; exact Nat.le_of_eq rfl) (hb hby d7_1) (fun _ _ => ⟨rfl, e0, (by decide : 0 + 0 ≤ _), (by decide : 0 + 0 ≤ _)⟩)
  dsimp only [Pt.U, Pt.locs, Pt.cells, Pt.slots] at X3 l3 y3 z3 st3 hQ3
  subst l3 y3 z3
  obtain ⟨rfl, N3q, e3⟩ := hQ3
  have N3 := Fr.app N0 N3q
  obtain ⟨T6, h6, X6, e6, W6, st6⟩ := putF X3 hx hZ hown (host := "") (Or.inl (ow hw 150 rfl)) Via.refl e3 H4 H5 (Or.inr ⟨(ow hw 151 rfl), rfl, hnm⟩) (ow hw 138 rfl) (ty := .int) (by decide) rfl rfl (g := (mkF m 6 #[rv a1, iv p2] [(.int p2), (.ref a1)])) rfl rfl (hb hby d7_6)
  have O_W6 : Old Z n0 h6 := O0.wr W6 H7
  have Kp_W6 : Keep h0 h6 [a1] := (Keep.refl h0 [a1]).wr W6 (Or.inl (List.mem_of_getElem? (i := 0) rfl))
  have N8 := Fr.snoc X6 N3 H7
  have f9 := H4.same W6
  have f10 := (H5.wr W6)
  obtain ⟨fs, hr, hrun, hended, hW, hsame⟩ := X6.leave (v := none) (fun _ => rfl)
  refine ⟨_, _, pre0 _ ?_, hrun, hended, _, _, rfl, ?_, ⟨_, rfl⟩, hW, hsame.mono (by decide) (by decide)⟩
  · show St p e below s₁ m 0 #[rv a1, iv p2] [] _
    refine XS.aloadN X0.here hx rfl (hb hby d7_0) rfl rfl ?_
    show St p e below s₁ m 1 #[rv a1, iv p2] [(.ref a1)] _
    refine st3.trans ?_
    show St p e below T3 m 4 #[rv a1, iv p2] [] _
    refine XS.aloadN X3.here hx rfl (hb hby d7_4) rfl rfl ?_
    show St p e below T3 m 5 #[rv a1, iv p2] [(.ref a1)] _
    refine XS.iloadN X3.here hx rfl (hb hby d7_5) rfl ?_
    show St p e below T3 m 6 #[rv a1, iv p2] [(.int p2), (.ref a1)] _
    refine st6 _ ?_
    show St p e below T6 m 9 #[rv a1, iv p2] [] _
    exact X6.returnOut hx Bd.returns (hb hby d7_9) hr
  · show r7_1Q Z a1 p2 h0 n0 _ T6.heap _
    rw [e6]
    exact ⟨rfl, N8, Kp_W6, f9, f10⟩
theorem pd__I_V : parseMethodDescriptor "(I)V" = some ⟨[.int], none⟩ := by decide +kernel
theorem d6_31 : decode jdk_33_method_22_code 31 = .ok (.areturn, 1) := by decide +kernel
theorem d6_6 : decode jdk_33_method_22_code 6 = .ok (.iload_n 0, 1) := by decide +kernel
theorem d6_7 : decode jdk_33_method_22_code 7 = .ok (.getstatic 191, 3) := by decide +kernel
theorem d6_10 : decode jdk_33_method_22_code 10 = .ok (.if_icmp .gt 13, 3) := by decide +kernel
abbrev y6 : MethodName := ⟨"java/lang/Integer", "valueOf", "(I)Ljava/lang/Integer;"⟩
def r6_1Q (Z : State) (p1 : Int32) (h0 : Heap) (n0 : Nat) (v : Option Value) (h : Heap) (L : List Loc) : Prop := ∃ r : Addr, v = some (.ref r) ∧ Fr n0 L ∧ Keep h0 h []
theorem r6_1e (m : MethodId) (p1 : Int32) : entryFrame m #[(.int p1)] 1 = mkF m 0 #[iv p1] [] := by first | (simp [entryFrame, mkF, argsToLocals, Value.category]; done) | rfl
set_option maxRecDepth 65536 in
set_option maxHeartbeats 40000000 in
theorem r6_1 (l : Launch) (Z : State) (a0 : Array Value) (hw : HW a0 Z) (ws : List Jvm.Cond) (p1 : Int32) (h0 : Heap) (n0 : Nat) (O0 : Old Z n0 h0) (hc2 : p1 < (-128 : Int32)) :
    MF l y6 jdk_33_method_22_code 1 (some (.object "java/lang/Integer")) ws ({ frames := 3, cells := 1, slots := 1, locals := 38 } : Room) Z #[(.int p1)] h0 (r6_1Q Z p1 h0 n0) := by
  refine MetFree.of_bodySF (plainFor_of_name pn_java_lang_Integer) hisR ?_
  intro p e s m args below meth c s₁ Bd hml0 hP hK
  obtain ⟨rfl, hZ, hh⟩ := hP
  have hx := Bd.exec
  have hby := Bd.bytes
  have hml : c.maxLocals = 1 := hml0
  have hown : s.vm.findClass "java/lang/Integer" = some m.cls := findClass_of_methodNamed Bd.named
  have hnm := (name_of_methodNamed Bd.named Bd.method).1
  have X0 : Stand p l e ({ frames := 3, cells := 1, slots := 1, locals := 38 } : Room) s m #[(.int p1)] below meth c s₁ [] 0 0 := Stand.of_body Bd
  have e0 : s₁.heap = h0 := by rw [← hh, Bd.state]; rfl
  have N0 := Fr.nil n0
  have pre0 : ∀ t, Steps p.tables e below (s₁.setTop (mkF m 0 #[iv p1] [])) t → Steps p.tables e below (s₁.setTop (entryFrame m #[(.int p1)] 1)) t := fun t k => castTop (r6_1e m p1) k
  obtain ⟨T3, h3, X3, e3, E3, A3, D3, -, st3⟩ := newO X0 hx hZ hown (ow hw 137 rfl) (ow hw 138 rfl) (ow hw 129 rfl) e0 (g := (mkF m 23 #[iv p1] [])) rfl (hb hby d6_23) (by decide) (by decide)
  obtain ⟨b3, g3⟩ : ∃ z, z = h0.size := ⟨_, rfl⟩
  rw [← g3] at A3 D3 st3
  have O_E3 : Old Z n0 h3 := O0.ext E3
  have Kp_E3 : Keep h0 h3 [] := (Keep.refl h0 []).ext E3
  have f4 : Fld Z h3 b3 "java/lang/Integer" "value" "I" (.int (0 : Int32)) := D3 (Or.inr (ow hw 151 rfl)) (ty := .int) (by decide)
  have g5 : n0 ≤ b3 := Nat.le_trans (Nat.le_trans (Nat.le_of_eq O0.1.symm) O0.2.1) (Nat.le_of_eq g3.symm)
  obtain ⟨_, _, ⟨T6, L6, k6, n6⟩, -, X6, ⟨Lc6, hQ6, l6, y6, z6⟩, st6⟩ := X3.specialBack hx (y := y7) rfl hown (mvT hZ (ow hw 139 rfl)) (mvT hZ (ow hw 140 rfl)) (mvT hZ (ow hw 142 rfl)) (by decide) (backOf (W := 1) (r7_1 l Z a0 hw [] b3 p1 h3 n0 O_E3 f4 A3 g5) hZ (ow hw 142 rfl) (ow hw 129 rfl) (by decide) (by decide)) (g := (mkF m 28 #[iv p1] [(.int p1), (.ref b3), (.ref b3)])) rfl (by rw [hml]; rfl) (Steps.refl _) (a := b3) (argsL := [(.int p1)]) (rest := [(.ref b3)]) (lenOf pd__I_V rfl) rfl (by show 2 * 0 + _ ≤ _; exact Nat.le_of_eq rfl) (hb hby d6_28) (fun _ _ => ⟨rfl, e3, (by decide : 1 + 0 ≤ _), (by decide : 1 + 0 ≤ _)⟩)
  dsimp only [Pt.U, Pt.locs, Pt.cells, Pt.slots] at X6 l6 y6 z6 st6 hQ6
  subst l6 y6 z6
  obtain ⟨rfl, N6q, K6, f6_1, f6_2⟩ := hQ6
  have N6 := Fr.app N0 N6q
  have z7 : h0.size ≤ b3 := Nat.le_trans (Keep.refl h0 []).1 (Nat.le_of_eq g3.symm)
  have O_K6 : Old Z n0 T6.heap := O_E3.keep K6 (allS g5 all0)
  have Kp_K6 : Keep h0 T6.heap [] := Kp_E3.trans K6 (allS (Or.inr z7) all0)
  obtain ⟨fs, hr, hrun, hended, hW, hsame⟩ := X6.leave (v := some (.ref b3)) (fun h => by rw [Bd.returns] at h; cases h)
  refine ⟨_, _, pre0 _ ?_, hrun, hended, _, _, rfl, ?_, ⟨_, rfl⟩, hW, hsame.mono (by decide) (by decide)⟩
  · show St p e below s₁ m 0 #[iv p1] [] _
    refine XS.iloadN X0.here hx rfl (hb hby d6_0) rfl ?_
    show St p e below s₁ m 1 #[iv p1] [(.int p1)] _
    refine XS.bipush X0.here hx rfl (hb hby d6_1) ?_
    show St p e below s₁ m 3 #[iv p1] [(.int (-128 : Int32)), (.int p1)] _
    refine XS.icmpYes X0.here hx rfl (pc0 := 3) (pc' := 23) rfl (hb hby d6_3) rfl (tlt hc2).1 (by decide) (by decide) ?_
    show St p e below s₁ m 23 #[iv p1] [] _
    refine st3 _ ?_
    show St p e below T3 m 26 #[iv p1] [(.ref b3)] _
    refine XS.dup X3.here hx rfl (hb hby d6_26) rfl rfl ?_
    show St p e below T3 m 27 #[iv p1] [(.ref b3), (.ref b3)] _
    refine XS.iloadN X3.here hx rfl (hb hby d6_27) rfl ?_
    show St p e below T3 m 28 #[iv p1] [(.int p1), (.ref b3), (.ref b3)] _
    refine st6.trans ?_
    show St p e below T6 m 31 #[iv p1] [(.ref b3)] _
    jvm_step X6.here [X6.here.top, hx, (hb hby d6_31), X6.method', Bd.returns, Value.isRef, FieldType.isReference]
    first | (intro acts; rw [hr _ acts rfl rfl rfl]) | rw [hr _ _ rfl rfl rfl]
    exact Steps.refl _
  · show r6_1Q Z p1 h0 n0 _ T6.heap _
    exact ⟨b3, rfl, N6, Kp_K6⟩
def r6_2Q (Z : State) (p1 : Int32) (h0 : Heap) (n0 : Nat) (v : Option Value) (h : Heap) (L : List Loc) : Prop := ∃ r : Addr, v = some (.ref r) ∧ Fr n0 L ∧ Keep h0 h []
theorem r6_2e (m : MethodId) (p1 : Int32) : entryFrame m #[(.int p1)] 1 = mkF m 0 #[iv p1] [] := by first | (simp [entryFrame, mkF, argsToLocals, Value.category]; done) | rfl
set_option maxRecDepth 65536 in
set_option maxHeartbeats 40000000 in
theorem r6_2 (l : Launch) (Z : State) (a0 : Array Value) (hw : HW a0 Z) (ws : List Jvm.Cond) (p1 : Int32) (h0 : Heap) (n0 : Nat) (O0 : Old Z n0 h0) (hc2 : ¬ (p1 < (-128 : Int32))) (H3 : Sta Z Z.heap "java/lang/Integer$IntegerCache" "high" "I" (.int (127 : Int32))) (hc5 : (127 : Int32) < p1) :
    MF l y6 jdk_33_method_22_code 1 (some (.object "java/lang/Integer")) ws ({ frames := 3, cells := 1, slots := 1, locals := 38 } : Room) Z #[(.int p1)] h0 (r6_2Q Z p1 h0 n0) := by
  refine MetFree.of_bodySF (plainFor_of_name pn_java_lang_Integer) hisR ?_
  intro p e s m args below meth c s₁ Bd hml0 hP hK
  obtain ⟨rfl, hZ, hh⟩ := hP
  have hx := Bd.exec
  have hby := Bd.bytes
  have hml : c.maxLocals = 1 := hml0
  have hown : s.vm.findClass "java/lang/Integer" = some m.cls := findClass_of_methodNamed Bd.named
  have hnm := (name_of_methodNamed Bd.named Bd.method).1
  have X0 : Stand p l e ({ frames := 3, cells := 1, slots := 1, locals := 38 } : Room) s m #[(.int p1)] below meth c s₁ [] 0 0 := Stand.of_body Bd
  have e0 : s₁.heap = h0 := by rw [← hh, Bd.state]; rfl
  have N0 := Fr.nil n0
  have pre0 : ∀ t, Steps p.tables e below (s₁.setTop (mkF m 0 #[iv p1] [])) t → Steps p.tables e below (s₁.setTop (entryFrame m #[(.int p1)] 1)) t := fun t k => castTop (r6_2e m p1) k
  obtain ⟨T4, X4, e4, st4⟩ := getS2 X0 hx hZ hown (host := "") (Or.inl (ow hw 131 rfl)) Via.refl e0 (H3.ext O0.2) (g := (mkF m 7 #[iv p1] [(.int p1)])) rfl (hb hby d6_7)
  obtain ⟨T6, h6, X6, e6, E6, A6, D6, -, st6⟩ := newO X4 hx hZ hown (ow hw 137 rfl) (ow hw 138 rfl) (ow hw 129 rfl) e4 (g := (mkF m 23 #[iv p1] [])) rfl (hb hby d6_23) (by decide) (by decide)
  obtain ⟨b6, g6⟩ : ∃ z, z = h0.size := ⟨_, rfl⟩
  rw [← g6] at A6 D6 st6
  have O_E6 : Old Z n0 h6 := O0.ext E6
  have Kp_E6 : Keep h0 h6 [] := (Keep.refl h0 []).ext E6
  have f7 : Fld Z h6 b6 "java/lang/Integer" "value" "I" (.int (0 : Int32)) := D6 (Or.inr (ow hw 151 rfl)) (ty := .int) (by decide)
  have g8 : n0 ≤ b6 := Nat.le_trans (Nat.le_trans (Nat.le_of_eq O0.1.symm) O0.2.1) (Nat.le_of_eq g6.symm)
  obtain ⟨_, _, ⟨T9, L9, k9, n9⟩, -, X9, ⟨Lc9, hQ9, l9, y9, z9⟩, st9⟩ := X6.specialBack hx (y := y7) rfl hown (mvT hZ (ow hw 139 rfl)) (mvT hZ (ow hw 140 rfl)) (mvT hZ (ow hw 142 rfl)) (by decide) (backOf (W := 1) (r7_1 l Z a0 hw [] b6 p1 h6 n0 O_E6 f7 A6 g8) hZ (ow hw 142 rfl) (ow hw 129 rfl) (by decide) (by decide)) (g := (mkF m 28 #[iv p1] [(.int p1), (.ref b6), (.ref b6)])) rfl (by rw [hml]; rfl) (Steps.refl _) (a := b6) (argsL := [(.int p1)]) (rest := [(.ref b6)]) (lenOf pd__I_V rfl) rfl (by show 2 * 0 + _ ≤ _; exact Nat.le_of_eq rfl) (hb hby d6_28) (fun _ _ => ⟨rfl, e6, (by decide : 1 + 0 ≤ _), (by decide : 1 + 0 ≤ _)⟩)
  dsimp only [Pt.U, Pt.locs, Pt.cells, Pt.slots] at X9 l9 y9 z9 st9 hQ9
  subst l9 y9 z9
  obtain ⟨rfl, N9q, K9, f9_1, f9_2⟩ := hQ9
  have N9 := Fr.app N0 N9q
  have z10 : h0.size ≤ b6 := Nat.le_trans (Keep.refl h0 []).1 (Nat.le_of_eq g6.symm)
  have O_K9 : Old Z n0 T9.heap := O_E6.keep K9 (allS g8 all0)
  have Kp_K9 : Keep h0 T9.heap [] := Kp_E6.trans K9 (allS (Or.inr z10) all0)
  obtain ⟨fs, hr, hrun, hended, hW, hsame⟩ := X9.leave (v := some (.ref b6)) (fun h => by rw [Bd.returns] at h; cases h)
  refine ⟨_, _, pre0 _ ?_, hrun, hended, _, _, rfl, ?_, ⟨_, rfl⟩, hW, hsame.mono (by decide) (by decide)⟩
  · show St p e below s₁ m 0 #[iv p1] [] _
    refine XS.iloadN X0.here hx rfl (hb hby d6_0) rfl ?_
    show St p e below s₁ m 1 #[iv p1] [(.int p1)] _
    refine XS.bipush X0.here hx rfl (hb hby d6_1) ?_
    show St p e below s₁ m 3 #[iv p1] [(.int (-128 : Int32)), (.int p1)] _
    refine XS.icmpNo X0.here hx rfl (hb hby d6_3) rfl (flt hc2).1 ?_
    show St p e below s₁ m 6 #[iv p1] [] _
    refine XS.iloadN X0.here hx rfl (hb hby d6_6) rfl ?_
    show St p e below s₁ m 7 #[iv p1] [(.int p1)] _
    refine st4 _ ?_
    show St p e below T4 m 10 #[iv p1] [(.int (127 : Int32)), (.int p1)] _
    refine XS.icmpYes X4.here hx rfl (pc0 := 10) (pc' := 23) rfl (hb hby d6_10) rfl (tlt hc5).2.2.1 (by decide) (by decide) ?_
    show St p e below T4 m 23 #[iv p1] [] _
    refine st6 _ ?_
    show St p e below T6 m 26 #[iv p1] [(.ref b6)] _
    refine XS.dup X6.here hx rfl (hb hby d6_26) rfl rfl ?_
    show St p e below T6 m 27 #[iv p1] [(.ref b6), (.ref b6)] _
    refine XS.iloadN X6.here hx rfl (hb hby d6_27) rfl ?_
    show St p e below T6 m 28 #[iv p1] [(.int p1), (.ref b6), (.ref b6)] _
    refine st9.trans ?_
    show St p e below T9 m 31 #[iv p1] [(.ref b6)] _
    jvm_step X9.here [X9.here.top, hx, (hb hby d6_31), X9.method', Bd.returns, Value.isRef, FieldType.isReference]
    first | (intro acts; rw [hr _ acts rfl rfl rfl]) | rw [hr _ _ rfl rfl rfl]
    exact Steps.refl _
  · show r6_2Q Z p1 h0 n0 _ T9.heap _
    exact ⟨b6, rfl, N9, Kp_K9⟩
theorem d6_13 : decode jdk_33_method_22_code 13 = .ok (.getstatic 195, 3) := by decide +kernel
theorem d6_16 : decode jdk_33_method_22_code 16 = .ok (.iload_n 0, 1) := by decide +kernel
theorem d6_17 : decode jdk_33_method_22_code 17 = .ok (.sipush 128, 3) := by decide +kernel
theorem d6_20 : decode jdk_33_method_22_code 20 = .ok (.iadd, 1) := by decide +kernel
theorem d6_21 : decode jdk_33_method_22_code 21 = .ok (.aaload, 1) := by decide +kernel
theorem d6_22 : decode jdk_33_method_22_code 22 = .ok (.areturn, 1) := by decide +kernel
def ivQ (Z : State) (p1 : Int32) (h0 : Heap) (n0 : Nat) (v : Option Value) (h : Heap) (L : List Loc) : Prop := ∃ r : Addr, v = some (.ref r) ∧ Fr n0 L ∧ Keep h0 h []
theorem own_cache {p : Int32} {n : Nat} (h1 : ¬ p < (-128 : Int32)) (h2 : ¬ (127 : Int32) < p) (hn : n = 256) : ¬ ((p + (128 : Int32)) < 0 ∨ n ≤ (p + (128 : Int32)).toNatClampNeg) := by
  have a := c_iadd p 128
  have r := rng32 (p + 128)
  have e0 : (0 : Int32).toInt = 0 := rfl
  have e1 : (-128 : Int32).toInt = -128 := by decide
  have e2 : (127 : Int32).toInt = 127 := by decide
  have e3 : (128 : Int32).toInt = 128 := by decide
  rw [Int32.lt_iff_toInt_lt] at h1 h2
  rw [Int32.lt_iff_toInt_lt, Int32.toNatClampNeg]
  omega
set_option maxRecDepth 65536 in
set_option maxHeartbeats 40000000 in
theorem ivof (l : Launch) (Z : State) (a0 : Array Value) (hw : ∀ d ∈ tables_1, d.before a0 Z = true) (ws : List Jvm.Cond) (p1 : Int32) (a3 : Addr) (c5 : Cell) (h0 : Heap) (n0 : Nat) (O0 : Old Z n0 h0) (H2 : Sta Z Z.heap "java/lang/Integer$IntegerCache" "high" "I" (.int (127 : Int32))) (H4 : Sta Z Z.heap "java/lang/Integer$IntegerCache" "cache" "[Ljava/lang/Integer;" (.ref a3)) (H6 : Arr Z Z.heap a3 c5 (.object "java/lang/Integer")) (H7 : c5.slots.size = 256) (H8 : ∀ j : Int32, ¬ (j < 0 ∨ c5.slots.size ≤ j.toNatClampNeg) → ∃ r : Addr, c5.slots[j.toNatClampNeg]? = some (.ref r)) :
    MetFree l y6 (head1 (Jvm.Cond.code y6 jdk_33_method_22_code 1 (some (.object "java/lang/Integer")) :: ws) ({ frames := 3, cells := 1, slots := 1, locals := 38 } : Room)) (fun a U => a = #[(.int p1)] ∧ Z.Warmed39 U.vm ∧ U.heap = h0) (fun _ _ _ _ _ => True) (fun _ U o U' => ∃ v L, o = .returned v ∧ ivQ Z p1 h0 n0 v U'.heap L ∧ FrameEnd U o U' L ({ frames := 3, cells := 1, slots := 1, locals := 38 } : Room).cells ({ frames := 3, cells := 1, slots := 1, locals := 38 } : Room).slots) := by
  by_cases c1 : p1 < (-128 : Int32)
  · exact r6_1 l Z a0 hw ws p1 h0 n0 O0 c1
  by_cases c2 : (127 : Int32) < p1
  · exact r6_2 l Z a0 hw ws p1 h0 n0 O0 c1 H2 c2
  refine MetFree.of_bodySF (plainFor_of_name pn_java_lang_Integer) hisR ?_
  intro p e s m args below meth c s₁ Bd hml0 hP hK
  obtain ⟨rfl, hZ, hh⟩ := hP
  have hx := Bd.exec
  have hby := Bd.bytes
  have hml : c.maxLocals = 1 := hml0
  have hown : s.vm.findClass "java/lang/Integer" = some m.cls := findClass_of_methodNamed Bd.named
  have X0 : Stand p l e ({ frames := 3, cells := 1, slots := 1, locals := 38 } : Room) s m #[(.int p1)] below meth c s₁ [] 0 0 := Stand.of_body Bd
  have e0 : s₁.heap = h0 := by rw [← hh, Bd.state]; rfl
  have pre0 : ∀ t, Steps p.tables e below (s₁.setTop (mkF m 0 #[iv p1] [])) t → Steps p.tables e below (s₁.setTop (entryFrame m #[(.int p1)] 1)) t := fun t k => castTop (r6_1e m p1) k
  obtain ⟨T1, X1, e1, st1⟩ := getS2 X0 hx hZ hown (host := "") (Or.inl (ow hw 131 rfl)) Via.refl e0 (H2.ext O0.2) (g := (mkF m 7 #[iv p1] [(.int p1)])) rfl (hb hby d6_7)
  obtain ⟨T2, X2, e2, st2⟩ := getS2 X1 hx hZ hown (host := "") (Or.inl (ow hw 133 rfl)) Via.refl e1 (H4.ext O0.2) (g := (mkF m 13 #[iv p1] [])) rfl (hb hby d6_13)
  have A := H6.ext O0.2
  have hin := own_cache c1 c2 H7
  obtain ⟨r, hr0⟩ := H8 _ hin
  obtain ⟨fs, hr, hrun, hended, hW, hsame⟩ := X2.leave (v := some (.ref r)) (fun h => by rw [Bd.returns] at h; cases h)
  refine ⟨_, _, pre0 _ ?_, hrun, hended, _, _, rfl, ?_, ⟨_, rfl⟩, hW, hsame.mono (by decide) (by decide)⟩
  · show St p e below s₁ m 0 #[iv p1] [] _
    refine XS.iloadN X0.here hx rfl (hb hby d6_0) rfl ?_
    show St p e below s₁ m 1 #[iv p1] [(.int p1)] _
    refine XS.bipush X0.here hx rfl (hb hby d6_1) ?_
    show St p e below s₁ m 3 #[iv p1] [(.int (-128 : Int32)), (.int p1)] _
    refine XS.icmpNo X0.here hx rfl (hb hby d6_3) rfl (flt c1).1 ?_
    show St p e below s₁ m 6 #[iv p1] [] _
    refine XS.iloadN X0.here hx rfl (hb hby d6_6) rfl ?_
    show St p e below s₁ m 7 #[iv p1] [(.int p1)] _
    refine st1 _ ?_
    show St p e below T1 m 10 #[iv p1] [(.int (127 : Int32)), (.int p1)] _
    refine XS.icmpNo X1.here hx rfl (hb hby d6_10) rfl (flt c2).2.2.1 ?_
    show St p e below T1 m 13 #[iv p1] [] _
    refine st2 _ ?_
    show St p e below T2 m 16 #[iv p1] [(.ref a3)] _
    refine XS.iloadN X2.here hx rfl (hb hby d6_16) rfl ?_
    show St p e below T2 m 17 #[iv p1] [(.int p1), (.ref a3)] _
    refine XS.sipush X2.here hx rfl (hb hby d6_17) ?_
    show St p e below T2 m 20 #[iv p1] [(.int (128 : Int32)), (.int p1), (.ref a3)] _
    refine XS.iadd X2.here hx rfl (hb hby d6_20) rfl ?_
    show St p e below T2 m 21 #[iv p1] [(.int (p1 + (128 : Int32))), (.ref a3)] _
    refine X2.aaload hx (j := (p1 + (128 : Int32))) (v := (.ref r)) (by rw [e2]; exact A.1) (State.isArrayOf_alike hZ.alike A.2.1) rfl A.2.2 hin hr0 (g := (mkF m 21 #[iv p1] [(.int (p1 + (128 : Int32))), (.ref a3)])) rfl rfl (hb hby d6_21) _ ?_
    show St p e below T2 m 22 #[iv p1] [(.ref r)] _
    jvm_step X2.here [X2.here.top, hx, (hb hby d6_22), X2.method', Bd.returns, Value.isRef, FieldType.isReference]
    first | (intro acts; rw [hr _ acts rfl rfl rfl]) | rw [hr _ _ rfl rfl rfl]
    exact Steps.refl _
  · show ivQ Z p1 h0 n0 _ T2.heap _
    rw [e2]
    exact ⟨r, rfl, Fr.nil n0, Keep.refl _ _⟩
theorem pd__I_Ljava_lang_Integer_ : parseMethodDescriptor "(I)Ljava/lang/Integer;" = some ⟨[.int], some (.object "java/lang/Integer")⟩ := by decide +kernel
theorem d9_0 : decode jdk_32_method_3_code 0 = .ok (.new 2, 3) := by decide +kernel
theorem d9_3 : decode jdk_32_method_3_code 3 = .ok (.dup, 1) := by decide +kernel
theorem d9_4 : decode jdk_32_method_3_code 4 = .ok (.aload_n 0, 1) := by decide +kernel
theorem d9_5 : decode jdk_32_method_3_code 5 = .ok (.invokestatic 17, 3) := by decide +kernel
theorem d10_0 : decode jdk_31_method_10_code 0 = .ok (.aload_n 0, 1) := by decide +kernel
theorem d10_1 : decode jdk_31_method_10_code 1 = .ok (.ifnonnull 11, 3) := by decide +kernel
theorem d10_12 : decode jdk_31_method_10_code 12 = .ok (.aload_n 0, 1) := by decide +kernel
theorem d10_13 : decode jdk_31_method_10_code 13 = .ok (.areturn, 1) := by decide +kernel
abbrev y10 : MethodName := ⟨"java/util/Objects", "requireNonNull", "(Ljava/lang/Object;)Ljava/lang/Object;"⟩
theorem pn_java_util_Objects : plainName "java/util/Objects" = true := by first | (simp [plainName, overriddenIn]; done) | decide +kernel
def r10_1Q (Z : State) (a1 : Addr) (h0 : Heap) (n0 : Nat) (v : Option Value) (h : Heap) (L : List Loc) : Prop := v = some (.ref a1) ∧ Fr n0 L ∧ h = h0
theorem r10_1e (m : MethodId) (a1 : Addr) : entryFrame m #[(.ref a1)] 1 = mkF m 0 #[rv a1] [] := by first | (simp [entryFrame, mkF, argsToLocals, Value.category]; done) | rfl
set_option maxRecDepth 65536 in
set_option maxHeartbeats 40000000 in
theorem r10_1 (l : Launch) (Z : State) (a0 : Array Value) (hw : HW a0 Z) (ws : List Jvm.Cond) (a1 : Addr) (h0 : Heap) (n0 : Nat) (O0 : Old Z n0 h0) :
    MF l y10 jdk_31_method_10_code 1 (some (.object "java/lang/Object")) ws ({ frames := 0, cells := 0, slots := 0, locals := 0 } : Room) Z #[(.ref a1)] h0 (r10_1Q Z a1 h0 n0) := by
  refine MetFree.of_bodySF (plainFor_of_name pn_java_util_Objects) hisR ?_
  intro p e s m args below meth c s₁ Bd hml0 hP hK
  obtain ⟨rfl, hZ, hh⟩ := hP
  have hx := Bd.exec
  have hby := Bd.bytes
  have hml : c.maxLocals = 1 := hml0
  have hown : s.vm.findClass "java/util/Objects" = some m.cls := findClass_of_methodNamed Bd.named
  have hnm := (name_of_methodNamed Bd.named Bd.method).1
  have X0 : Stand p l e ({ frames := 0, cells := 0, slots := 0, locals := 0 } : Room) s m #[(.ref a1)] below meth c s₁ [] 0 0 := Stand.of_body Bd
  have e0 : s₁.heap = h0 := by rw [← hh, Bd.state]; rfl
  have N0 := Fr.nil n0
  have pre0 : ∀ t, Steps p.tables e below (s₁.setTop (mkF m 0 #[rv a1] [])) t → Steps p.tables e below (s₁.setTop (entryFrame m #[(.ref a1)] 1)) t := fun t k => castTop (r10_1e m a1) k
  obtain ⟨fs, hr, hrun, hended, hW, hsame⟩ := X0.leave (v := some (.ref a1)) (fun h => by rw [Bd.returns] at h; cases h)
  refine ⟨_, _, pre0 _ ?_, hrun, hended, _, _, rfl, ?_, ⟨_, rfl⟩, hW, hsame.mono (by decide) (by decide)⟩
  · show St p e below s₁ m 0 #[rv a1] [] _
    refine XS.aloadN X0.here hx rfl (hb hby d10_0) rfl rfl ?_
    show St p e below s₁ m 1 #[rv a1] [(.ref a1)] _
    refine XS.ifnonnullYes X0.here hx rfl (pc0 := 1) (pc' := 12) rfl (hb hby d10_1) rfl (by decide) (by decide) ?_
    show St p e below s₁ m 12 #[rv a1] [] _
    refine XS.aloadN X0.here hx rfl (hb hby d10_12) rfl rfl ?_
    show St p e below s₁ m 13 #[rv a1] [(.ref a1)] _
    jvm_step X0.here [X0.here.top, hx, (hb hby d10_13), X0.method', Bd.returns, Value.isRef, FieldType.isReference]
    first | (intro acts; rw [hr _ acts rfl rfl rfl]) | rw [hr _ _ rfl rfl rfl]
    exact Steps.refl _
  · show r10_1Q Z a1 h0 n0 _ s₁.heap _
    rw [e0]
    exact ⟨rfl, N0, rfl⟩
theorem pd__Ljava_lang_Object__Ljava_lang_Object_ : parseMethodDescriptor "(Ljava/lang/Object;)Ljava/lang/Object;" = some ⟨[(.object "java/lang/Object")], some (.object "java/lang/Object")⟩ := by decide +kernel
theorem d9_8 : decode jdk_32_method_3_code 8 = .ok (.invokespecial 23, 3) := by decide +kernel
theorem d11_0 : decode jdk_32_method_2_code 0 = .ok (.aload_n 0, 1) := by decide +kernel
theorem d11_1 : decode jdk_32_method_2_code 1 = .ok (.invokespecial 7, 3) := by decide +kernel
theorem d11_4 : decode jdk_32_method_2_code 4 = .ok (.aload_n 0, 1) := by decide +kernel
theorem d11_5 : decode jdk_32_method_2_code 5 = .ok (.aload_n 1, 1) := by decide +kernel
theorem d11_6 : decode jdk_32_method_2_code 6 = .ok (.putfield 13, 3) := by decide +kernel
theorem d11_9 : decode jdk_32_method_2_code 9 = .ok (.return_, 1) := by decide +kernel
abbrev y11 : MethodName := ⟨"java/util/Optional", "<init>", "(Ljava/lang/Object;)V"⟩
def r11_1Q (Z : State) (a1 : Addr) (a2 : Addr) (h0 : Heap) (n0 : Nat) (v : Option Value) (h : Heap) (L : List Loc) : Prop := v = none ∧ Fr n0 L ∧ Keep h0 h [a1] ∧ Fld Z h a1 "java/util/Optional" "value" "Ljava/lang/Object;" (.ref a2) ∧ Exa Z h a1 "java/util/Optional"
theorem r11_1e (m : MethodId) (a1 : Addr) (a2 : Addr) : entryFrame m #[(.ref a1), (.ref a2)] 2 = mkF m 0 #[rv a1, rv a2] [] := by first | (simp [entryFrame, mkF, argsToLocals, Value.category]; done) | rfl
set_option maxRecDepth 65536 in
set_option maxHeartbeats 40000000 in
theorem r11_1 (l : Launch) (Z : State) (a0 : Array Value) (hw : HW a0 Z) (ws : List Jvm.Cond) (a1 : Addr) (a2 : Addr) (h0 : Heap) (n0 : Nat) (O0 : Old Z n0 h0) (H4 : Fld Z h0 a1 "java/util/Optional" "value" "Ljava/lang/Object;" .null) (H5 : Exa Z h0 a1 "java/util/Optional") (H7 : n0 ≤ a1) :
    MF l y11 jdk_32_method_2_code 2 none ws ({ frames := 1, cells := 0, slots := 0, locals := 12 } : Room) Z #[(.ref a1), (.ref a2)] h0 (r11_1Q Z a1 a2 h0 n0) := by
  refine MetFree.of_bodySF (plainFor_of_name pn_java_util_Optional) hisR ?_
  intro p e s m args below meth c s₁ Bd hml0 hP hK
  obtain ⟨rfl, hZ, hh⟩ := hP
  have hx := Bd.exec
  have hby := Bd.bytes
  have hml : c.maxLocals = 2 := hml0
  have hown : s.vm.findClass "java/util/Optional" = some m.cls := findClass_of_methodNamed Bd.named
  have hnm := (name_of_methodNamed Bd.named Bd.method).1
  have X0 : Stand p l e ({ frames := 1, cells := 0, slots := 0, locals := 12 } : Room) s m #[(.ref a1), (.ref a2)] below meth c s₁ [] 0 0 := Stand.of_body Bd
  have e0 : s₁.heap = h0 := by rw [← hh, Bd.state]; rfl
  have N0 := Fr.nil n0
  have pre0 : ∀ t, Steps p.tables e below (s₁.setTop (mkF m 0 #[rv a1, rv a2] [])) t → Steps p.tables e below (s₁.setTop (entryFrame m #[(.ref a1), (.ref a2)] 2)) t := fun t k => castTop (r11_1e m a1 a2) k
  obtain ⟨T3, X3, e3, st3⟩ := initO X0 hx hZ hown (ow hw 85 rfl) (ow hw 20 rfl) (ow hw 21 rfl) e0 (g := (mkF m 1 #[rv a1, rv a2] [(.ref a1)])) rfl (by rw [hml]; rfl) rfl (hb hby d11_1) (by decide) (W := 0) (by show 2 * 0 + _ ≤ _; exact Nat.le_of_eq rfl) (by decide)
  obtain ⟨T6, h6, X6, e6, W6, st6⟩ := putF X3 hx hZ hown (host := "") (Or.inl (ow hw 40 rfl)) Via.refl e3 H4 H5 (Or.inr ⟨(ow hw 41 rfl), rfl, hnm⟩) (ow hw 76 rfl) (ty := (.object "java/lang/Object")) (by decide) rfl rfl (g := (mkF m 6 #[rv a1, rv a2] [(.ref a2), (.ref a1)])) rfl rfl (hb hby d11_6)
  have O_W6 : Old Z n0 h6 := O0.wr W6 H7
  have Kp_W6 : Keep h0 h6 [a1] := (Keep.refl h0 [a1]).wr W6 (Or.inl (List.mem_of_getElem? (i := 0) rfl))
  have N8 := Fr.snoc X6 N0 H7
  have f9 := H4.same W6
  have f10 := (H5.wr W6)
  obtain ⟨fs, hr, hrun, hended, hW, hsame⟩ := X6.leave (v := none) (fun _ => rfl)
  refine ⟨_, _, pre0 _ ?_, hrun, hended, _, _, rfl, ?_, ⟨_, rfl⟩, hW, hsame.mono (by decide) (by decide)⟩
  · show St p e below s₁ m 0 #[rv a1, rv a2] [] _
    refine XS.aloadN X0.here hx rfl (hb hby d11_0) rfl rfl ?_
    show St p e below s₁ m 1 #[rv a1, rv a2] [(.ref a1)] _
    refine st3 _ ?_
    show St p e below T3 m 4 #[rv a1, rv a2] [] _
    refine XS.aloadN X3.here hx rfl (hb hby d11_4) rfl rfl ?_
    show St p e below T3 m 5 #[rv a1, rv a2] [(.ref a1)] _
    refine XS.aloadN X3.here hx rfl (hb hby d11_5) rfl rfl ?_
    show St p e below T3 m 6 #[rv a1, rv a2] [(.ref a2), (.ref a1)] _
    refine st6 _ ?_
    show St p e below T6 m 9 #[rv a1, rv a2] [] _
    exact X6.returnOut hx Bd.returns (hb hby d11_9) hr
  · show r11_1Q Z a1 a2 h0 n0 _ T6.heap _
    rw [e6]
    exact ⟨rfl, N8, Kp_W6, f9, f10⟩
theorem pd__Ljava_lang_Object__V : parseMethodDescriptor "(Ljava/lang/Object;)V" = some ⟨[(.object "java/lang/Object")], none⟩ := by decide +kernel
theorem d9_11 : decode jdk_32_method_3_code 11 = .ok (.areturn, 1) := by decide +kernel
abbrev y9 : MethodName := ⟨"java/util/Optional", "of", "(Ljava/lang/Object;)Ljava/util/Optional;"⟩
def r9_1Q (Z : State) (a1 : Addr) (h0 : Heap) (n0 : Nat) (v : Option Value) (h : Heap) (L : List Loc) : Prop := ∃ (b2 : Addr), v = some (.ref b2) ∧ Fr n0 L ∧ Keep h0 h [] ∧ h0.size ≤ b2 ∧ Exa Z h b2 "java/util/Optional" ∧ Fld Z h b2 "java/util/Optional" "value" "Ljava/lang/Object;" (.ref a1)
theorem r9_1e (m : MethodId) (a1 : Addr) : entryFrame m #[(.ref a1)] 1 = mkF m 0 #[rv a1] [] := by first | (simp [entryFrame, mkF, argsToLocals, Value.category]; done) | rfl
set_option maxRecDepth 65536 in
set_option maxHeartbeats 40000000 in
theorem r9_1 (l : Launch) (Z : State) (a0 : Array Value) (hw : HW a0 Z) (ws : List Jvm.Cond) (a1 : Addr) (h0 : Heap) (n0 : Nat) (O0 : Old Z n0 h0) :
    MF l y9 jdk_32_method_3_code 1 (some (.object "java/util/Optional")) ws ({ frames := 2, cells := 1, slots := 1, locals := 26 } : Room) Z #[(.ref a1)] h0 (r9_1Q Z a1 h0 n0) := by
  refine MetFree.of_bodySF (plainFor_of_name pn_java_util_Optional) hisR ?_
  intro p e s m args below meth c s₁ Bd hml0 hP hK
  obtain ⟨rfl, hZ, hh⟩ := hP
  have hx := Bd.exec
  have hby := Bd.bytes
  have hml : c.maxLocals = 1 := hml0
  have hown : s.vm.findClass "java/util/Optional" = some m.cls := findClass_of_methodNamed Bd.named
  have hnm := (name_of_methodNamed Bd.named Bd.method).1
  have X0 : Stand p l e ({ frames := 2, cells := 1, slots := 1, locals := 26 } : Room) s m #[(.ref a1)] below meth c s₁ [] 0 0 := Stand.of_body Bd
  have e0 : s₁.heap = h0 := by rw [← hh, Bd.state]; rfl
  have N0 := Fr.nil n0
  have pre0 : ∀ t, Steps p.tables e below (s₁.setTop (mkF m 0 #[rv a1] [])) t → Steps p.tables e below (s₁.setTop (entryFrame m #[(.ref a1)] 1)) t := fun t k => castTop (r9_1e m a1) k
  obtain ⟨T2, h2, X2, e2, E2, A2, D2, -, st2⟩ := newO X0 hx hZ hown (ow hw 75 rfl) (ow hw 76 rfl) (ow hw 28 rfl) e0 (g := (mkF m 0 #[rv a1] [])) rfl (hb hby d9_0) (by decide) (by decide)
  obtain ⟨b2, g2⟩ : ∃ z, z = h0.size := ⟨_, rfl⟩
  rw [← g2] at A2 D2 st2
  have O_E2 : Old Z n0 h2 := O0.ext E2
  have Kp_E2 : Keep h0 h2 [] := (Keep.refl h0 []).ext E2
  obtain ⟨_, _, ⟨T3, L3, k3, n3⟩, -, X3, ⟨Lc3, hQ3, l3, y3, z3⟩, st3⟩ := Jvm.LawKit.callS X2 hx (y := y10) hown (mvT hZ (ow hw 77 rfl)) (mvT hZ (ow hw 78 rfl)) (mvT hZ (ow hw 79 rfl)) (mvT hZ (ow hw 80 rfl)) (by decide) (backOf (W := 2) (r10_1 l Z a0 hw [] a1 h2 n0 O_E2) hZ (ow hw 80 rfl) (ow hw 79 rfl) (by decide) (by decide)) (g := (mkF m 5 #[rv a1] [(.ref a1), (.ref b2), (.ref b2)])) rfl (by rw [hml]; rfl) (argsL := [(.ref a1)]) (rest := [(.ref b2), (.ref b2)]) (lenOf pd__Ljava_lang_Object__Ljava_lang_Object_ rfl) rfl (by show 2 * 0 + _ ≤ _; exact Nat.le_of_eq rfl) (hb hby d9_5) (fun _ _ => ⟨rfl, e2, (by decide : 1 + 0 ≤ _), (by decide : 1 + 0 ≤ _)⟩)
  dsimp only [Pt.U, Pt.locs, Pt.cells, Pt.slots] at X3 l3 y3 z3 st3 hQ3
  subst l3 y3 z3
  obtain ⟨rfl, N3q, e3⟩ := hQ3
  have N3 := Fr.app N0 N3q
  have f4 : Fld Z h2 b2 "java/util/Optional" "value" "Ljava/lang/Object;" .null := D2 (Or.inr (ow hw 41 rfl)) (ty := (.object "java/lang/Object")) (by decide)
  have g5 : n0 ≤ b2 := Nat.le_trans (Nat.le_trans (Nat.le_of_eq O0.1.symm) O0.2.1) (Nat.le_of_eq g2.symm)
  obtain ⟨_, _, ⟨T6, L6, k6, n6⟩, -, X6, ⟨Lc6, hQ6, l6, y6, z6⟩, st6⟩ := X3.specialBack hx (y := y11) rfl hown (mvT hZ (ow hw 81 rfl)) (mvT hZ (ow hw 82 rfl)) (mvT hZ (ow hw 84 rfl)) (by decide) (backOf (W := 1) (r11_1 l Z a0 hw [] b2 a1 h2 n0 O_E2 f4 A2 g5) hZ (ow hw 84 rfl) (ow hw 28 rfl) (by decide) (by decide)) (g := (mkF m 8 #[rv a1] [(.ref a1), (.ref b2), (.ref b2)])) rfl (by rw [hml]; rfl) (Steps.refl _) (a := b2) (argsL := [(.ref a1)]) (rest := [(.ref b2)]) (lenOf pd__Ljava_lang_Object__V rfl) rfl (by show 2 * 0 + _ ≤ _; exact Nat.le_of_eq rfl) (hb hby d9_8) (fun _ _ => ⟨rfl, e3, (by decide : 1 + 0 ≤ _), (by decide : 1 + 0 ≤ _)⟩)
  dsimp only [Pt.U, Pt.locs, Pt.cells, Pt.slots] at X6 l6 y6 z6 st6 hQ6
  subst l6 y6 z6
  obtain ⟨rfl, N6q, K6, f6_1, f6_2⟩ := hQ6
  have N6 := Fr.app N3 N6q
  have z7 : h0.size ≤ b2 := Nat.le_trans (Keep.refl h0 []).1 (Nat.le_of_eq g2.symm)
  have O_K6 : Old Z n0 T6.heap := O_E2.keep K6 (allS g5 all0)
  have Kp_K6 : Keep h0 T6.heap [] := Kp_E2.trans K6 (allS (Or.inr z7) all0)
  obtain ⟨fs, hr, hrun, hended, hW, hsame⟩ := X6.leave (v := some (.ref b2)) (fun h => by rw [Bd.returns] at h; cases h)
  refine ⟨_, _, pre0 _ ?_, hrun, hended, _, _, rfl, ?_, ⟨_, rfl⟩, hW, hsame.mono (by decide) (by decide)⟩
  · show St p e below s₁ m 0 #[rv a1] [] _
    refine st2 _ ?_
    show St p e below T2 m 3 #[rv a1] [(.ref b2)] _
    refine XS.dup X2.here hx rfl (hb hby d9_3) rfl rfl ?_
    show St p e below T2 m 4 #[rv a1] [(.ref b2), (.ref b2)] _
    refine XS.aloadN X2.here hx rfl (hb hby d9_4) rfl rfl ?_
    show St p e below T2 m 5 #[rv a1] [(.ref a1), (.ref b2), (.ref b2)] _
    refine st3 _ ?_
    show St p e below T3 m 8 #[rv a1] [(.ref a1), (.ref b2), (.ref b2)] _
    refine st6.trans ?_
    show St p e below T6 m 11 #[rv a1] [(.ref b2)] _
    jvm_step X6.here [X6.here.top, hx, (hb hby d9_11), X6.method', Bd.returns, Value.isRef, FieldType.isReference]
    first | (intro acts; rw [hr _ acts rfl rfl rfl]) | rw [hr _ _ rfl rfl rfl]
    exact Steps.refl _
  · show r9_1Q Z a1 h0 n0 _ T6.heap _
    exact ⟨b2, rfl, N6, Kp_K6, z7, f6_2, f6_1⟩
theorem pd__Ljava_lang_Object__Ljava_util_Optional_ : parseMethodDescriptor "(Ljava/lang/Object;)Ljava/util/Optional;" = some ⟨[(.object "java/lang/Object")], some (.object "java/util/Optional")⟩ := by decide +kernel
set_option maxRecDepth 65536 in
set_option maxHeartbeats 40000000 in
theorem g0_6 {p : Program} {l : Launch} {e : Env} {R : Room} {s : State} {m : MethodId} {args : Array Value} {below : List Frame} {meth : Method} {c : Code} {T0 : State} {locs : List Loc} {cells slots : Nat} {Z : State} {a0 : Array Value} {h0 : Heap} {n0 : Nat} (p1 : Int32) (p2 : Int32) (p3 : Int32) (p4 : Int32) (p5 : Int32) (p6 : Int32) (p7 : Int32) (p8 : Int32) (p9 : Int32) (p10 : Int32) (a11 : Addr) (a12 : Addr) (a13 : Addr) (a14 : Addr) (a15 : Addr) (a19 : Addr) (c21 : Cell)
    (X0 : Stand p l e R s m args below meth c T0 locs cells slots) (hx : p.tables.exec = Jvm.exec) (hZ : Z.Warmed39 s.vm) (hw : HW a0 Z) (hby : c.code = code) (hml : c.maxLocals = 19) (hown : s.vm.findClass "com/example/agave/agave/store/RequestStateOfPinLaw" = some m.cls) (e0 : T0.heap = h0) (O0 : Old Z n0 h0) (N0 : Fr n0 locs) (rc : cells + 2 ≤ R.cells) (rs : slots + 2 ≤ R.slots) (rf : 4 ≤ R.frames) (rl : 50 ≤ R.locals) (H16 : Sta Z Z.heap "java/util/Optional" "EMPTY" "Ljava/util/Optional;" (.ref a15)) (H18 : Sta Z Z.heap "java/lang/Integer$IntegerCache" "high" "I" (.int (127 : Int32))) (H20 : Sta Z Z.heap "java/lang/Integer$IntegerCache" "cache" "[Ljava/lang/Integer;" (.ref a19)) (H22 : Arr Z Z.heap a19 c21 (.object "java/lang/Integer")) (H23 : c21.slots.size = 256) (H24 : ∀ j : Int32, ¬ (j < 0 ∨ c21.slots.size ≤ j.toNatClampNeg) → ∃ r : Addr, c21.slots[j.toNatClampNeg]? = some (.ref r)) (hq : ¬ (p10 = (0 : Int32))) :
    ∃ (T' : State) (h' : Heap) (L' : List Loc) (b26_0 : Addr) (b25_0 : Addr), Stand p l e R s m args below meth c T' L' (cells + 2) (slots + 2) ∧ T'.heap = h' ∧ Fr n0 L' ∧ Keep h0 h' [] ∧ h0.size ≤ b26_0 ∧ Exa Z h' b26_0 "java/util/Optional" ∧ Fld Z h' b26_0 "java/util/Optional" "value" "Ljava/lang/Object;" (.ref b25_0) ∧
      ∀ target, St p e below T' m 169 #[iv p1, iv p2, iv p3, iv p4, iv p5, iv p6, iv p7, iv p8, iv p9, iv p10, rv a11, rv a12, rv a13, rv a14, rv b26_0, .unset, .unset, .unset, .unset] [] target → St p e below T0 m 150 #[iv p1, iv p2, iv p3, iv p4, iv p5, iv p6, iv p7, iv p8, iv p9, iv p10, rv a11, rv a12, rv a13, rv a14, .unset, .unset, .unset, .unset, .unset] [] target := by
  obtain ⟨_, _, ⟨T17, L17, k17, n17⟩, -, X17, ⟨Lc17, hQ17, l17, y17, z17⟩, st17⟩ := Jvm.LawKit.callS X0 hx (y := y5) hown (mvT hZ (ow hw 26 rfl)) (mvT hZ (ow hw 27 rfl)) (mvT hZ (ow hw 28 rfl)) (mvT hZ (ow hw 29 rfl)) (by decide) (backOf (W := 0) (r5_1 l Z a0 hw [] a15 h0 n0 O0 H16) hZ (ow hw 29 rfl) (ow hw 28 rfl) (by show 0 + 1 ≤ R.frames; omega) (by show 0 + (1 + 11) + 0 ≤ R.locals; omega)) (g := (mkF m 150 #[iv p1, iv p2, iv p3, iv p4, iv p5, iv p6, iv p7, iv p8, iv p9, iv p10, rv a11, rv a12, rv a13, rv a14, .unset, .unset, .unset, .unset, .unset] [])) rfl (by rw [hml]; rfl) (argsL := []) (rest := []) (lenOf pd___Ljava_util_Optional_ rfl) rfl (by show 2 * 0 + _ ≤ _; exact Nat.le_of_eq rfl) (hb hby at_150) (fun _ _ => ⟨rfl, e0, (by show cells + 0 + 0 ≤ R.cells; omega), (by show slots + 0 + 0 ≤ R.slots; omega)⟩)
  dsimp only [Pt.U, Pt.locs, Pt.cells, Pt.slots] at X17 l17 y17 z17 st17 hQ17
  subst l17
  rw [y17, z17] at X17
  obtain ⟨rfl, N17q, e17⟩ := hQ17
  have N17 := Fr.app N0 N17q
  replace X17 : Stand p l e R _ m args below meth c T17 _ (cells + 0) (slots + 0) := X17
  obtain ⟨_, _, ⟨T25, L25, k25, n25⟩, -, X25, ⟨Lc25, hQ25, l25, y25, z25⟩, st25⟩ := Jvm.LawKit.callS X17 hx (y := y6) hown (mvT hZ (ow hw 127 rfl)) (mvT hZ (ow hw 128 rfl)) (mvT hZ (ow hw 129 rfl)) (mvT hZ (ow hw 130 rfl)) (by decide) (backOf (W := 0) (ivof l Z a0 hw [] p2 a19 c21 h0 n0 O0 H18 H20 H22 H23 H24) hZ (ow hw 130 rfl) (ow hw 129 rfl) (by show 3 + 1 ≤ R.frames; omega) (by show 0 + (1 + 11) + 38 ≤ R.locals; omega)) (g := (mkF m 161 #[iv p1, iv p2, iv p3, iv p4, iv p5, iv p6, iv p7, iv p8, iv p9, iv p10, rv a11, rv a12, rv a13, rv a14, rv a15, .unset, .unset, .unset, .unset] [(.int p2)])) rfl (by rw [hml]; rfl) (argsL := [(.int p2)]) (rest := []) (lenOf pd__I_Ljava_lang_Integer_ rfl) rfl (by show 2 * 0 + _ ≤ _; exact Nat.le_of_eq rfl) (hb hby at_161) (fun _ _ => ⟨rfl, e17, (by show cells + 0 + 1 ≤ R.cells; omega), (by show slots + 0 + 1 ≤ R.slots; omega)⟩)
  dsimp only [Pt.U, Pt.locs, Pt.cells, Pt.slots] at X25 l25 y25 z25 st25 hQ25
  subst l25
  rw [y25, z25] at X25
  obtain ⟨b25_0, rfl, N25q, K25⟩ := hQ25
  have N25 := Fr.app N17 N25q
  have O_K25 : Old Z n0 T25.heap := O0.keep K25 all0
  have Kp_K25 : Keep h0 T25.heap [] := (Keep.refl h0 []).trans K25 all0
  replace X25 : Stand p l e R _ m args below meth c T25 _ (cells + 1) (slots + 1) := X25
  obtain ⟨_, _, ⟨T26, L26, k26, n26⟩, -, X26, ⟨Lc26, hQ26, l26, y26, z26⟩, st26⟩ := Jvm.LawKit.callS X25 hx (y := y9) hown (mvT hZ (ow hw 72 rfl)) (mvT hZ (ow hw 73 rfl)) (mvT hZ (ow hw 28 rfl)) (mvT hZ (ow hw 74 rfl)) (by decide) (backOf (W := 0) (r9_1 l Z a0 hw [] b25_0 T25.heap n0 O_K25) hZ (ow hw 74 rfl) (ow hw 28 rfl) (by show 2 + 1 ≤ R.frames; omega) (by show 0 + (1 + 11) + 26 ≤ R.locals; omega)) (g := (mkF m 164 #[iv p1, iv p2, iv p3, iv p4, iv p5, iv p6, iv p7, iv p8, iv p9, iv p10, rv a11, rv a12, rv a13, rv a14, rv a15, .unset, .unset, .unset, .unset] [(.ref b25_0)])) rfl (by rw [hml]; rfl) (argsL := [(.ref b25_0)]) (rest := []) (lenOf pd__Ljava_lang_Object__Ljava_util_Optional_ rfl) rfl (by show 2 * 0 + _ ≤ _; exact Nat.le_of_eq rfl) (hb hby at_164) (fun _ _ => ⟨rfl, rfl, (by show cells + 1 + 1 ≤ R.cells; omega), (by show slots + 1 + 1 ≤ R.slots; omega)⟩)
  dsimp only [Pt.U, Pt.locs, Pt.cells, Pt.slots] at X26 l26 y26 z26 st26 hQ26
  subst l26
  rw [y26, z26] at X26
  obtain ⟨b26_0, rfl, N26q, K26, lo26_1, f26_2, f26_3⟩ := hQ26
  have N26 := Fr.app N25 N26q
  have O_K26 : Old Z n0 T26.heap := O_K25.keep K26 all0
  have Kp_K26 : Keep h0 T26.heap [] := Kp_K25.trans K26 all0
  replace X26 : Stand p l e R _ m args below meth c T26 _ (cells + 2) (slots + 2) := X26
  have z27 : h0.size ≤ b26_0 := Nat.le_trans Kp_K25.1 lo26_1
  refine ⟨T26, _, _, b26_0, b25_0, X26.more (by omega) (by omega), rfl, N26, Kp_K26, z27, f26_2, f26_3, fun target kt => ?_⟩
  show St p e below T0 m 150 #[iv p1, iv p2, iv p3, iv p4, iv p5, iv p6, iv p7, iv p8, iv p9, iv p10, rv a11, rv a12, rv a13, rv a14, .unset, .unset, .unset, .unset, .unset] [] _
  refine st17 _ ?_
  show St p e below T17 m 153 #[iv p1, iv p2, iv p3, iv p4, iv p5, iv p6, iv p7, iv p8, iv p9, iv p10, rv a11, rv a12, rv a13, rv a14, .unset, .unset, .unset, .unset, .unset] [(.ref a15)] _
  refine XS.astore X17.here hx rfl (hb hby at_153) rfl rfl (l' := #[iv p1, iv p2, iv p3, iv p4, iv p5, iv p6, iv p7, iv p8, iv p9, iv p10, rv a11, rv a12, rv a13, rv a14, rv a15, .unset, .unset, .unset, .unset]) rfl ?_
  show St p e below T17 m 155 #[iv p1, iv p2, iv p3, iv p4, iv p5, iv p6, iv p7, iv p8, iv p9, iv p10, rv a11, rv a12, rv a13, rv a14, rv a15, .unset, .unset, .unset, .unset] [] _
  refine XS.iload X17.here hx rfl (hb hby at_155) rfl ?_
  show St p e below T17 m 157 #[iv p1, iv p2, iv p3, iv p4, iv p5, iv p6, iv p7, iv p8, iv p9, iv p10, rv a11, rv a12, rv a13, rv a14, rv a15, .unset, .unset, .unset, .unset] [(.int p10)] _
  refine XS.ifNo X17.here hx rfl (hb hby at_157) rfl ((if0 _ _).trans (feq hq).1) ?_
  show St p e below T17 m 160 #[iv p1, iv p2, iv p3, iv p4, iv p5, iv p6, iv p7, iv p8, iv p9, iv p10, rv a11, rv a12, rv a13, rv a14, rv a15, .unset, .unset, .unset, .unset] [] _
  refine XS.iloadN X17.here hx rfl (hb hby at_160) rfl ?_
  show St p e below T17 m 161 #[iv p1, iv p2, iv p3, iv p4, iv p5, iv p6, iv p7, iv p8, iv p9, iv p10, rv a11, rv a12, rv a13, rv a14, rv a15, .unset, .unset, .unset, .unset] [(.int p2)] _
  refine st25 _ ?_
  show St p e below T25 m 164 #[iv p1, iv p2, iv p3, iv p4, iv p5, iv p6, iv p7, iv p8, iv p9, iv p10, rv a11, rv a12, rv a13, rv a14, rv a15, .unset, .unset, .unset, .unset] [(.ref b25_0)] _
  refine st26 _ ?_
  show St p e below T26 m 167 #[iv p1, iv p2, iv p3, iv p4, iv p5, iv p6, iv p7, iv p8, iv p9, iv p10, rv a11, rv a12, rv a13, rv a14, rv a15, .unset, .unset, .unset, .unset] [(.ref b26_0)] _
  refine XS.astore X26.here hx rfl (hb hby at_167) rfl rfl (l' := #[iv p1, iv p2, iv p3, iv p4, iv p5, iv p6, iv p7, iv p8, iv p9, iv p10, rv a11, rv a12, rv a13, rv a14, rv b26_0, .unset, .unset, .unset, .unset]) rfl ?_
  exact kt
set_option maxRecDepth 65536 in
set_option maxHeartbeats 40000000 in
theorem m0_1 {p : Program} {l : Launch} {e : Env} {R : Room} {s : State} {m : MethodId} {args : Array Value} {below : List Frame} {meth : Method} {c : Code} {T0 : State} {locs : List Loc} {cells slots : Nat} {Z : State} {a0 : Array Value} {h0 : Heap} {n0 : Nat} (p1 : Int32) (p2 : Int32) (p3 : Int32) (p4 : Int32) (p5 : Int32) (p6 : Int32) (p7 : Int32) (p8 : Int32) (p9 : Int32) (p10 : Int32) (a11 : Addr) (a12 : Addr) (a13 : Addr) (a14 : Addr) (a15 : Addr) (a19v : Addr) (c21v : Cell)
    (X0 : Stand p l e R s m args below meth c T0 locs cells slots) (hx : p.tables.exec = Jvm.exec) (hZ : Z.Warmed39 s.vm) (hw : HW a0 Z) (hby : c.code = code) (hml : c.maxLocals = 19) (hown : s.vm.findClass "com/example/agave/agave/store/RequestStateOfPinLaw" = some m.cls) (e0 : T0.heap = h0) (O0 : Old Z n0 h0) (N0 : Fr n0 locs) (rc : cells + 2 ≤ R.cells) (rs : slots + 2 ≤ R.slots) (rf : 4 ≤ R.frames) (rl : 50 ≤ R.locals) (H16 : Sta Z Z.heap "java/util/Optional" "EMPTY" "Ljava/util/Optional;" (.ref a15)) (H16v : Sta Z Z.heap "java/util/Optional" "EMPTY" "Ljava/util/Optional;" (.ref a15)) (H18v : Sta Z Z.heap "java/lang/Integer$IntegerCache" "high" "I" (.int (127 : Int32))) (H20v : Sta Z Z.heap "java/lang/Integer$IntegerCache" "cache" "[Ljava/lang/Integer;" (.ref a19v)) (H22v : Arr Z Z.heap a19v c21v (.object "java/lang/Integer")) (H23v : c21v.slots.size = 256) (H24v : ∀ j : Int32, ¬ (j < 0 ∨ c21v.slots.size ≤ j.toNatClampNeg) → ∃ r : Addr, c21v.slots[j.toNatClampNeg]? = some (.ref r)) :
    ∃ (T' : State) (h' : Heap) (L' : List Loc) (r : Addr), Stand p l e R s m args below meth c T' L' (cells + 2) (slots + 2) ∧ T'.heap = h' ∧ Fr n0 L' ∧ Keep h0 h' [] ∧
      ∀ target, St p e below T' m 169 #[iv p1, iv p2, iv p3, iv p4, iv p5, iv p6, iv p7, iv p8, iv p9, iv p10, rv a11, rv a12, rv a13, rv a14, rv r, .unset, .unset, .unset, .unset] [] target → St p e below T0 m 150 #[iv p1, iv p2, iv p3, iv p4, iv p5, iv p6, iv p7, iv p8, iv p9, iv p10, rv a11, rv a12, rv a13, rv a14, .unset, .unset, .unset, .unset, .unset] [] target := by
  by_cases q : p10 = (0 : Int32)
  · obtain ⟨T1, L1, X1, e1, N1, st1⟩ := g0_5 p1 p2 p3 p4 p5 p6 p7 p8 p9 p10 a11 a12 a13 a14 a15 X0 hx hZ hw hby hml hown e0 O0 N0 (by omega) (by omega) (by omega) (by omega) H16 q
    exact ⟨T1, _, L1, a15, X1.more (by omega) (by omega), e1, N1, Keep.refl _ _, st1⟩
  · obtain ⟨T1, h1, L1, b26_0, b25_0, X1, e1, N1, K1, u1, u2, u3, st1⟩ := g0_6 p1 p2 p3 p4 p5 p6 p7 p8 p9 p10 a11 a12 a13 a14 a15 a19v c21v X0 hx hZ hw hby hml hown e0 O0 N0 (by omega) (by omega) (by omega) (by omega) H16v H18v H20v H22v H23v H24v q
    exact ⟨T1, _, L1, b26_0, X1.more (by omega) (by omega), e1, N1, K1, st1⟩
set_option maxRecDepth 65536 in
set_option maxHeartbeats 40000000 in
theorem g0_7 {p : Program} {l : Launch} {e : Env} {R : Room} {s : State} {m : MethodId} {args : Array Value} {below : List Frame} {meth : Method} {c : Code} {T0 : State} {locs : List Loc} {cells slots : Nat} {Z : State} {a0 : Array Value} {h0 : Heap} {n0 : Nat} (p1 : Int32) (p2 : Int32) (p3 : Int32) (p4 : Int32) (p5 : Int32) (p6 : Int32) (p7 : Int32) (p8 : Int32) (p9 : Int32) (a10 : Addr) (a11 : Addr) (a12 : Addr) (a13 : Addr) (a14 : Addr) (a15 : Addr)
    (X0 : Stand p l e R s m args below meth c T0 locs cells slots) (hx : p.tables.exec = Jvm.exec) (hZ : Z.Warmed39 s.vm) (hw : HW a0 Z) (hby : c.code = code) (hml : c.maxLocals = 19) (hown : s.vm.findClass "com/example/agave/agave/store/RequestStateOfPinLaw" = some m.cls) (e0 : T0.heap = h0) (O0 : Old Z n0 h0) (N0 : Fr n0 locs) (rc : cells + 0 ≤ R.cells) (rs : slots + 0 ≤ R.slots) (rf : 1 ≤ R.frames) (rl : 12 ≤ R.locals) (H16 : Sta Z Z.heap "java/util/Optional" "EMPTY" "Ljava/util/Optional;" (.ref a15)) :
    ∃ (T' : State) (L' : List Loc), Stand p l e R s m args below meth c T' L' (cells + 0) (slots + 0) ∧ T'.heap = h0 ∧ Fr n0 L' ∧
      ∀ target, St p e below T' m 200 #[iv p1, iv p2, iv p3, iv (0 : Int32), iv p4, iv p5, iv p6, iv p7, iv p8, iv p9, rv a10, rv a11, rv a12, rv a13, rv a14, rv a15, .unset, .unset, .unset] [] target → St p e below T0 m 169 #[iv p1, iv p2, iv p3, iv (0 : Int32), iv p4, iv p5, iv p6, iv p7, iv p8, iv p9, rv a10, rv a11, rv a12, rv a13, rv a14, .unset, .unset, .unset, .unset] [] target := by
  obtain ⟨_, _, ⟨T17, L17, k17, n17⟩, -, X17, ⟨Lc17, hQ17, l17, y17, z17⟩, st17⟩ := Jvm.LawKit.callS X0 hx (y := y5) hown (mvT hZ (ow hw 26 rfl)) (mvT hZ (ow hw 27 rfl)) (mvT hZ (ow hw 28 rfl)) (mvT hZ (ow hw 29 rfl)) (by decide) (backOf (W := 0) (r5_1 l Z a0 hw [] a15 h0 n0 O0 H16) hZ (ow hw 29 rfl) (ow hw 28 rfl) (by show 0 + 1 ≤ R.frames; omega) (by show 0 + (1 + 11) + 0 ≤ R.locals; omega)) (g := (mkF m 169 #[iv p1, iv p2, iv p3, iv (0 : Int32), iv p4, iv p5, iv p6, iv p7, iv p8, iv p9, rv a10, rv a11, rv a12, rv a13, rv a14, .unset, .unset, .unset, .unset] [])) rfl (by rw [hml]; rfl) (argsL := []) (rest := []) (lenOf pd___Ljava_util_Optional_ rfl) rfl (by show 2 * 0 + _ ≤ _; exact Nat.le_of_eq rfl) (hb hby at_169) (fun _ _ => ⟨rfl, e0, (by show cells + 0 + 0 ≤ R.cells; omega), (by show slots + 0 + 0 ≤ R.slots; omega)⟩)
  dsimp only [Pt.U, Pt.locs, Pt.cells, Pt.slots] at X17 l17 y17 z17 st17 hQ17
  subst l17
  rw [y17, z17] at X17
  obtain ⟨rfl, N17q, e17⟩ := hQ17
  have N17 := Fr.app N0 N17q
  replace X17 : Stand p l e R _ m args below meth c T17 _ (cells + 0) (slots + 0) := X17
  refine ⟨T17, _, X17.more (by omega) (by omega), e17, N17, fun target kt => ?_⟩
  show St p e below T0 m 169 #[iv p1, iv p2, iv p3, iv (0 : Int32), iv p4, iv p5, iv p6, iv p7, iv p8, iv p9, rv a10, rv a11, rv a12, rv a13, rv a14, .unset, .unset, .unset, .unset] [] _
  refine st17 _ ?_
  show St p e below T17 m 172 #[iv p1, iv p2, iv p3, iv (0 : Int32), iv p4, iv p5, iv p6, iv p7, iv p8, iv p9, rv a10, rv a11, rv a12, rv a13, rv a14, .unset, .unset, .unset, .unset] [(.ref a15)] _
  refine XS.astore X17.here hx rfl (hb hby at_172) rfl rfl (l' := #[iv p1, iv p2, iv p3, iv (0 : Int32), iv p4, iv p5, iv p6, iv p7, iv p8, iv p9, rv a10, rv a11, rv a12, rv a13, rv a14, rv a15, .unset, .unset, .unset]) rfl ?_
  show St p e below T17 m 174 #[iv p1, iv p2, iv p3, iv (0 : Int32), iv p4, iv p5, iv p6, iv p7, iv p8, iv p9, rv a10, rv a11, rv a12, rv a13, rv a14, rv a15, .unset, .unset, .unset] [] _
  refine XS.iloadN X17.here hx rfl (hb hby at_174) rfl ?_
  show St p e below T17 m 175 #[iv p1, iv p2, iv p3, iv (0 : Int32), iv p4, iv p5, iv p6, iv p7, iv p8, iv p9, rv a10, rv a11, rv a12, rv a13, rv a14, rv a15, .unset, .unset, .unset] [(.int (0 : Int32))] _
  refine XS.ifYes X17.here hx rfl (pc0 := 175) (pc' := 200) rfl (hb hby at_175) rfl ((if0 _ _).trans (teq (rfl : (0 : Int32) = (0 : Int32))).1) (by decide) (by decide) ?_
  exact kt
set_option maxRecDepth 65536 in
set_option maxHeartbeats 40000000 in
theorem g0_8 {p : Program} {l : Launch} {e : Env} {R : Room} {s : State} {m : MethodId} {args : Array Value} {below : List Frame} {meth : Method} {c : Code} {T0 : State} {locs : List Loc} {cells slots : Nat} {Z : State} {a0 : Array Value} {h0 : Heap} {n0 : Nat} (p1 : Int32) (p2 : Int32) (p3 : Int32) (p4 : Int32) (p5 : Int32) (p6 : Int32) (p7 : Int32) (p8 : Int32) (p9 : Int32) (a10 : Addr) (a11 : Addr) (a12 : Addr) (a13 : Addr) (a14 : Addr) (a15 : Addr) (a16 : Addr)
    (X0 : Stand p l e R s m args below meth c T0 locs cells slots) (hx : p.tables.exec = Jvm.exec) (hZ : Z.Warmed39 s.vm) (hw : HW a0 Z) (hby : c.code = code) (hml : c.maxLocals = 19) (hown : s.vm.findClass "com/example/agave/agave/store/RequestStateOfPinLaw" = some m.cls) (e0 : T0.heap = h0) (O0 : Old Z n0 h0) (N0 : Fr n0 locs) (rc : cells + 0 ≤ R.cells) (rs : slots + 0 ≤ R.slots) (rf : 1 ≤ R.frames) (rl : 12 ≤ R.locals) (H17 : Sta Z Z.heap "java/util/Optional" "EMPTY" "Ljava/util/Optional;" (.ref a16)) :
    ∃ (T' : State) (L' : List Loc), Stand p l e R s m args below meth c T' L' (cells + 0) (slots + 0) ∧ T'.heap = h0 ∧ Fr n0 L' ∧
      ∀ target, St p e below T' m 228 #[iv p1, iv p2, iv p3, iv p4, iv p5, iv (0 : Int32), iv p6, iv p7, iv p8, iv p9, rv a10, rv a11, rv a12, rv a13, rv a14, rv a15, rv a16, .unset, .unset] [] target → St p e below T0 m 200 #[iv p1, iv p2, iv p3, iv p4, iv p5, iv (0 : Int32), iv p6, iv p7, iv p8, iv p9, rv a10, rv a11, rv a12, rv a13, rv a14, rv a15, .unset, .unset, .unset] [] target := by
  obtain ⟨_, _, ⟨T18, L18, k18, n18⟩, -, X18, ⟨Lc18, hQ18, l18, y18, z18⟩, st18⟩ := Jvm.LawKit.callS X0 hx (y := y5) hown (mvT hZ (ow hw 26 rfl)) (mvT hZ (ow hw 27 rfl)) (mvT hZ (ow hw 28 rfl)) (mvT hZ (ow hw 29 rfl)) (by decide) (backOf (W := 0) (r5_1 l Z a0 hw [] a16 h0 n0 O0 H17) hZ (ow hw 29 rfl) (ow hw 28 rfl) (by show 0 + 1 ≤ R.frames; omega) (by show 0 + (1 + 11) + 0 ≤ R.locals; omega)) (g := (mkF m 200 #[iv p1, iv p2, iv p3, iv p4, iv p5, iv (0 : Int32), iv p6, iv p7, iv p8, iv p9, rv a10, rv a11, rv a12, rv a13, rv a14, rv a15, .unset, .unset, .unset] [])) rfl (by rw [hml]; rfl) (argsL := []) (rest := []) (lenOf pd___Ljava_util_Optional_ rfl) rfl (by show 2 * 0 + _ ≤ _; exact Nat.le_of_eq rfl) (hb hby at_200) (fun _ _ => ⟨rfl, e0, (by show cells + 0 + 0 ≤ R.cells; omega), (by show slots + 0 + 0 ≤ R.slots; omega)⟩)
  dsimp only [Pt.U, Pt.locs, Pt.cells, Pt.slots] at X18 l18 y18 z18 st18 hQ18
  subst l18
  rw [y18, z18] at X18
  obtain ⟨rfl, N18q, e18⟩ := hQ18
  have N18 := Fr.app N0 N18q
  replace X18 : Stand p l e R _ m args below meth c T18 _ (cells + 0) (slots + 0) := X18
  refine ⟨T18, _, X18.more (by omega) (by omega), e18, N18, fun target kt => ?_⟩
  show St p e below T0 m 200 #[iv p1, iv p2, iv p3, iv p4, iv p5, iv (0 : Int32), iv p6, iv p7, iv p8, iv p9, rv a10, rv a11, rv a12, rv a13, rv a14, rv a15, .unset, .unset, .unset] [] _
  refine st18 _ ?_
  show St p e below T18 m 203 #[iv p1, iv p2, iv p3, iv p4, iv p5, iv (0 : Int32), iv p6, iv p7, iv p8, iv p9, rv a10, rv a11, rv a12, rv a13, rv a14, rv a15, .unset, .unset, .unset] [(.ref a16)] _
  refine XS.astore X18.here hx rfl (hb hby at_203) rfl rfl (l' := #[iv p1, iv p2, iv p3, iv p4, iv p5, iv (0 : Int32), iv p6, iv p7, iv p8, iv p9, rv a10, rv a11, rv a12, rv a13, rv a14, rv a15, rv a16, .unset, .unset]) rfl ?_
  show St p e below T18 m 205 #[iv p1, iv p2, iv p3, iv p4, iv p5, iv (0 : Int32), iv p6, iv p7, iv p8, iv p9, rv a10, rv a11, rv a12, rv a13, rv a14, rv a15, rv a16, .unset, .unset] [] _
  refine XS.iload X18.here hx rfl (hb hby at_205) rfl ?_
  show St p e below T18 m 207 #[iv p1, iv p2, iv p3, iv p4, iv p5, iv (0 : Int32), iv p6, iv p7, iv p8, iv p9, rv a10, rv a11, rv a12, rv a13, rv a14, rv a15, rv a16, .unset, .unset] [(.int (0 : Int32))] _
  refine XS.ifYes X18.here hx rfl (pc0 := 207) (pc' := 228) rfl (hb hby at_207) rfl ((if0 _ _).trans (teq (rfl : (0 : Int32) = (0 : Int32))).1) (by decide) (by decide) ?_
  exact kt
theorem d12_0 : decode prog_13_method_4_code 0 = .ok (.aload_n 0, 1) := by decide +kernel
theorem d12_1 : decode prog_13_method_4_code 1 = .ok (.invokevirtual 42, 3) := by decide +kernel
theorem d13_0 : decode jdk_32_method_7_code 0 = .ok (.aload_n 0, 1) := by decide +kernel
theorem d13_1 : decode jdk_32_method_7_code 1 = .ok (.getfield 13, 3) := by decide +kernel
theorem d13_4 : decode jdk_32_method_7_code 4 = .ok (.ifnonnull 7, 3) := by decide +kernel
theorem d13_7 : decode jdk_32_method_7_code 7 = .ok (.iconst 1, 1) := by decide +kernel
theorem d13_8 : decode jdk_32_method_7_code 8 = .ok (.goto 4, 3) := by decide +kernel
theorem d13_12 : decode jdk_32_method_7_code 12 = .ok (.ireturn, 1) := by decide +kernel
abbrev y13 : MethodName := ⟨"java/util/Optional", "isEmpty", "()Z"⟩
def r13_1Q (Z : State) (a1 : Addr) (h0 : Heap) (n0 : Nat) (v : Option Value) (h : Heap) (L : List Loc) : Prop := v = some (.int (1 : Int32)) ∧ Fr n0 L ∧ h = h0
theorem r13_1e (m : MethodId) (a1 : Addr) : entryFrame m #[(.ref a1)] 1 = mkF m 0 #[rv a1] [] := by first | (simp [entryFrame, mkF, argsToLocals, Value.category]; done) | rfl
set_option maxRecDepth 65536 in
set_option maxHeartbeats 40000000 in
theorem r13_1 (l : Launch) (Z : State) (a0 : Array Value) (hw : HW a0 Z) (ws : List Jvm.Cond) (a1 : Addr) (h0 : Heap) (n0 : Nat) (O0 : Old Z n0 h0) (H2 : Fld Z Z.heap a1 "java/util/Optional" "value" "Ljava/lang/Object;" .null) :
    MF l y13 jdk_32_method_7_code 1 (some .boolean) ws ({ frames := 0, cells := 0, slots := 0, locals := 0 } : Room) Z #[(.ref a1)] h0 (r13_1Q Z a1 h0 n0) := by
  refine MetFree.of_bodySF (plainFor_of_name pn_java_util_Optional) hisR ?_
  intro p e s m args below meth c s₁ Bd hml0 hP hK
  obtain ⟨rfl, hZ, hh⟩ := hP
  have hx := Bd.exec
  have hby := Bd.bytes
  have hml : c.maxLocals = 1 := hml0
  have hown : s.vm.findClass "java/util/Optional" = some m.cls := findClass_of_methodNamed Bd.named
  have hnm := (name_of_methodNamed Bd.named Bd.method).1
  have X0 : Stand p l e ({ frames := 0, cells := 0, slots := 0, locals := 0 } : Room) s m #[(.ref a1)] below meth c s₁ [] 0 0 := Stand.of_body Bd
  have e0 : s₁.heap = h0 := by rw [← hh, Bd.state]; rfl
  have N0 := Fr.nil n0
  have pre0 : ∀ t, Steps p.tables e below (s₁.setTop (mkF m 0 #[rv a1] [])) t → Steps p.tables e below (s₁.setTop (entryFrame m #[(.ref a1)] 1)) t := fun t k => castTop (r13_1e m a1) k
  obtain ⟨T3, X3, e3, st3⟩ := getF X0 hx hZ hown (host := "") (Or.inl (ow hw 40 rfl)) Via.refl e0 (H2.ext O0.2) (g := (mkF m 1 #[rv a1] [(.ref a1)])) rfl rfl (hb hby d13_1)
  obtain ⟨fs, hr, hrun, hended, hW, hsame⟩ := X3.leave (v := some (.int (1 : Int32))) (fun h => by rw [Bd.returns] at h; cases h)
  refine ⟨_, _, pre0 _ ?_, hrun, hended, _, _, rfl, ?_, ⟨_, rfl⟩, hW, hsame.mono (by decide) (by decide)⟩
  · show St p e below s₁ m 0 #[rv a1] [] _
    refine XS.aloadN X0.here hx rfl (hb hby d13_0) rfl rfl ?_
    show St p e below s₁ m 1 #[rv a1] [(.ref a1)] _
    refine st3 _ ?_
    show St p e below T3 m 4 #[rv a1] [.null] _
    refine XS.ifnonnullNo X3.here hx rfl (hb hby d13_4) rfl ?_
    show St p e below T3 m 7 #[rv a1] [] _
    refine XS.iconst X3.here hx rfl (hb hby d13_7) ?_
    show St p e below T3 m 8 #[rv a1] [(.int (1 : Int32))] _
    refine XS.goto X3.here hx rfl (pc0 := 8) (pc' := 12) rfl (hb hby d13_8) (by decide) (by decide) ?_
    show St p e below T3 m 12 #[rv a1] [(.int (1 : Int32))] _
    exact retN X3 hx (t := .boolean) Bd.returns (by simp) (hb hby d13_12) hr
  · show r13_1Q Z a1 h0 n0 _ T3.heap _
    rw [e3]
    exact ⟨rfl, N0, rfl⟩
theorem pd___Z : parseMethodDescriptor "()Z" = some ⟨[], some .boolean⟩ := by decide +kernel
theorem d12_4 : decode prog_13_method_4_code 4 = .ok (.ifCond .eq 14, 3) := by decide +kernel
theorem d12_7 : decode prog_13_method_4_code 7 = .ok (.iload_n 1, 1) := by decide +kernel
theorem d12_8 : decode prog_13_method_4_code 8 = .ok (.ifCond .eq 10, 3) := by decide +kernel
theorem d12_18 : decode prog_13_method_4_code 18 = .ok (.aload_n 0, 1) := by decide +kernel
theorem d12_19 : decode prog_13_method_4_code 19 = .ok (.invokevirtual 42, 3) := by decide +kernel
theorem d12_22 : decode prog_13_method_4_code 22 = .ok (.ifCond .eq 17, 3) := by decide +kernel
theorem d12_25 : decode prog_13_method_4_code 25 = .ok (.aload_n 2, 1) := by decide +kernel
theorem d12_26 : decode prog_13_method_4_code 26 = .ok (.invokevirtual 48, 3) := by decide +kernel
theorem d14_0 : decode jdk_32_method_6_code 0 = .ok (.aload_n 0, 1) := by decide +kernel
theorem d14_1 : decode jdk_32_method_6_code 1 = .ok (.getfield 13, 3) := by decide +kernel
theorem d14_4 : decode jdk_32_method_6_code 4 = .ok (.ifnull 7, 3) := by decide +kernel
theorem d14_11 : decode jdk_32_method_6_code 11 = .ok (.iconst 0, 1) := by decide +kernel
theorem d14_12 : decode jdk_32_method_6_code 12 = .ok (.ireturn, 1) := by decide +kernel
abbrev y14 : MethodName := ⟨"java/util/Optional", "isPresent", "()Z"⟩
def r14_1Q (Z : State) (a1 : Addr) (h0 : Heap) (n0 : Nat) (v : Option Value) (h : Heap) (L : List Loc) : Prop := v = some (.int (0 : Int32)) ∧ Fr n0 L ∧ h = h0
theorem r14_1e (m : MethodId) (a1 : Addr) : entryFrame m #[(.ref a1)] 1 = mkF m 0 #[rv a1] [] := by first | (simp [entryFrame, mkF, argsToLocals, Value.category]; done) | rfl
set_option maxRecDepth 65536 in
set_option maxHeartbeats 40000000 in
theorem r14_1 (l : Launch) (Z : State) (a0 : Array Value) (hw : HW a0 Z) (ws : List Jvm.Cond) (a1 : Addr) (h0 : Heap) (n0 : Nat) (O0 : Old Z n0 h0) (H2 : Fld Z Z.heap a1 "java/util/Optional" "value" "Ljava/lang/Object;" .null) :
    MF l y14 jdk_32_method_6_code 1 (some .boolean) ws ({ frames := 0, cells := 0, slots := 0, locals := 0 } : Room) Z #[(.ref a1)] h0 (r14_1Q Z a1 h0 n0) := by
  refine MetFree.of_bodySF (plainFor_of_name pn_java_util_Optional) hisR ?_
  intro p e s m args below meth c s₁ Bd hml0 hP hK
  obtain ⟨rfl, hZ, hh⟩ := hP
  have hx := Bd.exec
  have hby := Bd.bytes
  have hml : c.maxLocals = 1 := hml0
  have hown : s.vm.findClass "java/util/Optional" = some m.cls := findClass_of_methodNamed Bd.named
  have hnm := (name_of_methodNamed Bd.named Bd.method).1
  have X0 : Stand p l e ({ frames := 0, cells := 0, slots := 0, locals := 0 } : Room) s m #[(.ref a1)] below meth c s₁ [] 0 0 := Stand.of_body Bd
  have e0 : s₁.heap = h0 := by rw [← hh, Bd.state]; rfl
  have N0 := Fr.nil n0
  have pre0 : ∀ t, Steps p.tables e below (s₁.setTop (mkF m 0 #[rv a1] [])) t → Steps p.tables e below (s₁.setTop (entryFrame m #[(.ref a1)] 1)) t := fun t k => castTop (r14_1e m a1) k
  obtain ⟨T3, X3, e3, st3⟩ := getF X0 hx hZ hown (host := "") (Or.inl (ow hw 40 rfl)) Via.refl e0 (H2.ext O0.2) (g := (mkF m 1 #[rv a1] [(.ref a1)])) rfl rfl (hb hby d14_1)
  obtain ⟨fs, hr, hrun, hended, hW, hsame⟩ := X3.leave (v := some (.int (0 : Int32))) (fun h => by rw [Bd.returns] at h; cases h)
  refine ⟨_, _, pre0 _ ?_, hrun, hended, _, _, rfl, ?_, ⟨_, rfl⟩, hW, hsame.mono (by decide) (by decide)⟩
  · show St p e below s₁ m 0 #[rv a1] [] _
    refine XS.aloadN X0.here hx rfl (hb hby d14_0) rfl rfl ?_
    show St p e below s₁ m 1 #[rv a1] [(.ref a1)] _
    refine st3 _ ?_
    show St p e below T3 m 4 #[rv a1] [.null] _
    refine XS.ifnullYes X3.here hx rfl (pc0 := 4) (pc' := 11) rfl (hb hby d14_4) rfl (by decide) (by decide) ?_
    show St p e below T3 m 11 #[rv a1] [] _
    refine XS.iconst X3.here hx rfl (hb hby d14_11) ?_
    show St p e below T3 m 12 #[rv a1] [(.int (0 : Int32))] _
    exact retN X3 hx (t := .boolean) Bd.returns (by simp) (hb hby d14_12) hr
  · show r14_1Q Z a1 h0 n0 _ T3.heap _
    rw [e3]
    exact ⟨rfl, N0, rfl⟩
theorem d12_29 : decode prog_13_method_4_code 29 = .ok (.ifCond .eq 10, 3) := by decide +kernel
theorem d12_39 : decode prog_13_method_4_code 39 = .ok (.aload_n 0, 1) := by decide +kernel
theorem d12_40 : decode prog_13_method_4_code 40 = .ok (.invokevirtual 42, 3) := by decide +kernel
theorem d12_43 : decode prog_13_method_4_code 43 = .ok (.ifCond .eq 10, 3) := by decide +kernel
theorem d12_46 : decode prog_13_method_4_code 46 = .ok (.getstatic 16, 3) := by decide +kernel
theorem d12_49 : decode prog_13_method_4_code 49 = .ok (.astore_n 3, 1) := by decide +kernel
theorem d12_50 : decode prog_13_method_4_code 50 = .ok (.goto 53, 3) := by decide +kernel
theorem d12_103 : decode prog_13_method_4_code 103 = .ok (.aload_n 3, 1) := by decide +kernel
theorem d12_104 : decode prog_13_method_4_code 104 = .ok (.areturn, 1) := by decide +kernel
abbrev y12 : MethodName := ⟨"com/example/agave/agave/store/RequestState", "of", "(Ljava/util/Optional;ZLjava/util/Optional;)Lcom/example/agave/agave/store/RequestState;"⟩
theorem pn_com_example_agave_agave_store_RequestState : plainName "com/example/agave/agave/store/RequestState" = true := by first | (simp [plainName, overriddenIn]; done) | decide +kernel
def r12_1Q (Z : State) (a1 : Addr) (a8 : Addr) (h0 : Heap) (n0 : Nat) (v : Option Value) (h : Heap) (L : List Loc) : Prop := v = some (.ref a8) ∧ Fr n0 L ∧ h = h0
theorem r12_1e (m : MethodId) (a1 : Addr) (a8 : Addr) : entryFrame m #[(.ref a1), (.int (0 : Int32)), (.ref a1)] 4 = mkF m 0 #[rv a1, iv (0 : Int32), rv a1, .unset] [] := by first | (simp [entryFrame, mkF, argsToLocals, Value.category]; done) | rfl
set_option maxRecDepth 65536 in
set_option maxHeartbeats 40000000 in
theorem r12_1 (l : Launch) (Z : State) (a0 : Array Value) (hw : HW a0 Z) (ws : List Jvm.Cond) (a1 : Addr) (a8 : Addr) (h0 : Heap) (n0 : Nat) (O0 : Old Z n0 h0) (H2 : Exa Z Z.heap a1 "java/util/Optional") (H3 : Fld Z Z.heap a1 "java/util/Optional" "value" "Ljava/lang/Object;" .null) (H9 : Sta Z Z.heap "com/example/agave/agave/store/RequestState" "UNKNOWN" "Lcom/example/agave/agave/store/RequestState;" (.ref a8)) :
    MF l y12 prog_13_method_4_code 4 (some (.object "com/example/agave/agave/store/RequestState")) ws ({ frames := 1, cells := 0, slots := 0, locals := 12 } : Room) Z #[(.ref a1), (.int (0 : Int32)), (.ref a1)] h0 (r12_1Q Z a1 a8 h0 n0) := by
  refine MetFree.of_bodySF (plainFor_of_name pn_com_example_agave_agave_store_RequestState) hisR ?_
  intro p e s m args below meth c s₁ Bd hml0 hP hK
  obtain ⟨rfl, hZ, hh⟩ := hP
  have hx := Bd.exec
  have hby := Bd.bytes
  have hml : c.maxLocals = 4 := hml0
  have hown : s.vm.findClass "com/example/agave/agave/store/RequestState" = some m.cls := findClass_of_methodNamed Bd.named
  have hnm := (name_of_methodNamed Bd.named Bd.method).1
  have X0 : Stand p l e ({ frames := 1, cells := 0, slots := 0, locals := 12 } : Room) s m #[(.ref a1), (.int (0 : Int32)), (.ref a1)] below meth c s₁ [] 0 0 := Stand.of_body Bd
  have e0 : s₁.heap = h0 := by rw [← hh, Bd.state]; rfl
  have N0 := Fr.nil n0
  have pre0 : ∀ t, Steps p.tables e below (s₁.setTop (mkF m 0 #[rv a1, iv (0 : Int32), rv a1, .unset] [])) t → Steps p.tables e below (s₁.setTop (entryFrame m #[(.ref a1), (.int (0 : Int32)), (.ref a1)] 4)) t := fun t k => castTop (r12_1e m a1 a8) k
  obtain ⟨cq4, kq4, q4a, q4b, q4c⟩ := isOf hZ e0 (H2.ext O0.2)
  obtain ⟨_, _, ⟨T4, L4, k4, n4⟩, -, X4, ⟨Lc4, hQ4, l4, y4, z4⟩, st4⟩ := X0.virtualBack hx (y := y13) (z := y13) hown (mvT hZ (ow hw 35 rfl)) (mvT hZ (ow hw 36 rfl)) (notFace_of_selects (args := #[]) (mvT hZ (ow hw 38 rfl))) (mvT hZ (ow hw 38 rfl)) (mvT hZ (ow hw 37 rfl)) (by decide) (backOf (W := 0) (r13_1 l Z a0 hw [] a1 h0 n0 O0 H3) hZ (ow hw 39 rfl) (ow hw 28 rfl) (by decide) (by decide)) q4a q4c (g := (mkF m 1 #[rv a1, iv (0 : Int32), rv a1, .unset] [(.ref a1)])) rfl (by rw [hml]; rfl) (Steps.refl _) (argsL := []) (rest := []) (lenOf pd___Z rfl) rfl (by show 2 * 0 + _ ≤ _; exact Nat.le_of_eq rfl) (hb hby d12_1) (fun _ _ => ⟨rfl, e0, (by decide : 0 + 0 ≤ _), (by decide : 0 + 0 ≤ _)⟩)
  dsimp only [Pt.U, Pt.locs, Pt.cells, Pt.slots] at X4 l4 y4 z4 st4 hQ4
  subst l4 y4 z4
  obtain ⟨rfl, N4q, e4⟩ := hQ4
  have N4 := Fr.app N0 N4q
  obtain ⟨cq5, kq5, q5a, q5b, q5c⟩ := isOf hZ e4 (H2.ext O0.2)
  obtain ⟨_, _, ⟨T5, L5, k5, n5⟩, -, X5, ⟨Lc5, hQ5, l5, y5, z5⟩, st5⟩ := X4.virtualBack hx (y := y13) (z := y13) hown (mvT hZ (ow hw 35 rfl)) (mvT hZ (ow hw 36 rfl)) (notFace_of_selects (args := #[]) (mvT hZ (ow hw 38 rfl))) (mvT hZ (ow hw 38 rfl)) (mvT hZ (ow hw 37 rfl)) (by decide) (backOf (W := 0) (r13_1 l Z a0 hw [] a1 h0 n0 O0 H3) hZ (ow hw 39 rfl) (ow hw 28 rfl) (by decide) (by decide)) q5a q5c (g := (mkF m 19 #[rv a1, iv (0 : Int32), rv a1, .unset] [(.ref a1)])) rfl (by rw [hml]; rfl) (Steps.refl _) (argsL := []) (rest := []) (lenOf pd___Z rfl) rfl (by show 2 * 0 + _ ≤ _; exact Nat.le_of_eq rfl) (hb hby d12_19) (fun _ _ => ⟨rfl, e4, (by decide : 0 + 0 ≤ _), (by decide : 0 + 0 ≤ _)⟩)
  dsimp only [Pt.U, Pt.locs, Pt.cells, Pt.slots] at X5 l5 y5 z5 st5 hQ5
  subst l5 y5 z5
  obtain ⟨rfl, N5q, e5⟩ := hQ5
  have N5 := Fr.app N4 N5q
  obtain ⟨cq6, kq6, q6a, q6b, q6c⟩ := isOf hZ e5 (H2.ext O0.2)
  obtain ⟨_, _, ⟨T6, L6, k6, n6⟩, -, X6, ⟨Lc6, hQ6, l6, y6, z6⟩, st6⟩ := X5.virtualBack hx (y := y14) (z := y14) hown (mvT hZ (ow hw 42 rfl)) (mvT hZ (ow hw 43 rfl)) (notFace_of_selects (args := #[]) (mvT hZ (ow hw 45 rfl))) (mvT hZ (ow hw 45 rfl)) (mvT hZ (ow hw 44 rfl)) (by decide) (backOf (W := 0) (r14_1 l Z a0 hw [] a1 h0 n0 O0 H3) hZ (ow hw 46 rfl) (ow hw 28 rfl) (by decide) (by decide)) q6a q6c (g := (mkF m 26 #[rv a1, iv (0 : Int32), rv a1, .unset] [(.ref a1)])) rfl (by rw [hml]; rfl) (Steps.refl _) (argsL := []) (rest := []) (lenOf pd___Z rfl) rfl (by show 2 * 0 + _ ≤ _; exact Nat.le_of_eq rfl) (hb hby d12_26) (fun _ _ => ⟨rfl, e5, (by decide : 0 + 0 ≤ _), (by decide : 0 + 0 ≤ _)⟩)
  dsimp only [Pt.U, Pt.locs, Pt.cells, Pt.slots] at X6 l6 y6 z6 st6 hQ6
  subst l6 y6 z6
  obtain ⟨rfl, N6q, e6⟩ := hQ6
  have N6 := Fr.app N5 N6q
  obtain ⟨cq7, kq7, q7a, q7b, q7c⟩ := isOf hZ e6 (H2.ext O0.2)
  obtain ⟨_, _, ⟨T7, L7, k7, n7⟩, -, X7, ⟨Lc7, hQ7, l7, y7, z7⟩, st7⟩ := X6.virtualBack hx (y := y13) (z := y13) hown (mvT hZ (ow hw 35 rfl)) (mvT hZ (ow hw 36 rfl)) (notFace_of_selects (args := #[]) (mvT hZ (ow hw 38 rfl))) (mvT hZ (ow hw 38 rfl)) (mvT hZ (ow hw 37 rfl)) (by decide) (backOf (W := 0) (r13_1 l Z a0 hw [] a1 h0 n0 O0 H3) hZ (ow hw 39 rfl) (ow hw 28 rfl) (by decide) (by decide)) q7a q7c (g := (mkF m 40 #[rv a1, iv (0 : Int32), rv a1, .unset] [(.ref a1)])) rfl (by rw [hml]; rfl) (Steps.refl _) (argsL := []) (rest := []) (lenOf pd___Z rfl) rfl (by show 2 * 0 + _ ≤ _; exact Nat.le_of_eq rfl) (hb hby d12_40) (fun _ _ => ⟨rfl, e6, (by decide : 0 + 0 ≤ _), (by decide : 0 + 0 ≤ _)⟩)
  dsimp only [Pt.U, Pt.locs, Pt.cells, Pt.slots] at X7 l7 y7 z7 st7 hQ7
  subst l7 y7 z7
  obtain ⟨rfl, N7q, e7⟩ := hQ7
  have N7 := Fr.app N6 N7q
  obtain ⟨T10, X10, e10, st10⟩ := getS2 X7 hx hZ hown (host := "") (Or.inl (ow hw 47 rfl)) Via.refl e7 (H9.ext O0.2) (g := (mkF m 46 #[rv a1, iv (0 : Int32), rv a1, .unset] [])) rfl (hb hby d12_46)
  obtain ⟨fs, hr, hrun, hended, hW, hsame⟩ := X10.leave (v := some (.ref a8)) (fun h => by rw [Bd.returns] at h; cases h)
  refine ⟨_, _, pre0 _ ?_, hrun, hended, _, _, rfl, ?_, ⟨_, rfl⟩, hW, hsame.mono (by decide) (by decide)⟩
  · show St p e below s₁ m 0 #[rv a1, iv (0 : Int32), rv a1, .unset] [] _
    refine XS.aloadN X0.here hx rfl (hb hby d12_0) rfl rfl ?_
    show St p e below s₁ m 1 #[rv a1, iv (0 : Int32), rv a1, .unset] [(.ref a1)] _
    refine st4.trans ?_
    show St p e below T4 m 4 #[rv a1, iv (0 : Int32), rv a1, .unset] [(.int (1 : Int32))] _
    refine XS.ifNo X4.here hx rfl (hb hby d12_4) rfl ((if0 _ _).trans (feq (by decide : ¬ ((1 : Int32) = (0 : Int32)))).1) ?_
    show St p e below T4 m 7 #[rv a1, iv (0 : Int32), rv a1, .unset] [] _
    refine XS.iloadN X4.here hx rfl (hb hby d12_7) rfl ?_
    show St p e below T4 m 8 #[rv a1, iv (0 : Int32), rv a1, .unset] [(.int (0 : Int32))] _
    refine XS.ifYes X4.here hx rfl (pc0 := 8) (pc' := 18) rfl (hb hby d12_8) rfl ((if0 _ _).trans (teq (rfl : (0 : Int32) = (0 : Int32))).1) (by decide) (by decide) ?_
    show St p e below T4 m 18 #[rv a1, iv (0 : Int32), rv a1, .unset] [] _
    refine XS.aloadN X4.here hx rfl (hb hby d12_18) rfl rfl ?_
    show St p e below T4 m 19 #[rv a1, iv (0 : Int32), rv a1, .unset] [(.ref a1)] _
    refine st5.trans ?_
    show St p e below T5 m 22 #[rv a1, iv (0 : Int32), rv a1, .unset] [(.int (1 : Int32))] _
    refine XS.ifNo X5.here hx rfl (hb hby d12_22) rfl ((if0 _ _).trans (feq (by decide : ¬ ((1 : Int32) = (0 : Int32)))).1) ?_
    show St p e below T5 m 25 #[rv a1, iv (0 : Int32), rv a1, .unset] [] _
    refine XS.aloadN X5.here hx rfl (hb hby d12_25) rfl rfl ?_
    show St p e below T5 m 26 #[rv a1, iv (0 : Int32), rv a1, .unset] [(.ref a1)] _
    refine st6.trans ?_
    show St p e below T6 m 29 #[rv a1, iv (0 : Int32), rv a1, .unset] [(.int (0 : Int32))] _
    refine XS.ifYes X6.here hx rfl (pc0 := 29) (pc' := 39) rfl (hb hby d12_29) rfl ((if0 _ _).trans (teq (rfl : (0 : Int32) = (0 : Int32))).1) (by decide) (by decide) ?_
    show St p e below T6 m 39 #[rv a1, iv (0 : Int32), rv a1, .unset] [] _
    refine XS.aloadN X6.here hx rfl (hb hby d12_39) rfl rfl ?_
    show St p e below T6 m 40 #[rv a1, iv (0 : Int32), rv a1, .unset] [(.ref a1)] _
    refine st7.trans ?_
    show St p e below T7 m 43 #[rv a1, iv (0 : Int32), rv a1, .unset] [(.int (1 : Int32))] _
    refine XS.ifNo X7.here hx rfl (hb hby d12_43) rfl ((if0 _ _).trans (feq (by decide : ¬ ((1 : Int32) = (0 : Int32)))).1) ?_
    show St p e below T7 m 46 #[rv a1, iv (0 : Int32), rv a1, .unset] [] _
    refine st10 _ ?_
    show St p e below T10 m 49 #[rv a1, iv (0 : Int32), rv a1, .unset] [(.ref a8)] _
    refine XS.astoreN X10.here hx rfl (hb hby d12_49) rfl rfl (l' := #[rv a1, iv (0 : Int32), rv a1, rv a8]) rfl ?_
    show St p e below T10 m 50 #[rv a1, iv (0 : Int32), rv a1, rv a8] [] _
    refine XS.goto X10.here hx rfl (pc0 := 50) (pc' := 103) rfl (hb hby d12_50) (by decide) (by decide) ?_
    show St p e below T10 m 103 #[rv a1, iv (0 : Int32), rv a1, rv a8] [] _
    refine XS.aloadN X10.here hx rfl (hb hby d12_103) rfl rfl ?_
    show St p e below T10 m 104 #[rv a1, iv (0 : Int32), rv a1, rv a8] [(.ref a8)] _
    jvm_step X10.here [X10.here.top, hx, (hb hby d12_104), X10.method', Bd.returns, Value.isRef, FieldType.isReference]
    first | (intro acts; rw [hr _ acts rfl rfl rfl]) | rw [hr _ _ rfl rfl rfl]
    exact Steps.refl _
  · show r12_1Q Z a1 a8 h0 n0 _ T10.heap _
    rw [e10]
    exact ⟨rfl, N7, rfl⟩
theorem pd__Ljava_util_Optional_ZLjava_util_Optional__Lcom_example_agave_agave_store_RequestState_ : parseMethodDescriptor "(Ljava/util/Optional;ZLjava/util/Optional;)Lcom/example/agave/agave/store/RequestState;" = some ⟨[(.object "java/util/Optional"), .boolean, (.object "java/util/Optional")], some (.object "com/example/agave/agave/store/RequestState")⟩ := by decide +kernel
set_option maxRecDepth 65536 in
set_option maxHeartbeats 40000000 in
theorem g0_9 {p : Program} {l : Launch} {e : Env} {R : Room} {s : State} {m : MethodId} {args : Array Value} {below : List Frame} {meth : Method} {c : Code} {T0 : State} {locs : List Loc} {cells slots : Nat} {Z : State} {a0 : Array Value} {h0 : Heap} {n0 : Nat} (p1 : Int32) (p2 : Int32) (p3 : Int32) (p4 : Int32) (p5 : Int32) (p6 : Int32) (p7 : Int32) (a8 : Addr) (a9 : Addr) (a10 : Addr) (a11 : Addr) (a12 : Addr) (a13 : Addr) (a16 : Addr)
    (X0 : Stand p l e R s m args below meth c T0 locs cells slots) (hx : p.tables.exec = Jvm.exec) (hZ : Z.Warmed39 s.vm) (hw : HW a0 Z) (hby : c.code = code) (hml : c.maxLocals = 19) (hown : s.vm.findClass "com/example/agave/agave/store/RequestStateOfPinLaw" = some m.cls) (e0 : T0.heap = h0) (O0 : Old Z n0 h0) (N0 : Fr n0 locs) (rc : cells + 0 ≤ R.cells) (rs : slots + 0 ≤ R.slots) (rf : 2 ≤ R.frames) (rl : 27 ≤ R.locals) (H14 : Exa Z Z.heap a13 "java/util/Optional") (H15 : Fld Z Z.heap a13 "java/util/Optional" "value" "Ljava/lang/Object;" .null) (H17 : Sta Z Z.heap "com/example/agave/agave/store/RequestState" "UNKNOWN" "Lcom/example/agave/agave/store/RequestState;" (.ref a16)) :
    ∃ (T' : State) (L' : List Loc), Stand p l e R s m args below meth c T' L' (cells + 0) (slots + 0) ∧ T'.heap = h0 ∧ Fr n0 L' ∧
      ∀ target, St p e below T' m 320 #[iv p1, iv p2, iv p3, iv (0 : Int32), iv (0 : Int32), iv (0 : Int32), iv p4, iv p5, iv p6, iv p7, rv a8, rv a9, rv a10, rv a11, rv a12, rv a13, rv a13, rv a16, rv a16] [(.int (1 : Int32))] target → St p e below T0 m 228 #[iv p1, iv p2, iv p3, iv (0 : Int32), iv (0 : Int32), iv (0 : Int32), iv p4, iv p5, iv p6, iv p7, rv a8, rv a9, rv a10, rv a11, rv a12, rv a13, rv a13, .unset, .unset] [] target := by
  obtain ⟨_, _, ⟨T18, L18, k18, n18⟩, -, X18, ⟨Lc18, hQ18, l18, y18, z18⟩, st18⟩ := Jvm.LawKit.callS X0 hx (y := y12) hown (mvT hZ (ow hw 31 rfl)) (mvT hZ (ow hw 32 rfl)) (mvT hZ (ow hw 33 rfl)) (mvT hZ (ow hw 34 rfl)) (by decide) (backOf (W := 0) (r12_1 l Z a0 hw [] a13 a16 h0 n0 O0 H14 H15 H17) hZ (ow hw 34 rfl) (ow hw 33 rfl) (by show 1 + 1 ≤ R.frames; omega) (by show 0 + (4 + 11) + 12 ≤ R.locals; omega)) (g := (mkF m 234 #[iv p1, iv p2, iv p3, iv (0 : Int32), iv (0 : Int32), iv (0 : Int32), iv p4, iv p5, iv p6, iv p7, rv a8, rv a9, rv a10, rv a11, rv a12, rv a13, rv a13, .unset, .unset] [(.ref a13), (.int (0 : Int32)), (.ref a13)])) rfl (by rw [hml]; rfl) (argsL := [(.ref a13), (.int (0 : Int32)), (.ref a13)]) (rest := []) (lenOf pd__Ljava_util_Optional_ZLjava_util_Optional__Lcom_example_agave_agave_store_RequestState_ rfl) rfl (by show 2 * 0 + _ ≤ _; exact Nat.le_of_eq rfl) (hb hby at_234) (fun _ _ => ⟨rfl, e0, (by show cells + 0 + 0 ≤ R.cells; omega), (by show slots + 0 + 0 ≤ R.slots; omega)⟩)
  dsimp only [Pt.U, Pt.locs, Pt.cells, Pt.slots] at X18 l18 y18 z18 st18 hQ18
  subst l18
  rw [y18, z18] at X18
  obtain ⟨rfl, N18q, e18⟩ := hQ18
  have N18 := Fr.app N0 N18q
  replace X18 : Stand p l e R _ m args below meth c T18 _ (cells + 0) (slots + 0) := X18
  obtain ⟨T19, X19, e19, st19⟩ := getS2 X18 hx hZ hown (host := "") (Or.inl (ow hw 49 rfl)) Via.refl e18 (H17.ext O0.2) (g := (mkF m 303 #[iv p1, iv p2, iv p3, iv (0 : Int32), iv (0 : Int32), iv (0 : Int32), iv p4, iv p5, iv p6, iv p7, rv a8, rv a9, rv a10, rv a11, rv a12, rv a13, rv a13, rv a16, .unset] [])) rfl (hb hby at_303)
  refine ⟨T19, _, X19.more (by omega) (by omega), e19, N18, fun target kt => ?_⟩
  show St p e below T0 m 228 #[iv p1, iv p2, iv p3, iv (0 : Int32), iv (0 : Int32), iv (0 : Int32), iv p4, iv p5, iv p6, iv p7, rv a8, rv a9, rv a10, rv a11, rv a12, rv a13, rv a13, .unset, .unset] [] _
  refine XS.aload X0.here hx rfl (hb hby at_228) rfl rfl ?_
  show St p e below T0 m 230 #[iv p1, iv p2, iv p3, iv (0 : Int32), iv (0 : Int32), iv (0 : Int32), iv p4, iv p5, iv p6, iv p7, rv a8, rv a9, rv a10, rv a11, rv a12, rv a13, rv a13, .unset, .unset] [(.ref a13)] _
  refine XS.iload X0.here hx rfl (hb hby at_230) rfl ?_
  show St p e below T0 m 232 #[iv p1, iv p2, iv p3, iv (0 : Int32), iv (0 : Int32), iv (0 : Int32), iv p4, iv p5, iv p6, iv p7, rv a8, rv a9, rv a10, rv a11, rv a12, rv a13, rv a13, .unset, .unset] [(.int (0 : Int32)), (.ref a13)] _
  refine XS.aload X0.here hx rfl (hb hby at_232) rfl rfl ?_
  show St p e below T0 m 234 #[iv p1, iv p2, iv p3, iv (0 : Int32), iv (0 : Int32), iv (0 : Int32), iv p4, iv p5, iv p6, iv p7, rv a8, rv a9, rv a10, rv a11, rv a12, rv a13, rv a13, .unset, .unset] [(.ref a13), (.int (0 : Int32)), (.ref a13)] _
  refine st18 _ ?_
  show St p e below T18 m 237 #[iv p1, iv p2, iv p3, iv (0 : Int32), iv (0 : Int32), iv (0 : Int32), iv p4, iv p5, iv p6, iv p7, rv a8, rv a9, rv a10, rv a11, rv a12, rv a13, rv a13, .unset, .unset] [(.ref a16)] _
  refine XS.astore X18.here hx rfl (hb hby at_237) rfl rfl (l' := #[iv p1, iv p2, iv p3, iv (0 : Int32), iv (0 : Int32), iv (0 : Int32), iv p4, iv p5, iv p6, iv p7, rv a8, rv a9, rv a10, rv a11, rv a12, rv a13, rv a13, rv a16, .unset]) rfl ?_
  show St p e below T18 m 239 #[iv p1, iv p2, iv p3, iv (0 : Int32), iv (0 : Int32), iv (0 : Int32), iv p4, iv p5, iv p6, iv p7, rv a8, rv a9, rv a10, rv a11, rv a12, rv a13, rv a13, rv a16, .unset] [] _
  refine XS.iloadN X18.here hx rfl (hb hby at_239) rfl ?_
  show St p e below T18 m 240 #[iv p1, iv p2, iv p3, iv (0 : Int32), iv (0 : Int32), iv (0 : Int32), iv p4, iv p5, iv p6, iv p7, rv a8, rv a9, rv a10, rv a11, rv a12, rv a13, rv a13, rv a16, .unset] [(.int (0 : Int32))] _
  refine XS.ifYes X18.here hx rfl (pc0 := 240) (pc' := 277) rfl (hb hby at_240) rfl ((if0 _ _).trans (teq (rfl : (0 : Int32) = (0 : Int32))).1) (by decide) (by decide) ?_
  show St p e below T18 m 277 #[iv p1, iv p2, iv p3, iv (0 : Int32), iv (0 : Int32), iv (0 : Int32), iv p4, iv p5, iv p6, iv p7, rv a8, rv a9, rv a10, rv a11, rv a12, rv a13, rv a13, rv a16, .unset] [] _
  refine XS.iload X18.here hx rfl (hb hby at_277) rfl ?_
  show St p e below T18 m 279 #[iv p1, iv p2, iv p3, iv (0 : Int32), iv (0 : Int32), iv (0 : Int32), iv p4, iv p5, iv p6, iv p7, rv a8, rv a9, rv a10, rv a11, rv a12, rv a13, rv a13, rv a16, .unset] [(.int (0 : Int32))] _
  refine XS.ifYes X18.here hx rfl (pc0 := 279) (pc' := 290) rfl (hb hby at_279) rfl ((if0 _ _).trans (teq (rfl : (0 : Int32) = (0 : Int32))).1) (by decide) (by decide) ?_
  show St p e below T18 m 290 #[iv p1, iv p2, iv p3, iv (0 : Int32), iv (0 : Int32), iv (0 : Int32), iv p4, iv p5, iv p6, iv p7, rv a8, rv a9, rv a10, rv a11, rv a12, rv a13, rv a13, rv a16, .unset] [] _
  refine XS.iload X18.here hx rfl (hb hby at_290) rfl ?_
  show St p e below T18 m 292 #[iv p1, iv p2, iv p3, iv (0 : Int32), iv (0 : Int32), iv (0 : Int32), iv p4, iv p5, iv p6, iv p7, rv a8, rv a9, rv a10, rv a11, rv a12, rv a13, rv a13, rv a16, .unset] [(.int (0 : Int32))] _
  refine XS.ifYes X18.here hx rfl (pc0 := 292) (pc' := 303) rfl (hb hby at_292) rfl ((if0 _ _).trans (teq (rfl : (0 : Int32) = (0 : Int32))).1) (by decide) (by decide) ?_
  show St p e below T18 m 303 #[iv p1, iv p2, iv p3, iv (0 : Int32), iv (0 : Int32), iv (0 : Int32), iv p4, iv p5, iv p6, iv p7, rv a8, rv a9, rv a10, rv a11, rv a12, rv a13, rv a13, rv a16, .unset] [] _
  refine st19 _ ?_
  show St p e below T19 m 306 #[iv p1, iv p2, iv p3, iv (0 : Int32), iv (0 : Int32), iv (0 : Int32), iv p4, iv p5, iv p6, iv p7, rv a8, rv a9, rv a10, rv a11, rv a12, rv a13, rv a13, rv a16, .unset] [(.ref a16)] _
  refine XS.astore X19.here hx rfl (hb hby at_306) rfl rfl (l' := #[iv p1, iv p2, iv p3, iv (0 : Int32), iv (0 : Int32), iv (0 : Int32), iv p4, iv p5, iv p6, iv p7, rv a8, rv a9, rv a10, rv a11, rv a12, rv a13, rv a13, rv a16, rv a16]) rfl ?_
  show St p e below T19 m 308 #[iv p1, iv p2, iv p3, iv (0 : Int32), iv (0 : Int32), iv (0 : Int32), iv p4, iv p5, iv p6, iv p7, rv a8, rv a9, rv a10, rv a11, rv a12, rv a13, rv a13, rv a16, rv a16] [] _
  refine XS.aload X19.here hx rfl (hb hby at_308) rfl rfl ?_
  show St p e below T19 m 310 #[iv p1, iv p2, iv p3, iv (0 : Int32), iv (0 : Int32), iv (0 : Int32), iv p4, iv p5, iv p6, iv p7, rv a8, rv a9, rv a10, rv a11, rv a12, rv a13, rv a13, rv a16, rv a16] [(.ref a16)] _
  refine XS.aload X19.here hx rfl (hb hby at_310) rfl rfl ?_
  show St p e below T19 m 312 #[iv p1, iv p2, iv p3, iv (0 : Int32), iv (0 : Int32), iv (0 : Int32), iv p4, iv p5, iv p6, iv p7, rv a8, rv a9, rv a10, rv a11, rv a12, rv a13, rv a13, rv a16, rv a16] [(.ref a16), (.ref a16)] _
  refine Jvm.RoadKit.acmp (g := (mkF m 312 #[iv p1, iv p2, iv p3, iv (0 : Int32), iv (0 : Int32), iv (0 : Int32), iv p4, iv p5, iv p6, iv p7, rv a8, rv a9, rv a10, rv a11, rv a12, rv a13, rv a13, rv a16, rv a16] [(.ref a16), (.ref a16)])) X19 hx rfl rfl rfl (pc0 := 312) (pc' := 315) (same := true) rfl (hb hby at_312) rfl (decide_eq_true rfl) (by decide) (by decide) ?_
  show St p e below T19 m 315 #[iv p1, iv p2, iv p3, iv (0 : Int32), iv (0 : Int32), iv (0 : Int32), iv p4, iv p5, iv p6, iv p7, rv a8, rv a9, rv a10, rv a11, rv a12, rv a13, rv a13, rv a16, rv a16] [] _
  refine XS.iconst X19.here hx rfl (hb hby at_315) ?_
  show St p e below T19 m 316 #[iv p1, iv p2, iv p3, iv (0 : Int32), iv (0 : Int32), iv (0 : Int32), iv p4, iv p5, iv p6, iv p7, rv a8, rv a9, rv a10, rv a11, rv a12, rv a13, rv a13, rv a16, rv a16] [(.int (1 : Int32))] _
  refine XS.goto X19.here hx rfl (pc0 := 316) (pc' := 320) rfl (hb hby at_316) (by decide) (by decide) ?_
  exact kt
theorem pn_com_example_agave_agave_store_RequestStateOfPinLaw : plainName "com/example/agave/agave/store/RequestStateOfPinLaw" = true := by first | (simp [plainName, overriddenIn]; done) | decide +kernel
def law_1Q (Z : State) (wRequestState_UNKNOWN : Addr) (wRequestState_IN_PROGRESS : Addr) (wRequestState_REMOVED : Addr) (wRequestState_DONE : Addr) (wRequestState_FAILED : Addr) (wOptional_EMPTY : Addr) (wIntegerCache_cache : Addr) (zCOMPACT_STRINGS : Int32) (clC : Cell) (i0 : Int32) (i1 : Int32) (i2 : Int32) (h0 : Heap) (n0 : Nat) (v : Option Value) (h : Heap) (L : List Loc) : Prop := v = some (.int (1 : Int32)) ∧ Fr n0 L
theorem law_1e (m : MethodId) (wRequestState_UNKNOWN : Addr) (wRequestState_IN_PROGRESS : Addr) (wRequestState_REMOVED : Addr) (wRequestState_DONE : Addr) (wRequestState_FAILED : Addr) (wOptional_EMPTY : Addr) (wIntegerCache_cache : Addr) (zCOMPACT_STRINGS : Int32) (clC : Cell) (i0 : Int32) (i1 : Int32) (i2 : Int32) : entryFrame m #[(.int i0), (.int i1), (.int i2)] maxLocals = mkF m 0 #[iv i0, iv i1, iv i2, .unset, .unset, .unset, .unset, .unset, .unset, .unset, .unset, .unset, .unset, .unset, .unset, .unset, .unset, .unset, .unset] [] := by first | (simp [entryFrame, mkF, argsToLocals, Value.category, maxLocals]; done) | rfl
set_option maxRecDepth 65536 in
set_option maxHeartbeats 40000000 in
theorem law_1 (l : Launch) (Z : State) (a0 : Array Value) (hw : HW a0 Z) (ws : List Jvm.Cond) (wRequestState_UNKNOWN : Addr) (wRequestState_IN_PROGRESS : Addr) (wRequestState_REMOVED : Addr) (wRequestState_DONE : Addr) (wRequestState_FAILED : Addr) (wOptional_EMPTY : Addr) (wIntegerCache_cache : Addr) (zCOMPACT_STRINGS : Int32) (clC : Cell) (B : Base Z wRequestState_UNKNOWN wRequestState_IN_PROGRESS wRequestState_REMOVED wRequestState_DONE wRequestState_FAILED wOptional_EMPTY wIntegerCache_cache zCOMPACT_STRINGS clC) (i0 : Int32) (i1 : Int32) (i2 : Int32) (h0 : Heap) (n0 : Nat) (O0 : Old Z n0 h0) (pin0 : (own_b (i0 &&& (1 : Int32))) = (0 : Int32)) (pin1 : (own_b (i0 &&& (2 : Int32))) = (0 : Int32)) (pin2 : (own_b (i0 &&& (4 : Int32))) = (0 : Int32)) (pin3 : (own_b (i0 &&& (8 : Int32))) = (0 : Int32)) (pin4 : (own_b (i0 &&& (16 : Int32))) = (0 : Int32)) (hc3 : ¬ ((255 : Int32) < ((i1 &&& (255 : Int32)).toUInt32.toUInt16.toUInt32.toInt32))) (hc4 : ¬ ((255 : Int32) < ((i2 &&& (255 : Int32)).toUInt32.toUInt16.toUInt32.toInt32))) :
    MetFree l x (head1 (Jvm.Cond.code x code maxLocals ret :: ws) room_1) (fun a U => a = #[(.int i0), (.int i1), (.int i2)] ∧ Z.Warmed39 U.vm ∧ U.heap = h0) (fun _ _ _ _ _ => True) (fun _ U o U' => ∃ v L, o = .returned v ∧ law_1Q Z wRequestState_UNKNOWN wRequestState_IN_PROGRESS wRequestState_REMOVED wRequestState_DONE wRequestState_FAILED wOptional_EMPTY wIntegerCache_cache zCOMPACT_STRINGS clC i0 i1 i2 h0 n0 v U'.heap L ∧ FrameEnd U o U' L room_1.cells room_1.slots) := by
  refine MetFree.of_bodySF (plainFor_of_name pn_com_example_agave_agave_store_RequestStateOfPinLaw) hisR ?_
  intro p e s m args below meth c s₁ Bd hml0 hP hK
  obtain ⟨rfl, hZ, hh⟩ := hP
  have hx := Bd.exec
  have hby := Bd.bytes
  have hml : c.maxLocals = 19 := hml0
  have hown : s.vm.findClass "com/example/agave/agave/store/RequestStateOfPinLaw" = some m.cls := findClass_of_methodNamed Bd.named
  have hnm := (name_of_methodNamed Bd.named Bd.method).1
  have X0 : Stand p l e room_1 s m #[(.int i0), (.int i1), (.int i2)] below meth c s₁ [] 0 0 := Stand.of_body Bd
  have e0 : s₁.heap = h0 := by rw [← hh, Bd.state]; rfl
  have N0 := Fr.nil n0
  have pre0 : ∀ t, Steps p.tables e below (s₁.setTop (mkF m 0 #[iv i0, iv i1, iv i2, .unset, .unset, .unset, .unset, .unset, .unset, .unset, .unset, .unset, .unset, .unset, .unset, .unset, .unset, .unset, .unset] [])) t → Steps p.tables e below (s₁.setTop (entryFrame m #[(.int i0), (.int i1), (.int i2)] maxLocals)) t := fun t k => castTop (law_1e m wRequestState_UNKNOWN wRequestState_IN_PROGRESS wRequestState_REMOVED wRequestState_DONE wRequestState_FAILED wOptional_EMPTY wIntegerCache_cache zCOMPACT_STRINGS clC i0 i1 i2) k
  obtain ⟨T1, L1, X1, e1, N1, st1⟩ := g0_1 i0 i1 i2 X0 hx hZ hw hby hml hown e0 O0 N0 (by decide) (by decide) (by decide) (by decide)
  obtain ⟨T5, h5, L5, b5_0, b5_1, b5_2, b5_3, k5_0, k5_1, X5, e5, N5, K5, lo5_1, lo5_2, lo5_3, lo5_4, nq5_5, nq5_6, nq5_7, nq5_8, nq5_9, nq5_10, f5_11, f5_12, f5_13, f5_14, f5_15, f5_16, f5_17, f5_18, f5_19, f5_20, st5⟩ := g0_2 i0 i1 i2 (0 : Int32) (0 : Int32) (0 : Int32) (0 : Int32) (0 : Int32) (own_b (i0 &&& (32 : Int32))) (own_b (i0 &&& (64 : Int32))) zCOMPACT_STRINGS X1 hx hZ hw hby hml hown e1 O0 N1 (by decide) (by decide) (by decide) (by decide) B.2.2.2.2.2.2.2.2.2.2.2.2.2.2.2.1 B.2.2.2.2.2.2.2.2.2.2.2.2.2.2.2.2.1 hc3 hc4
  have O_K5 : Old Z n0 h5 := O0.keep K5 all0
  have Kp_K5 : Keep h0 h5 [] := (Keep.refl h0 []).trans K5 all0
  obtain ⟨T6, L6, X6, e6, N6, st6⟩ := g0_3 i0 i1 i2 (0 : Int32) (0 : Int32) (0 : Int32) (0 : Int32) (own_b (i0 &&& (32 : Int32))) (own_b (i0 &&& (64 : Int32))) b5_0 b5_1 wOptional_EMPTY X5 hx hZ hw hby hml hown e5 O_K5 N5 (by decide) (by decide) (by decide) (by decide) B.2.2.2.2.2.2.2.2.2.2.1
  obtain ⟨T7, L7, X7, e7, N7, st7⟩ := g0_4 i0 i1 i2 (0 : Int32) (0 : Int32) (0 : Int32) (0 : Int32) (own_b (i0 &&& (32 : Int32))) (own_b (i0 &&& (64 : Int32))) b5_0 b5_1 wOptional_EMPTY wOptional_EMPTY X6 hx hZ hw hby hml hown e6 O_K5 N6 (by decide) (by decide) (by decide) (by decide) B.2.2.2.2.2.2.2.2.2.2.1
  obtain ⟨T8, h8, L8, b8_0, X8, e8, N8, K8, st8⟩ := m0_1 i0 i1 i2 (0 : Int32) (0 : Int32) (0 : Int32) (0 : Int32) (0 : Int32) (own_b (i0 &&& (32 : Int32))) (own_b (i0 &&& (64 : Int32))) b5_0 b5_1 wOptional_EMPTY wOptional_EMPTY wOptional_EMPTY wIntegerCache_cache clC X7 hx hZ hw hby hml hown e7 O_K5 N7 (by decide) (by decide) (by decide) (by decide) B.2.2.2.2.2.2.2.2.2.2.1 B.2.2.2.2.2.2.2.2.2.2.1 B.2.2.2.2.2.2.2.2.2.2.2.2.1 B.2.2.2.2.2.2.2.2.2.2.2.2.2.1 B.2.2.2.2.2.2.2.2.2.2.2.2.2.2.2.2.2.2.2.2.2.2.2.2.2.2.2.2.2.1 B.2.2.2.2.2.2.2.2.2.2.2.2.2.2.2.2.2.2.2.2.2.2.2.2.2.2.2.2.2.2.1 B.2.2.2.2.2.2.2.2.2.2.2.2.2.2.2.2.2.2.2.2.2.2.2.2.2.2.2.2.2.2.2
  have O_K8 : Old Z n0 h8 := O_K5.keep K8 all0
  have Kp_K8 : Keep h0 h8 [] := Kp_K5.trans K8 all0
  obtain ⟨T9, L9, X9, e9, N9, st9⟩ := g0_7 i0 i1 i2 (0 : Int32) (0 : Int32) (0 : Int32) (0 : Int32) (own_b (i0 &&& (32 : Int32))) (own_b (i0 &&& (64 : Int32))) b5_0 b5_1 wOptional_EMPTY wOptional_EMPTY b8_0 wOptional_EMPTY X8 hx hZ hw hby hml hown e8 O_K8 N8 (by decide) (by decide) (by decide) (by decide) B.2.2.2.2.2.2.2.2.2.2.1
  obtain ⟨T10, L10, X10, e10, N10, st10⟩ := g0_8 i0 i1 i2 (0 : Int32) (0 : Int32) (0 : Int32) (0 : Int32) (own_b (i0 &&& (32 : Int32))) (own_b (i0 &&& (64 : Int32))) b5_0 b5_1 wOptional_EMPTY wOptional_EMPTY b8_0 wOptional_EMPTY wOptional_EMPTY X9 hx hZ hw hby hml hown e9 O_K8 N9 (by decide) (by decide) (by decide) (by decide) B.2.2.2.2.2.2.2.2.2.2.1
  obtain ⟨T11, L11, X11, e11, N11, st11⟩ := g0_9 i0 i1 i2 (0 : Int32) (0 : Int32) (own_b (i0 &&& (32 : Int32))) (own_b (i0 &&& (64 : Int32))) b5_0 b5_1 wOptional_EMPTY wOptional_EMPTY b8_0 wOptional_EMPTY wRequestState_UNKNOWN X10 hx hZ hw hby hml hown e10 O_K8 N10 (by decide) (by decide) (by decide) (by decide) B.2.2.2.2.2.2.2.2.2.2.2.1 B.2.2.2.2.2.2.2.2.2.2.2.2.2.2.2.2.2.1 B.1
  obtain ⟨fs, hr, hrun, hended, hW, hsame⟩ := X11.leave (v := some (.int (1 : Int32))) (fun h => by rw [Bd.returns] at h; cases h)
  refine ⟨_, _, pre0 _ ?_, hrun, hended, _, _, rfl, ?_, ⟨_, rfl⟩, hW, hsame.mono (by decide) (by decide)⟩
  · refine st1 _ ?_
    show St p e below T1 m 94 #[iv i0, iv i1, iv i2, iv (own_b (i0 &&& (1 : Int32))), iv (own_b (i0 &&& (2 : Int32))), iv (own_b (i0 &&& (4 : Int32))), iv (own_b (i0 &&& (8 : Int32))), iv (own_b (i0 &&& (16 : Int32))), iv (own_b (i0 &&& (32 : Int32))), iv (own_b (i0 &&& (64 : Int32))), .unset, .unset, .unset, .unset, .unset, .unset, .unset, .unset, .unset] [] _
    rw [pin0]
    rw [pin1]
    rw [pin2]
    rw [pin3]
    rw [pin4]
    refine st5 _ ?_
    refine st6 _ ?_
    refine st7 _ ?_
    refine st8 _ ?_
    refine st9 _ ?_
    refine st10 _ ?_
    refine st11 _ ?_
    show St p e below T11 m 320 #[iv i0, iv i1, iv i2, iv (0 : Int32), iv (0 : Int32), iv (0 : Int32), iv (0 : Int32), iv (0 : Int32), iv (own_b (i0 &&& (32 : Int32))), iv (own_b (i0 &&& (64 : Int32))), rv b5_0, rv b5_1, rv wOptional_EMPTY, rv wOptional_EMPTY, rv b8_0, rv wOptional_EMPTY, rv wOptional_EMPTY, rv wRequestState_UNKNOWN, rv wRequestState_UNKNOWN] [(.int (1 : Int32))] _
    exact retN X11 hx (t := .boolean) Bd.returns (by simp) (hb hby at_320) hr
  · show law_1Q Z wRequestState_UNKNOWN wRequestState_IN_PROGRESS wRequestState_REMOVED wRequestState_DONE wRequestState_FAILED wOptional_EMPTY wIntegerCache_cache zCOMPACT_STRINGS clC i0 i1 i2 h0 n0 _ T11.heap _
    rw [e11]
    exact ⟨rfl, N11⟩
theorem d15_0 : decode prog_23_method_1_code 0 = .ok (.aload_n 0, 1) := by decide +kernel
theorem d15_1 : decode prog_23_method_1_code 1 = .ok (.invokespecial 1, 3) := by decide +kernel
theorem d16_0 : decode jdk_30_method_1_code 0 = .ok (.aload_n 0, 1) := by decide +kernel
theorem d16_1 : decode jdk_30_method_1_code 1 = .ok (.invokespecial 1, 3) := by decide +kernel
theorem d16_4 : decode jdk_30_method_1_code 4 = .ok (.return_, 1) := by decide +kernel
abbrev y16 : MethodName := ⟨"java/lang/Record", "<init>", "()V"⟩
theorem pn_java_lang_Record : plainName "java/lang/Record" = true := by first | (simp [plainName, overriddenIn]; done) | decide +kernel
def r16_1Q (Z : State) (a1 : Addr) (h0 : Heap) (n0 : Nat) (v : Option Value) (h : Heap) (L : List Loc) : Prop := v = none ∧ Fr n0 L ∧ h = h0
theorem r16_1e (m : MethodId) (a1 : Addr) : entryFrame m #[(.ref a1)] 1 = mkF m 0 #[rv a1] [] := by first | (simp [entryFrame, mkF, argsToLocals, Value.category]; done) | rfl
set_option maxRecDepth 65536 in
set_option maxHeartbeats 40000000 in
theorem r16_1 (l : Launch) (Z : State) (a0 : Array Value) (hw : HW a0 Z) (ws : List Jvm.Cond) (a1 : Addr) (h0 : Heap) (n0 : Nat) (O0 : Old Z n0 h0) :
    MF l y16 jdk_30_method_1_code 1 none ws ({ frames := 1, cells := 0, slots := 0, locals := 12 } : Room) Z #[(.ref a1)] h0 (r16_1Q Z a1 h0 n0) := by
  refine MetFree.of_bodySF (plainFor_of_name pn_java_lang_Record) hisR ?_
  intro p e s m args below meth c s₁ Bd hml0 hP hK
  obtain ⟨rfl, hZ, hh⟩ := hP
  have hx := Bd.exec
  have hby := Bd.bytes
  have hml : c.maxLocals = 1 := hml0
  have hown : s.vm.findClass "java/lang/Record" = some m.cls := findClass_of_methodNamed Bd.named
  have hnm := (name_of_methodNamed Bd.named Bd.method).1
  have X0 : Stand p l e ({ frames := 1, cells := 0, slots := 0, locals := 12 } : Room) s m #[(.ref a1)] below meth c s₁ [] 0 0 := Stand.of_body Bd
  have e0 : s₁.heap = h0 := by rw [← hh, Bd.state]; rfl
  have N0 := Fr.nil n0
  have pre0 : ∀ t, Steps p.tables e below (s₁.setTop (mkF m 0 #[rv a1] [])) t → Steps p.tables e below (s₁.setTop (entryFrame m #[(.ref a1)] 1)) t := fun t k => castTop (r16_1e m a1) k
  obtain ⟨T2, X2, e2, st2⟩ := initO X0 hx hZ hown (ow hw 61 rfl) (ow hw 20 rfl) (ow hw 21 rfl) e0 (g := (mkF m 1 #[rv a1] [(.ref a1)])) rfl (by rw [hml]; rfl) rfl (hb hby d16_1) (by decide) (W := 0) (by show 2 * 0 + _ ≤ _; exact Nat.le_of_eq rfl) (by decide)
  obtain ⟨fs, hr, hrun, hended, hW, hsame⟩ := X2.leave (v := none) (fun _ => rfl)
  refine ⟨_, _, pre0 _ ?_, hrun, hended, _, _, rfl, ?_, ⟨_, rfl⟩, hW, hsame.mono (by decide) (by decide)⟩
  · show St p e below s₁ m 0 #[rv a1] [] _
    refine XS.aloadN X0.here hx rfl (hb hby d16_0) rfl rfl ?_
    show St p e below s₁ m 1 #[rv a1] [(.ref a1)] _
    refine st2 _ ?_
    show St p e below T2 m 4 #[rv a1] [] _
    exact X2.returnOut hx Bd.returns (hb hby d16_4) hr
  · show r16_1Q Z a1 h0 n0 _ T2.heap _
    rw [e2]
    exact ⟨rfl, N0, rfl⟩
theorem d15_4 : decode prog_23_method_1_code 4 = .ok (.aload_n 0, 1) := by decide +kernel
theorem d15_5 : decode prog_23_method_1_code 5 = .ok (.aload_n 1, 1) := by decide +kernel
theorem d15_6 : decode prog_23_method_1_code 6 = .ok (.putfield 7, 3) := by decide +kernel
theorem d15_9 : decode prog_23_method_1_code 9 = .ok (.aload_n 0, 1) := by decide +kernel
theorem d15_10 : decode prog_23_method_1_code 10 = .ok (.aload_n 2, 1) := by decide +kernel
theorem d15_11 : decode prog_23_method_1_code 11 = .ok (.putfield 13, 3) := by decide +kernel
theorem d15_14 : decode prog_23_method_1_code 14 = .ok (.aload_n 0, 1) := by decide +kernel
theorem d15_15 : decode prog_23_method_1_code 15 = .ok (.aload_n 3, 1) := by decide +kernel
theorem d15_16 : decode prog_23_method_1_code 16 = .ok (.putfield 16, 3) := by decide +kernel
theorem d15_19 : decode prog_23_method_1_code 19 = .ok (.aload_n 0, 1) := by decide +kernel
theorem d15_20 : decode prog_23_method_1_code 20 = .ok (.aload 4, 2) := by decide +kernel
theorem d15_22 : decode prog_23_method_1_code 22 = .ok (.putfield 20, 3) := by decide +kernel
theorem d15_25 : decode prog_23_method_1_code 25 = .ok (.aload_n 0, 1) := by decide +kernel
theorem d15_26 : decode prog_23_method_1_code 26 = .ok (.aload 5, 2) := by decide +kernel
theorem d15_28 : decode prog_23_method_1_code 28 = .ok (.putfield 23, 3) := by decide +kernel
theorem d15_31 : decode prog_23_method_1_code 31 = .ok (.return_, 1) := by decide +kernel
abbrev y15 : MethodName := ⟨"com/example/agave/agave/store/RequestStore$StoredRequest", "<init>", "(Ljava/lang/String;Ljava/lang/String;Ljava/util/Optional;Ljava/util/Optional;Ljava/util/Optional;)V"⟩
theorem pn_com_example_agave_agave_store_RequestStore_StoredRequest : plainName "com/example/agave/agave/store/RequestStore$StoredRequest" = true := by first | (simp [plainName, overriddenIn]; done) | decide +kernel
def r15_1Q (Z : State) (a1 : Addr) (a2 : Addr) (a3 : Addr) (a4 : Addr) (a5 : Addr) (a6 : Addr) (h0 : Heap) (n0 : Nat) (v : Option Value) (h : Heap) (L : List Loc) : Prop := v = none ∧ Fr n0 L ∧ Keep h0 h [a1] ∧ Fld Z h a1 "com/example/agave/agave/store/RequestStore$StoredRequest" "route" "Ljava/lang/String;" (.ref a2) ∧ Exa Z h a1 "com/example/agave/agave/store/RequestStore$StoredRequest" ∧ Fld Z h a1 "com/example/agave/agave/store/RequestStore$StoredRequest" "payload" "Ljava/lang/String;" (.ref a3) ∧ Fld Z h a1 "com/example/agave/agave/store/RequestStore$StoredRequest" "result" "Ljava/util/Optional;" (.ref a4) ∧ Fld Z h a1 "com/example/agave/agave/store/RequestStore$StoredRequest" "failure" "Ljava/util/Optional;" (.ref a5) ∧ Fld Z h a1 "com/example/agave/agave/store/RequestStore$StoredRequest" "statusCode" "Ljava/util/Optional;" (.ref a6)
theorem r15_1e (m : MethodId) (a1 : Addr) (a2 : Addr) (a3 : Addr) (a4 : Addr) (a5 : Addr) (a6 : Addr) : entryFrame m #[(.ref a1), (.ref a2), (.ref a3), (.ref a4), (.ref a5), (.ref a6)] 6 = mkF m 0 #[rv a1, rv a2, rv a3, rv a4, rv a5, rv a6] [] := by first | (simp [entryFrame, mkF, argsToLocals, Value.category]; done) | rfl
set_option maxRecDepth 65536 in
set_option maxHeartbeats 40000000 in
theorem r15_1 (l : Launch) (Z : State) (a0 : Array Value) (hw : HW a0 Z) (ws : List Jvm.Cond) (a1 : Addr) (a2 : Addr) (a3 : Addr) (a4 : Addr) (a5 : Addr) (a6 : Addr) (h0 : Heap) (n0 : Nat) (O0 : Old Z n0 h0) (H8 : Fld Z h0 a1 "com/example/agave/agave/store/RequestStore$StoredRequest" "route" "Ljava/lang/String;" .null) (H9 : Exa Z h0 a1 "com/example/agave/agave/store/RequestStore$StoredRequest") (H11 : n0 ≤ a1) (H14 : Fld Z h0 a1 "com/example/agave/agave/store/RequestStore$StoredRequest" "payload" "Ljava/lang/String;" .null) (H20 : Fld Z h0 a1 "com/example/agave/agave/store/RequestStore$StoredRequest" "result" "Ljava/util/Optional;" .null) (H26 : Fld Z h0 a1 "com/example/agave/agave/store/RequestStore$StoredRequest" "failure" "Ljava/util/Optional;" .null) (H32 : Fld Z h0 a1 "com/example/agave/agave/store/RequestStore$StoredRequest" "statusCode" "Ljava/util/Optional;" .null) :
    MF l y15 prog_23_method_1_code 6 none ws ({ frames := 2, cells := 0, slots := 0, locals := 24 } : Room) Z #[(.ref a1), (.ref a2), (.ref a3), (.ref a4), (.ref a5), (.ref a6)] h0 (r15_1Q Z a1 a2 a3 a4 a5 a6 h0 n0) := by
  refine MetFree.of_bodySF (plainFor_of_name pn_com_example_agave_agave_store_RequestStore_StoredRequest) hisR ?_
  intro p e s m args below meth c s₁ Bd hml0 hP hK
  obtain ⟨rfl, hZ, hh⟩ := hP
  have hx := Bd.exec
  have hby := Bd.bytes
  have hml : c.maxLocals = 6 := hml0
  have hown : s.vm.findClass "com/example/agave/agave/store/RequestStore$StoredRequest" = some m.cls := findClass_of_methodNamed Bd.named
  have hnm := (name_of_methodNamed Bd.named Bd.method).1
  have X0 : Stand p l e ({ frames := 2, cells := 0, slots := 0, locals := 24 } : Room) s m #[(.ref a1), (.ref a2), (.ref a3), (.ref a4), (.ref a5), (.ref a6)] below meth c s₁ [] 0 0 := Stand.of_body Bd
  have e0 : s₁.heap = h0 := by rw [← hh, Bd.state]; rfl
  have N0 := Fr.nil n0
  have pre0 : ∀ t, Steps p.tables e below (s₁.setTop (mkF m 0 #[rv a1, rv a2, rv a3, rv a4, rv a5, rv a6] [])) t → Steps p.tables e below (s₁.setTop (entryFrame m #[(.ref a1), (.ref a2), (.ref a3), (.ref a4), (.ref a5), (.ref a6)] 6)) t := fun t k => castTop (r15_1e m a1 a2 a3 a4 a5 a6) k
  obtain ⟨_, _, ⟨T7, L7, k7, n7⟩, -, X7, ⟨Lc7, hQ7, l7, y7, z7⟩, st7⟩ := X0.specialBack hx (y := y16) rfl hown (mvT hZ (ow hw 56 rfl)) (mvT hZ (ow hw 57 rfl)) (mvT hZ (ow hw 60 rfl)) (by decide) (backOf (W := 0) (r16_1 l Z a0 hw [] a1 h0 n0 O0) hZ (ow hw 60 rfl) (ow hw 59 rfl) (by decide) (by decide)) (g := (mkF m 1 #[rv a1, rv a2, rv a3, rv a4, rv a5, rv a6] [(.ref a1)])) rfl (by rw [hml]; rfl) (Steps.refl _) (a := a1) (argsL := []) (rest := []) (lenOf pd___V rfl) rfl (by show 2 * 0 + _ ≤ _; exact Nat.le_of_eq rfl) (hb hby d15_1) (fun _ _ => ⟨rfl, e0, (by decide : 0 + 0 ≤ _), (by decide : 0 + 0 ≤ _)⟩)
  dsimp only [Pt.U, Pt.locs, Pt.cells, Pt.slots] at X7 l7 y7 z7 st7 hQ7
  subst l7 y7 z7
  obtain ⟨rfl, N7q, e7⟩ := hQ7
  have N7 := Fr.app N0 N7q
  obtain ⟨T10, h10, X10, e10, W10, st10⟩ := putF X7 hx hZ hown (host := "") (Or.inl (ow hw 62 rfl)) Via.refl e7 H8 H9 (Or.inr ⟨(ow hw 63 rfl), rfl, hnm⟩) (ow hw 51 rfl) (ty := (.object "java/lang/String")) (by decide) rfl rfl (g := (mkF m 6 #[rv a1, rv a2, rv a3, rv a4, rv a5, rv a6] [(.ref a2), (.ref a1)])) rfl rfl (hb hby d15_6)
  have O_W10 : Old Z n0 h10 := O0.wr W10 H11
  have Kp_W10 : Keep h0 h10 [a1] := (Keep.refl h0 [a1]).wr W10 (Or.inl (List.mem_of_getElem? (i := 0) rfl))
  have N12 := Fr.snoc X10 N7 H11
  have f13 := H8.same W10
  have f15 := (H9.wr W10)
  have f16 := (H14.other W10 (Or.inr (slot_ne (Or.inr (ow hw 65 rfl)) (Or.inr (ow hw 63 rfl)) (by decide) (t := (.object "java/lang/String")) (t' := (.object "java/lang/String")) (by decide) (by decide))))
  obtain ⟨T17, h17, X17, e17, W17, st17⟩ := putF X10 hx hZ hown (host := "") (Or.inl (ow hw 64 rfl)) Via.refl e10 f16 f15 (Or.inr ⟨(ow hw 65 rfl), rfl, hnm⟩) (ow hw 51 rfl) (ty := (.object "java/lang/String")) (by decide) rfl rfl (g := (mkF m 11 #[rv a1, rv a2, rv a3, rv a4, rv a5, rv a6] [(.ref a3), (.ref a1)])) rfl rfl (hb hby d15_11)
  have O_W17 : Old Z n0 h17 := O_W10.wr W17 H11
  have Kp_W17 : Keep h0 h17 [a1] := Kp_W10.wr W17 (Or.inl (List.mem_of_getElem? (i := 0) rfl))
  have N18 := Fr.snoc X17 N12 H11
  have f19 := f16.same W17
  have f21 := (f15.wr W17)
  have f22 := ((H20.other W10 (Or.inr (slot_ne (Or.inr (ow hw 67 rfl)) (Or.inr (ow hw 63 rfl)) (by decide) (t := (.object "java/util/Optional")) (t' := (.object "java/lang/String")) (by decide) (by decide)))).other W17 (Or.inr (slot_ne (Or.inr (ow hw 67 rfl)) (Or.inr (ow hw 65 rfl)) (by decide) (t := (.object "java/util/Optional")) (t' := (.object "java/lang/String")) (by decide) (by decide))))
  obtain ⟨T23, h23, X23, e23, W23, st23⟩ := putF X17 hx hZ hown (host := "") (Or.inl (ow hw 66 rfl)) Via.refl e17 f22 f21 (Or.inr ⟨(ow hw 67 rfl), rfl, hnm⟩) (ow hw 51 rfl) (ty := (.object "java/util/Optional")) (by decide) rfl rfl (g := (mkF m 16 #[rv a1, rv a2, rv a3, rv a4, rv a5, rv a6] [(.ref a4), (.ref a1)])) rfl rfl (hb hby d15_16)
  have O_W23 : Old Z n0 h23 := O_W17.wr W23 H11
  have Kp_W23 : Keep h0 h23 [a1] := Kp_W17.wr W23 (Or.inl (List.mem_of_getElem? (i := 0) rfl))
  have N24 := Fr.snoc X23 N18 H11
  have f25 := f22.same W23
  have f27 := (f21.wr W23)
  have f28 := (((H26.other W10 (Or.inr (slot_ne (Or.inr (ow hw 69 rfl)) (Or.inr (ow hw 63 rfl)) (by decide) (t := (.object "java/util/Optional")) (t' := (.object "java/lang/String")) (by decide) (by decide)))).other W17 (Or.inr (slot_ne (Or.inr (ow hw 69 rfl)) (Or.inr (ow hw 65 rfl)) (by decide) (t := (.object "java/util/Optional")) (t' := (.object "java/lang/String")) (by decide) (by decide)))).other W23 (Or.inr (slot_ne (Or.inr (ow hw 69 rfl)) (Or.inr (ow hw 67 rfl)) (by decide) (t := (.object "java/util/Optional")) (t' := (.object "java/util/Optional")) (by decide) (by decide))))
  obtain ⟨T29, h29, X29, e29, W29, st29⟩ := putF X23 hx hZ hown (host := "") (Or.inl (ow hw 68 rfl)) Via.refl e23 f28 f27 (Or.inr ⟨(ow hw 69 rfl), rfl, hnm⟩) (ow hw 51 rfl) (ty := (.object "java/util/Optional")) (by decide) rfl rfl (g := (mkF m 22 #[rv a1, rv a2, rv a3, rv a4, rv a5, rv a6] [(.ref a5), (.ref a1)])) rfl rfl (hb hby d15_22)
  have O_W29 : Old Z n0 h29 := O_W23.wr W29 H11
  have Kp_W29 : Keep h0 h29 [a1] := Kp_W23.wr W29 (Or.inl (List.mem_of_getElem? (i := 0) rfl))
  have N30 := Fr.snoc X29 N24 H11
  have f31 := f28.same W29
  have f33 := (f27.wr W29)
  have f34 := ((((H32.other W10 (Or.inr (slot_ne (Or.inr (ow hw 71 rfl)) (Or.inr (ow hw 63 rfl)) (by decide) (t := (.object "java/util/Optional")) (t' := (.object "java/lang/String")) (by decide) (by decide)))).other W17 (Or.inr (slot_ne (Or.inr (ow hw 71 rfl)) (Or.inr (ow hw 65 rfl)) (by decide) (t := (.object "java/util/Optional")) (t' := (.object "java/lang/String")) (by decide) (by decide)))).other W23 (Or.inr (slot_ne (Or.inr (ow hw 71 rfl)) (Or.inr (ow hw 67 rfl)) (by decide) (t := (.object "java/util/Optional")) (t' := (.object "java/util/Optional")) (by decide) (by decide)))).other W29 (Or.inr (slot_ne (Or.inr (ow hw 71 rfl)) (Or.inr (ow hw 69 rfl)) (by decide) (t := (.object "java/util/Optional")) (t' := (.object "java/util/Optional")) (by decide) (by decide))))
  obtain ⟨T35, h35, X35, e35, W35, st35⟩ := putF X29 hx hZ hown (host := "") (Or.inl (ow hw 70 rfl)) Via.refl e29 f34 f33 (Or.inr ⟨(ow hw 71 rfl), rfl, hnm⟩) (ow hw 51 rfl) (ty := (.object "java/util/Optional")) (by decide) rfl rfl (g := (mkF m 28 #[rv a1, rv a2, rv a3, rv a4, rv a5, rv a6] [(.ref a6), (.ref a1)])) rfl rfl (hb hby d15_28)
  have O_W35 : Old Z n0 h35 := O_W29.wr W35 H11
  have Kp_W35 : Keep h0 h35 [a1] := Kp_W29.wr W35 (Or.inl (List.mem_of_getElem? (i := 0) rfl))
  have N36 := Fr.snoc X35 N30 H11
  have f37 := f34.same W35
  have f38 := (f33.wr W35)
  have f39 := ((((f13.other W17 (Or.inr (slot_ne (Or.inr (ow hw 63 rfl)) (Or.inr (ow hw 65 rfl)) (by decide) (t := (.object "java/lang/String")) (t' := (.object "java/lang/String")) (by decide) (by decide)))).other W23 (Or.inr (slot_ne (Or.inr (ow hw 63 rfl)) (Or.inr (ow hw 67 rfl)) (by decide) (t := (.object "java/lang/String")) (t' := (.object "java/util/Optional")) (by decide) (by decide)))).other W29 (Or.inr (slot_ne (Or.inr (ow hw 63 rfl)) (Or.inr (ow hw 69 rfl)) (by decide) (t := (.object "java/lang/String")) (t' := (.object "java/util/Optional")) (by decide) (by decide)))).other W35 (Or.inr (slot_ne (Or.inr (ow hw 63 rfl)) (Or.inr (ow hw 71 rfl)) (by decide) (t := (.object "java/lang/String")) (t' := (.object "java/util/Optional")) (by decide) (by decide))))
  have f40 := (((f19.other W23 (Or.inr (slot_ne (Or.inr (ow hw 65 rfl)) (Or.inr (ow hw 67 rfl)) (by decide) (t := (.object "java/lang/String")) (t' := (.object "java/util/Optional")) (by decide) (by decide)))).other W29 (Or.inr (slot_ne (Or.inr (ow hw 65 rfl)) (Or.inr (ow hw 69 rfl)) (by decide) (t := (.object "java/lang/String")) (t' := (.object "java/util/Optional")) (by decide) (by decide)))).other W35 (Or.inr (slot_ne (Or.inr (ow hw 65 rfl)) (Or.inr (ow hw 71 rfl)) (by decide) (t := (.object "java/lang/String")) (t' := (.object "java/util/Optional")) (by decide) (by decide))))
  have f41 := ((f25.other W29 (Or.inr (slot_ne (Or.inr (ow hw 67 rfl)) (Or.inr (ow hw 69 rfl)) (by decide) (t := (.object "java/util/Optional")) (t' := (.object "java/util/Optional")) (by decide) (by decide)))).other W35 (Or.inr (slot_ne (Or.inr (ow hw 67 rfl)) (Or.inr (ow hw 71 rfl)) (by decide) (t := (.object "java/util/Optional")) (t' := (.object "java/util/Optional")) (by decide) (by decide))))
  have f42 := (f31.other W35 (Or.inr (slot_ne (Or.inr (ow hw 69 rfl)) (Or.inr (ow hw 71 rfl)) (by decide) (t := (.object "java/util/Optional")) (t' := (.object "java/util/Optional")) (by decide) (by decide))))
  obtain ⟨fs, hr, hrun, hended, hW, hsame⟩ := X35.leave (v := none) (fun _ => rfl)
  refine ⟨_, _, pre0 _ ?_, hrun, hended, _, _, rfl, ?_, ⟨_, rfl⟩, hW, hsame.mono (by decide) (by decide)⟩
  · show St p e below s₁ m 0 #[rv a1, rv a2, rv a3, rv a4, rv a5, rv a6] [] _
    refine XS.aloadN X0.here hx rfl (hb hby d15_0) rfl rfl ?_
    show St p e below s₁ m 1 #[rv a1, rv a2, rv a3, rv a4, rv a5, rv a6] [(.ref a1)] _
    refine st7.trans ?_
    show St p e below T7 m 4 #[rv a1, rv a2, rv a3, rv a4, rv a5, rv a6] [] _
    refine XS.aloadN X7.here hx rfl (hb hby d15_4) rfl rfl ?_
    show St p e below T7 m 5 #[rv a1, rv a2, rv a3, rv a4, rv a5, rv a6] [(.ref a1)] _
    refine XS.aloadN X7.here hx rfl (hb hby d15_5) rfl rfl ?_
    show St p e below T7 m 6 #[rv a1, rv a2, rv a3, rv a4, rv a5, rv a6] [(.ref a2), (.ref a1)] _
    refine st10 _ ?_
    show St p e below T10 m 9 #[rv a1, rv a2, rv a3, rv a4, rv a5, rv a6] [] _
    refine XS.aloadN X10.here hx rfl (hb hby d15_9) rfl rfl ?_
    show St p e below T10 m 10 #[rv a1, rv a2, rv a3, rv a4, rv a5, rv a6] [(.ref a1)] _
    refine XS.aloadN X10.here hx rfl (hb hby d15_10) rfl rfl ?_
    show St p e below T10 m 11 #[rv a1, rv a2, rv a3, rv a4, rv a5, rv a6] [(.ref a3), (.ref a1)] _
    refine st17 _ ?_
    show St p e below T17 m 14 #[rv a1, rv a2, rv a3, rv a4, rv a5, rv a6] [] _
    refine XS.aloadN X17.here hx rfl (hb hby d15_14) rfl rfl ?_
    show St p e below T17 m 15 #[rv a1, rv a2, rv a3, rv a4, rv a5, rv a6] [(.ref a1)] _
    refine XS.aloadN X17.here hx rfl (hb hby d15_15) rfl rfl ?_
    show St p e below T17 m 16 #[rv a1, rv a2, rv a3, rv a4, rv a5, rv a6] [(.ref a4), (.ref a1)] _
    refine st23 _ ?_
    show St p e below T23 m 19 #[rv a1, rv a2, rv a3, rv a4, rv a5, rv a6] [] _
    refine XS.aloadN X23.here hx rfl (hb hby d15_19) rfl rfl ?_
    show St p e below T23 m 20 #[rv a1, rv a2, rv a3, rv a4, rv a5, rv a6] [(.ref a1)] _
    refine XS.aload X23.here hx rfl (hb hby d15_20) rfl rfl ?_
    show St p e below T23 m 22 #[rv a1, rv a2, rv a3, rv a4, rv a5, rv a6] [(.ref a5), (.ref a1)] _
    refine st29 _ ?_
    show St p e below T29 m 25 #[rv a1, rv a2, rv a3, rv a4, rv a5, rv a6] [] _
    refine XS.aloadN X29.here hx rfl (hb hby d15_25) rfl rfl ?_
    show St p e below T29 m 26 #[rv a1, rv a2, rv a3, rv a4, rv a5, rv a6] [(.ref a1)] _
    refine XS.aload X29.here hx rfl (hb hby d15_26) rfl rfl ?_
    show St p e below T29 m 28 #[rv a1, rv a2, rv a3, rv a4, rv a5, rv a6] [(.ref a6), (.ref a1)] _
    refine st35 _ ?_
    show St p e below T35 m 31 #[rv a1, rv a2, rv a3, rv a4, rv a5, rv a6] [] _
    exact X35.returnOut hx Bd.returns (hb hby d15_31) hr
  · show r15_1Q Z a1 a2 a3 a4 a5 a6 h0 n0 _ T35.heap _
    rw [e35]
    exact ⟨rfl, N36, Kp_W35, f39, f38, f40, f41, f42, f37⟩
theorem pd__Ljava_lang_String_Ljava_lang_String_Ljava_util_Optional_Ljava_util_Optional_Ljava_util_Optional__V : parseMethodDescriptor "(Ljava/lang/String;Ljava/lang/String;Ljava/util/Optional;Ljava/util/Optional;Ljava/util/Optional;)V" = some ⟨[(.object "java/lang/String"), (.object "java/lang/String"), (.object "java/util/Optional"), (.object "java/util/Optional"), (.object "java/util/Optional")], none⟩ := by decide +kernel
set_option maxRecDepth 65536 in
set_option maxHeartbeats 40000000 in
theorem g0_10 {p : Program} {l : Launch} {e : Env} {R : Room} {s : State} {m : MethodId} {args : Array Value} {below : List Frame} {meth : Method} {c : Code} {T0 : State} {locs : List Loc} {cells slots : Nat} {Z : State} {a0 : Array Value} {h0 : Heap} {n0 : Nat} (p1 : Int32) (p2 : Int32) (p3 : Int32) (p4 : Int32) (p5 : Int32) (p6 : Int32) (p7 : Int32) (p8 : Int32) (p9 : Int32) (a10 : Addr) (a11 : Addr) (a12 : Addr) (a13 : Addr) (a14 : Addr) (a15 : Addr)
    (X0 : Stand p l e R s m args below meth c T0 locs cells slots) (hx : p.tables.exec = Jvm.exec) (hZ : Z.Warmed39 s.vm) (hw : HW a0 Z) (hby : c.code = code) (hml : c.maxLocals = 19) (hown : s.vm.findClass "com/example/agave/agave/store/RequestStateOfPinLaw" = some m.cls) (e0 : T0.heap = h0) (O0 : Old Z n0 h0) (N0 : Fr n0 locs) (rc : cells + 2 ≤ R.cells) (rs : slots + 6 ≤ R.slots) (rf : 3 ≤ R.frames) (rl : 42 ≤ R.locals) (H16 : Sta Z Z.heap "java/util/Optional" "EMPTY" "Ljava/util/Optional;" (.ref a15)) :
    ∃ (T' : State) (h' : Heap) (L' : List Loc) (b27_0 : Addr) (b18 : Addr), Stand p l e R s m args below meth c T' L' (cells + 2) (slots + 6) ∧ T'.heap = h' ∧ Fr n0 L' ∧ Keep h0 h' [] ∧ h0.size ≤ b27_0 ∧ h0.size ≤ b18 ∧ b27_0 ≠ b18 ∧ Exa Z h' b27_0 "java/util/Optional" ∧ Fld Z h' b27_0 "java/util/Optional" "value" "Ljava/lang/Object;" (.ref b18) ∧ Exa Z h' b18 "com/example/agave/agave/store/RequestStore$StoredRequest" ∧ Fld Z h' b18 "com/example/agave/agave/store/RequestStore$StoredRequest" "route" "Ljava/lang/String;" (.ref a10) ∧ Fld Z h' b18 "com/example/agave/agave/store/RequestStore$StoredRequest" "payload" "Ljava/lang/String;" (.ref a11) ∧ Fld Z h' b18 "com/example/agave/agave/store/RequestStore$StoredRequest" "result" "Ljava/util/Optional;" (.ref a12) ∧ Fld Z h' b18 "com/example/agave/agave/store/RequestStore$StoredRequest" "failure" "Ljava/util/Optional;" (.ref a13) ∧ Fld Z h' b18 "com/example/agave/agave/store/RequestStore$StoredRequest" "statusCode" "Ljava/util/Optional;" (.ref a14) ∧
      ∀ target, St p e below T' m 200 #[iv p1, iv p2, iv p3, iv (1 : Int32), iv p4, iv p5, iv p6, iv p7, iv p8, iv p9, rv a10, rv a11, rv a12, rv a13, rv a14, rv b27_0, .unset, .unset, .unset] [] target → St p e below T0 m 169 #[iv p1, iv p2, iv p3, iv (1 : Int32), iv p4, iv p5, iv p6, iv p7, iv p8, iv p9, rv a10, rv a11, rv a12, rv a13, rv a14, .unset, .unset, .unset, .unset] [] target := by
  obtain ⟨_, _, ⟨T17, L17, k17, n17⟩, -, X17, ⟨Lc17, hQ17, l17, y17, z17⟩, st17⟩ := Jvm.LawKit.callS X0 hx (y := y5) hown (mvT hZ (ow hw 26 rfl)) (mvT hZ (ow hw 27 rfl)) (mvT hZ (ow hw 28 rfl)) (mvT hZ (ow hw 29 rfl)) (by decide) (backOf (W := 0) (r5_1 l Z a0 hw [] a15 h0 n0 O0 H16) hZ (ow hw 29 rfl) (ow hw 28 rfl) (by show 0 + 1 ≤ R.frames; omega) (by show 0 + (1 + 11) + 0 ≤ R.locals; omega)) (g := (mkF m 169 #[iv p1, iv p2, iv p3, iv (1 : Int32), iv p4, iv p5, iv p6, iv p7, iv p8, iv p9, rv a10, rv a11, rv a12, rv a13, rv a14, .unset, .unset, .unset, .unset] [])) rfl (by rw [hml]; rfl) (argsL := []) (rest := []) (lenOf pd___Ljava_util_Optional_ rfl) rfl (by show 2 * 0 + _ ≤ _; exact Nat.le_of_eq rfl) (hb hby at_169) (fun _ _ => ⟨rfl, e0, (by show cells + 0 + 0 ≤ R.cells; omega), (by show slots + 0 + 0 ≤ R.slots; omega)⟩)
  dsimp only [Pt.U, Pt.locs, Pt.cells, Pt.slots] at X17 l17 y17 z17 st17 hQ17
  subst l17
  rw [y17, z17] at X17
  obtain ⟨rfl, N17q, e17⟩ := hQ17
  have N17 := Fr.app N0 N17q
  replace X17 : Stand p l e R _ m args below meth c T17 _ (cells + 0) (slots + 0) := X17
  obtain ⟨T18, h18, X18, e18, E18, A18, D18, -, st18⟩ := newO X17 hx hZ hown (ow hw 50 rfl) (ow hw 51 rfl) (ow hw 52 rfl) e17 (g := (mkF m 178 #[iv p1, iv p2, iv p3, iv (1 : Int32), iv p4, iv p5, iv p6, iv p7, iv p8, iv p9, rv a10, rv a11, rv a12, rv a13, rv a14, rv a15, .unset, .unset, .unset] [])) rfl (hb hby at_178) (by omega) (by omega)
  obtain ⟨b18, g18⟩ : ∃ z, z = h0.size := ⟨_, rfl⟩
  rw [← g18] at A18 D18 st18
  have O_E18 : Old Z n0 h18 := O0.ext E18
  have Kp_E18 : Keep h0 h18 [] := (Keep.refl h0 []).ext E18
  have f19 : Fld Z h18 b18 "com/example/agave/agave/store/RequestStore$StoredRequest" "route" "Ljava/lang/String;" .null := D18 (Or.inr (ow hw 63 rfl)) (ty := (.object "java/lang/String")) (by decide)
  have g20 : n0 ≤ b18 := Nat.le_trans (Nat.le_trans (Nat.le_of_eq O0.1.symm) O0.2.1) (Nat.le_of_eq g18.symm)
  have f21 : Fld Z h18 b18 "com/example/agave/agave/store/RequestStore$StoredRequest" "payload" "Ljava/lang/String;" .null := D18 (Or.inr (ow hw 65 rfl)) (ty := (.object "java/lang/String")) (by decide)
  have f22 : Fld Z h18 b18 "com/example/agave/agave/store/RequestStore$StoredRequest" "result" "Ljava/util/Optional;" .null := D18 (Or.inr (ow hw 67 rfl)) (ty := (.object "java/util/Optional")) (by decide)
  have f23 : Fld Z h18 b18 "com/example/agave/agave/store/RequestStore$StoredRequest" "failure" "Ljava/util/Optional;" .null := D18 (Or.inr (ow hw 69 rfl)) (ty := (.object "java/util/Optional")) (by decide)
  have f24 : Fld Z h18 b18 "com/example/agave/agave/store/RequestStore$StoredRequest" "statusCode" "Ljava/util/Optional;" .null := D18 (Or.inr (ow hw 71 rfl)) (ty := (.object "java/util/Optional")) (by decide)
  obtain ⟨_, _, ⟨T25, L25, k25, n25⟩, -, X25, ⟨Lc25, hQ25, l25, y25, z25⟩, st25⟩ := X18.specialBack hx (y := y15) rfl hown (mvT hZ (ow hw 53 rfl)) (mvT hZ (ow hw 54 rfl)) (mvT hZ (ow hw 55 rfl)) (by decide) (backOf (W := 1) (r15_1 l Z a0 hw [] b18 a10 a11 a12 a13 a14 h18 n0 O_E18 f19 A18 g20 f21 f22 f23 f24) hZ (ow hw 55 rfl) (ow hw 52 rfl) (by show 2 + 1 ≤ R.frames; omega) (by show 1 + (6 + 11) + 24 ≤ R.locals; omega)) (g := (mkF m 192 #[iv p1, iv p2, iv p3, iv (1 : Int32), iv p4, iv p5, iv p6, iv p7, iv p8, iv p9, rv a10, rv a11, rv a12, rv a13, rv a14, rv a15, .unset, .unset, .unset] [(.ref a14), (.ref a13), (.ref a12), (.ref a11), (.ref a10), (.ref b18), (.ref b18)])) rfl (by rw [hml]; rfl) (Steps.refl _) (a := b18) (argsL := [(.ref a10), (.ref a11), (.ref a12), (.ref a13), (.ref a14)]) (rest := [(.ref b18)]) (lenOf pd__Ljava_lang_String_Ljava_lang_String_Ljava_util_Optional_Ljava_util_Optional_Ljava_util_Optional__V rfl) rfl (by show 2 * 0 + _ ≤ _; exact Nat.le_of_eq rfl) (hb hby at_192) (fun _ _ => ⟨rfl, e18, (by show cells + 1 + 0 ≤ R.cells; omega), (by show slots + 5 + 0 ≤ R.slots; omega)⟩)
  dsimp only [Pt.U, Pt.locs, Pt.cells, Pt.slots] at X25 l25 y25 z25 st25 hQ25
  subst l25
  rw [y25, z25] at X25
  obtain ⟨rfl, N25q, K25, f25_1, f25_2, f25_3, f25_4, f25_5, f25_6⟩ := hQ25
  have N25 := Fr.app N17 N25q
  have z26 : h0.size ≤ b18 := Nat.le_trans (Keep.refl h0 []).1 (Nat.le_of_eq g18.symm)
  have O_K25 : Old Z n0 T25.heap := O_E18.keep K25 (allS g20 all0)
  have Kp_K25 : Keep h0 T25.heap [] := Kp_E18.trans K25 (allS (Or.inr z26) all0)
  replace X25 : Stand p l e R _ m args below meth c T25 _ (cells + 1) (slots + 5) := X25
  obtain ⟨_, _, ⟨T27, L27, k27, n27⟩, -, X27, ⟨Lc27, hQ27, l27, y27, z27⟩, st27⟩ := Jvm.LawKit.callS X25 hx (y := y9) hown (mvT hZ (ow hw 72 rfl)) (mvT hZ (ow hw 73 rfl)) (mvT hZ (ow hw 28 rfl)) (mvT hZ (ow hw 74 rfl)) (by decide) (backOf (W := 0) (r9_1 l Z a0 hw [] b18 T25.heap n0 O_K25) hZ (ow hw 74 rfl) (ow hw 28 rfl) (by show 2 + 1 ≤ R.frames; omega) (by show 0 + (1 + 11) + 26 ≤ R.locals; omega)) (g := (mkF m 195 #[iv p1, iv p2, iv p3, iv (1 : Int32), iv p4, iv p5, iv p6, iv p7, iv p8, iv p9, rv a10, rv a11, rv a12, rv a13, rv a14, rv a15, .unset, .unset, .unset] [(.ref b18)])) rfl (by rw [hml]; rfl) (argsL := [(.ref b18)]) (rest := []) (lenOf pd__Ljava_lang_Object__Ljava_util_Optional_ rfl) rfl (by show 2 * 0 + _ ≤ _; exact Nat.le_of_eq rfl) (hb hby at_195) (fun _ _ => ⟨rfl, rfl, (by show cells + 1 + 1 ≤ R.cells; omega), (by show slots + 5 + 1 ≤ R.slots; omega)⟩)
  dsimp only [Pt.U, Pt.locs, Pt.cells, Pt.slots] at X27 l27 y27 z27 st27 hQ27
  subst l27
  rw [y27, z27] at X27
  obtain ⟨b27_0, rfl, N27q, K27, lo27_1, f27_2, f27_3⟩ := hQ27
  have N27 := Fr.app N25 N27q
  have O_K27 : Old Z n0 T27.heap := O_K25.keep K27 all0
  have Kp_K27 : Keep h0 T27.heap [] := Kp_K25.trans K27 all0
  replace X27 : Stand p l e R _ m args below meth c T27 _ (cells + 2) (slots + 6) := X27
  have z28 : h0.size ≤ b27_0 := Nat.le_trans Kp_K25.1 lo27_1
  have ne29 : b18 ≠ b27_0 := Nat.ne_of_lt (Nat.lt_of_lt_of_le f25_2.lt lo27_1)
  have f30 := (f25_2.keep K27)
  have f31 := (f25_1.keep K27 nin0)
  have f32 := (f25_3.keep K27 nin0)
  have f33 := (f25_4.keep K27 nin0)
  have f34 := (f25_5.keep K27 nin0)
  have f35 := (f25_6.keep K27 nin0)
  refine ⟨T27, _, _, b27_0, b18, X27.more (by omega) (by omega), rfl, N27, Kp_K27, z28, z26, (Ne.symm ne29), f27_2, f27_3, f30, f31, f32, f33, f34, f35, fun target kt => ?_⟩
  show St p e below T0 m 169 #[iv p1, iv p2, iv p3, iv (1 : Int32), iv p4, iv p5, iv p6, iv p7, iv p8, iv p9, rv a10, rv a11, rv a12, rv a13, rv a14, .unset, .unset, .unset, .unset] [] _
  refine st17 _ ?_
  show St p e below T17 m 172 #[iv p1, iv p2, iv p3, iv (1 : Int32), iv p4, iv p5, iv p6, iv p7, iv p8, iv p9, rv a10, rv a11, rv a12, rv a13, rv a14, .unset, .unset, .unset, .unset] [(.ref a15)] _
  refine XS.astore X17.here hx rfl (hb hby at_172) rfl rfl (l' := #[iv p1, iv p2, iv p3, iv (1 : Int32), iv p4, iv p5, iv p6, iv p7, iv p8, iv p9, rv a10, rv a11, rv a12, rv a13, rv a14, rv a15, .unset, .unset, .unset]) rfl ?_
  show St p e below T17 m 174 #[iv p1, iv p2, iv p3, iv (1 : Int32), iv p4, iv p5, iv p6, iv p7, iv p8, iv p9, rv a10, rv a11, rv a12, rv a13, rv a14, rv a15, .unset, .unset, .unset] [] _
  refine XS.iloadN X17.here hx rfl (hb hby at_174) rfl ?_
  show St p e below T17 m 175 #[iv p1, iv p2, iv p3, iv (1 : Int32), iv p4, iv p5, iv p6, iv p7, iv p8, iv p9, rv a10, rv a11, rv a12, rv a13, rv a14, rv a15, .unset, .unset, .unset] [(.int (1 : Int32))] _
  refine XS.ifNo X17.here hx rfl (hb hby at_175) rfl ((if0 _ _).trans (feq (by decide : ¬ ((1 : Int32) = (0 : Int32)))).1) ?_
  show St p e below T17 m 178 #[iv p1, iv p2, iv p3, iv (1 : Int32), iv p4, iv p5, iv p6, iv p7, iv p8, iv p9, rv a10, rv a11, rv a12, rv a13, rv a14, rv a15, .unset, .unset, .unset] [] _
  refine st18 _ ?_
  show St p e below T18 m 181 #[iv p1, iv p2, iv p3, iv (1 : Int32), iv p4, iv p5, iv p6, iv p7, iv p8, iv p9, rv a10, rv a11, rv a12, rv a13, rv a14, rv a15, .unset, .unset, .unset] [(.ref b18)] _
  refine XS.dup X18.here hx rfl (hb hby at_181) rfl rfl ?_
  show St p e below T18 m 182 #[iv p1, iv p2, iv p3, iv (1 : Int32), iv p4, iv p5, iv p6, iv p7, iv p8, iv p9, rv a10, rv a11, rv a12, rv a13, rv a14, rv a15, .unset, .unset, .unset] [(.ref b18), (.ref b18)] _
  refine XS.aload X18.here hx rfl (hb hby at_182) rfl rfl ?_
  show St p e below T18 m 184 #[iv p1, iv p2, iv p3, iv (1 : Int32), iv p4, iv p5, iv p6, iv p7, iv p8, iv p9, rv a10, rv a11, rv a12, rv a13, rv a14, rv a15, .unset, .unset, .unset] [(.ref a10), (.ref b18), (.ref b18)] _
  refine XS.aload X18.here hx rfl (hb hby at_184) rfl rfl ?_
  show St p e below T18 m 186 #[iv p1, iv p2, iv p3, iv (1 : Int32), iv p4, iv p5, iv p6, iv p7, iv p8, iv p9, rv a10, rv a11, rv a12, rv a13, rv a14, rv a15, .unset, .unset, .unset] [(.ref a11), (.ref a10), (.ref b18), (.ref b18)] _
  refine XS.aload X18.here hx rfl (hb hby at_186) rfl rfl ?_
  show St p e below T18 m 188 #[iv p1, iv p2, iv p3, iv (1 : Int32), iv p4, iv p5, iv p6, iv p7, iv p8, iv p9, rv a10, rv a11, rv a12, rv a13, rv a14, rv a15, .unset, .unset, .unset] [(.ref a12), (.ref a11), (.ref a10), (.ref b18), (.ref b18)] _
  refine XS.aload X18.here hx rfl (hb hby at_188) rfl rfl ?_
  show St p e below T18 m 190 #[iv p1, iv p2, iv p3, iv (1 : Int32), iv p4, iv p5, iv p6, iv p7, iv p8, iv p9, rv a10, rv a11, rv a12, rv a13, rv a14, rv a15, .unset, .unset, .unset] [(.ref a13), (.ref a12), (.ref a11), (.ref a10), (.ref b18), (.ref b18)] _
  refine XS.aload X18.here hx rfl (hb hby at_190) rfl rfl ?_
  show St p e below T18 m 192 #[iv p1, iv p2, iv p3, iv (1 : Int32), iv p4, iv p5, iv p6, iv p7, iv p8, iv p9, rv a10, rv a11, rv a12, rv a13, rv a14, rv a15, .unset, .unset, .unset] [(.ref a14), (.ref a13), (.ref a12), (.ref a11), (.ref a10), (.ref b18), (.ref b18)] _
  refine st25.trans ?_
  show St p e below T25 m 195 #[iv p1, iv p2, iv p3, iv (1 : Int32), iv p4, iv p5, iv p6, iv p7, iv p8, iv p9, rv a10, rv a11, rv a12, rv a13, rv a14, rv a15, .unset, .unset, .unset] [(.ref b18)] _
  refine st27 _ ?_
  show St p e below T27 m 198 #[iv p1, iv p2, iv p3, iv (1 : Int32), iv p4, iv p5, iv p6, iv p7, iv p8, iv p9, rv a10, rv a11, rv a12, rv a13, rv a14, rv a15, .unset, .unset, .unset] [(.ref b27_0)] _
  refine XS.astore X27.here hx rfl (hb hby at_198) rfl rfl (l' := #[iv p1, iv p2, iv p3, iv (1 : Int32), iv p4, iv p5, iv p6, iv p7, iv p8, iv p9, rv a10, rv a11, rv a12, rv a13, rv a14, rv b27_0, .unset, .unset, .unset]) rfl ?_
  exact kt
theorem d13_11 : decode jdk_32_method_7_code 11 = .ok (.iconst 0, 1) := by decide +kernel
def r13_2Q (Z : State) (a1 : Addr) (a2 : Addr) (h0 : Heap) (n0 : Nat) (v : Option Value) (h : Heap) (L : List Loc) : Prop := v = some (.int (0 : Int32)) ∧ Fr n0 L ∧ h = h0
theorem r13_2e (m : MethodId) (a1 : Addr) (a2 : Addr) : entryFrame m #[(.ref a1)] 1 = mkF m 0 #[rv a1] [] := by first | (simp [entryFrame, mkF, argsToLocals, Value.category]; done) | rfl
set_option maxRecDepth 65536 in
set_option maxHeartbeats 40000000 in
theorem r13_2 (l : Launch) (Z : State) (a0 : Array Value) (hw : HW a0 Z) (ws : List Jvm.Cond) (a1 : Addr) (a2 : Addr) (h0 : Heap) (n0 : Nat) (O0 : Old Z n0 h0) (H3 : Fld Z h0 a1 "java/util/Optional" "value" "Ljava/lang/Object;" (.ref a2)) :
    MF l y13 jdk_32_method_7_code 1 (some .boolean) ws ({ frames := 0, cells := 0, slots := 0, locals := 0 } : Room) Z #[(.ref a1)] h0 (r13_2Q Z a1 a2 h0 n0) := by
  refine MetFree.of_bodySF (plainFor_of_name pn_java_util_Optional) hisR ?_
  intro p e s m args below meth c s₁ Bd hml0 hP hK
  obtain ⟨rfl, hZ, hh⟩ := hP
  have hx := Bd.exec
  have hby := Bd.bytes
  have hml : c.maxLocals = 1 := hml0
  have hown : s.vm.findClass "java/util/Optional" = some m.cls := findClass_of_methodNamed Bd.named
  have hnm := (name_of_methodNamed Bd.named Bd.method).1
  have X0 : Stand p l e ({ frames := 0, cells := 0, slots := 0, locals := 0 } : Room) s m #[(.ref a1)] below meth c s₁ [] 0 0 := Stand.of_body Bd
  have e0 : s₁.heap = h0 := by rw [← hh, Bd.state]; rfl
  have N0 := Fr.nil n0
  have pre0 : ∀ t, Steps p.tables e below (s₁.setTop (mkF m 0 #[rv a1] [])) t → Steps p.tables e below (s₁.setTop (entryFrame m #[(.ref a1)] 1)) t := fun t k => castTop (r13_2e m a1 a2) k
  obtain ⟨T4, X4, e4, st4⟩ := getF X0 hx hZ hown (host := "") (Or.inl (ow hw 40 rfl)) Via.refl e0 H3 (g := (mkF m 1 #[rv a1] [(.ref a1)])) rfl rfl (hb hby d13_1)
  obtain ⟨fs, hr, hrun, hended, hW, hsame⟩ := X4.leave (v := some (.int (0 : Int32))) (fun h => by rw [Bd.returns] at h; cases h)
  refine ⟨_, _, pre0 _ ?_, hrun, hended, _, _, rfl, ?_, ⟨_, rfl⟩, hW, hsame.mono (by decide) (by decide)⟩
  · show St p e below s₁ m 0 #[rv a1] [] _
    refine XS.aloadN X0.here hx rfl (hb hby d13_0) rfl rfl ?_
    show St p e below s₁ m 1 #[rv a1] [(.ref a1)] _
    refine st4 _ ?_
    show St p e below T4 m 4 #[rv a1] [(.ref a2)] _
    refine XS.ifnonnullYes X4.here hx rfl (pc0 := 4) (pc' := 11) rfl (hb hby d13_4) rfl (by decide) (by decide) ?_
    show St p e below T4 m 11 #[rv a1] [] _
    refine XS.iconst X4.here hx rfl (hb hby d13_11) ?_
    show St p e below T4 m 12 #[rv a1] [(.int (0 : Int32))] _
    exact retN X4 hx (t := .boolean) Bd.returns (by simp) (hb hby d13_12) hr
  · show r13_2Q Z a1 a2 h0 n0 _ T4.heap _
    rw [e4]
    exact ⟨rfl, N0, rfl⟩
theorem d12_53 : decode prog_13_method_4_code 53 = .ok (.aload_n 0, 1) := by decide +kernel
theorem d12_54 : decode prog_13_method_4_code 54 = .ok (.invokevirtual 51, 3) := by decide +kernel
theorem d17_0 : decode jdk_32_method_5_code 0 = .ok (.aload_n 0, 1) := by decide +kernel
theorem d17_1 : decode jdk_32_method_5_code 1 = .ok (.getfield 13, 3) := by decide +kernel
theorem d17_4 : decode jdk_32_method_5_code 4 = .ok (.ifnonnull 13, 3) := by decide +kernel
theorem d17_17 : decode jdk_32_method_5_code 17 = .ok (.aload_n 0, 1) := by decide +kernel
theorem d17_18 : decode jdk_32_method_5_code 18 = .ok (.getfield 13, 3) := by decide +kernel
theorem d17_21 : decode jdk_32_method_5_code 21 = .ok (.areturn, 1) := by decide +kernel
abbrev y17 : MethodName := ⟨"java/util/Optional", "get", "()Ljava/lang/Object;"⟩
def r17_1Q (Z : State) (a1 : Addr) (a2 : Addr) (h0 : Heap) (n0 : Nat) (v : Option Value) (h : Heap) (L : List Loc) : Prop := v = some (.ref a2) ∧ Fr n0 L ∧ h = h0
theorem r17_1e (m : MethodId) (a1 : Addr) (a2 : Addr) : entryFrame m #[(.ref a1)] 1 = mkF m 0 #[rv a1] [] := by first | (simp [entryFrame, mkF, argsToLocals, Value.category]; done) | rfl
set_option maxRecDepth 65536 in
set_option maxHeartbeats 40000000 in
theorem r17_1 (l : Launch) (Z : State) (a0 : Array Value) (hw : HW a0 Z) (ws : List Jvm.Cond) (a1 : Addr) (a2 : Addr) (h0 : Heap) (n0 : Nat) (O0 : Old Z n0 h0) (H3 : Fld Z h0 a1 "java/util/Optional" "value" "Ljava/lang/Object;" (.ref a2)) :
    MF l y17 jdk_32_method_5_code 1 (some (.object "java/lang/Object")) ws ({ frames := 0, cells := 0, slots := 0, locals := 0 } : Room) Z #[(.ref a1)] h0 (r17_1Q Z a1 a2 h0 n0) := by
  refine MetFree.of_bodySF (plainFor_of_name pn_java_util_Optional) hisR ?_
  intro p e s m args below meth c s₁ Bd hml0 hP hK
  obtain ⟨rfl, hZ, hh⟩ := hP
  have hx := Bd.exec
  have hby := Bd.bytes
  have hml : c.maxLocals = 1 := hml0
  have hown : s.vm.findClass "java/util/Optional" = some m.cls := findClass_of_methodNamed Bd.named
  have hnm := (name_of_methodNamed Bd.named Bd.method).1
  have X0 : Stand p l e ({ frames := 0, cells := 0, slots := 0, locals := 0 } : Room) s m #[(.ref a1)] below meth c s₁ [] 0 0 := Stand.of_body Bd
  have e0 : s₁.heap = h0 := by rw [← hh, Bd.state]; rfl
  have N0 := Fr.nil n0
  have pre0 : ∀ t, Steps p.tables e below (s₁.setTop (mkF m 0 #[rv a1] [])) t → Steps p.tables e below (s₁.setTop (entryFrame m #[(.ref a1)] 1)) t := fun t k => castTop (r17_1e m a1 a2) k
  obtain ⟨T4, X4, e4, st4⟩ := getF X0 hx hZ hown (host := "") (Or.inl (ow hw 40 rfl)) Via.refl e0 H3 (g := (mkF m 1 #[rv a1] [(.ref a1)])) rfl rfl (hb hby d17_1)
  obtain ⟨T5, X5, e5, st5⟩ := getF X4 hx hZ hown (host := "") (Or.inl (ow hw 40 rfl)) Via.refl e4 H3 (g := (mkF m 18 #[rv a1] [(.ref a1)])) rfl rfl (hb hby d17_18)
  obtain ⟨fs, hr, hrun, hended, hW, hsame⟩ := X5.leave (v := some (.ref a2)) (fun h => by rw [Bd.returns] at h; cases h)
  refine ⟨_, _, pre0 _ ?_, hrun, hended, _, _, rfl, ?_, ⟨_, rfl⟩, hW, hsame.mono (by decide) (by decide)⟩
  · show St p e below s₁ m 0 #[rv a1] [] _
    refine XS.aloadN X0.here hx rfl (hb hby d17_0) rfl rfl ?_
    show St p e below s₁ m 1 #[rv a1] [(.ref a1)] _
    refine st4 _ ?_
    show St p e below T4 m 4 #[rv a1] [(.ref a2)] _
    refine XS.ifnonnullYes X4.here hx rfl (pc0 := 4) (pc' := 17) rfl (hb hby d17_4) rfl (by decide) (by decide) ?_
    show St p e below T4 m 17 #[rv a1] [] _
    refine XS.aloadN X4.here hx rfl (hb hby d17_17) rfl rfl ?_
    show St p e below T4 m 18 #[rv a1] [(.ref a1)] _
    refine st5 _ ?_
    show St p e below T5 m 21 #[rv a1] [(.ref a2)] _
    jvm_step X5.here [X5.here.top, hx, (hb hby d17_21), X5.method', Bd.returns, Value.isRef, FieldType.isReference]
    first | (intro acts; rw [hr _ acts rfl rfl rfl]) | rw [hr _ _ rfl rfl rfl]
    exact Steps.refl _
  · show r17_1Q Z a1 a2 h0 n0 _ T5.heap _
    rw [e5]
    exact ⟨rfl, N0, rfl⟩
theorem pd___Ljava_lang_Object_ : parseMethodDescriptor "()Ljava/lang/Object;" = some ⟨[], some (.object "java/lang/Object")⟩ := by decide +kernel
theorem d12_57 : decode prog_13_method_4_code 57 = .ok (.checkcast 54, 3) := by decide +kernel
theorem d12_60 : decode prog_13_method_4_code 60 = .ok (.invokevirtual 56, 3) := by decide +kernel
theorem d18_0 : decode prog_23_method_10_code 0 = .ok (.aload_n 0, 1) := by decide +kernel
theorem d18_1 : decode prog_23_method_10_code 1 = .ok (.getfield 20, 3) := by decide +kernel
theorem d18_4 : decode prog_23_method_10_code 4 = .ok (.areturn, 1) := by decide +kernel
abbrev y18 : MethodName := ⟨"com/example/agave/agave/store/RequestStore$StoredRequest", "failure", "()Ljava/util/Optional;"⟩
def r18_1Q (Z : State) (a1 : Addr) (a2 : Addr) (h0 : Heap) (n0 : Nat) (v : Option Value) (h : Heap) (L : List Loc) : Prop := v = some (.ref a2) ∧ Fr n0 L ∧ h = h0
theorem r18_1e (m : MethodId) (a1 : Addr) (a2 : Addr) : entryFrame m #[(.ref a1)] 1 = mkF m 0 #[rv a1] [] := by first | (simp [entryFrame, mkF, argsToLocals, Value.category]; done) | rfl
set_option maxRecDepth 65536 in
set_option maxHeartbeats 40000000 in
theorem r18_1 (l : Launch) (Z : State) (a0 : Array Value) (hw : HW a0 Z) (ws : List Jvm.Cond) (a1 : Addr) (a2 : Addr) (h0 : Heap) (n0 : Nat) (O0 : Old Z n0 h0) (H3 : Fld Z h0 a1 "com/example/agave/agave/store/RequestStore$StoredRequest" "failure" "Ljava/util/Optional;" (.ref a2)) :
    MF l y18 prog_23_method_10_code 1 (some (.object "java/util/Optional")) ws ({ frames := 0, cells := 0, slots := 0, locals := 0 } : Room) Z #[(.ref a1)] h0 (r18_1Q Z a1 a2 h0 n0) := by
  refine MetFree.of_bodySF (plainFor_of_name pn_com_example_agave_agave_store_RequestStore_StoredRequest) hisR ?_
  intro p e s m args below meth c s₁ Bd hml0 hP hK
  obtain ⟨rfl, hZ, hh⟩ := hP
  have hx := Bd.exec
  have hby := Bd.bytes
  have hml : c.maxLocals = 1 := hml0
  have hown : s.vm.findClass "com/example/agave/agave/store/RequestStore$StoredRequest" = some m.cls := findClass_of_methodNamed Bd.named
  have hnm := (name_of_methodNamed Bd.named Bd.method).1
  have X0 : Stand p l e ({ frames := 0, cells := 0, slots := 0, locals := 0 } : Room) s m #[(.ref a1)] below meth c s₁ [] 0 0 := Stand.of_body Bd
  have e0 : s₁.heap = h0 := by rw [← hh, Bd.state]; rfl
  have N0 := Fr.nil n0
  have pre0 : ∀ t, Steps p.tables e below (s₁.setTop (mkF m 0 #[rv a1] [])) t → Steps p.tables e below (s₁.setTop (entryFrame m #[(.ref a1)] 1)) t := fun t k => castTop (r18_1e m a1 a2) k
  obtain ⟨T4, X4, e4, st4⟩ := getF X0 hx hZ hown (host := "") (Or.inl (ow hw 68 rfl)) Via.refl e0 H3 (g := (mkF m 1 #[rv a1] [(.ref a1)])) rfl rfl (hb hby d18_1)
  obtain ⟨fs, hr, hrun, hended, hW, hsame⟩ := X4.leave (v := some (.ref a2)) (fun h => by rw [Bd.returns] at h; cases h)
  refine ⟨_, _, pre0 _ ?_, hrun, hended, _, _, rfl, ?_, ⟨_, rfl⟩, hW, hsame.mono (by decide) (by decide)⟩
  · show St p e below s₁ m 0 #[rv a1] [] _
    refine XS.aloadN X0.here hx rfl (hb hby d18_0) rfl rfl ?_
    show St p e below s₁ m 1 #[rv a1] [(.ref a1)] _
    refine st4 _ ?_
    show St p e below T4 m 4 #[rv a1] [(.ref a2)] _
    jvm_step X4.here [X4.here.top, hx, (hb hby d18_4), X4.method', Bd.returns, Value.isRef, FieldType.isReference]
    first | (intro acts; rw [hr _ acts rfl rfl rfl]) | rw [hr _ _ rfl rfl rfl]
    exact Steps.refl _
  · show r18_1Q Z a1 a2 h0 n0 _ T4.heap _
    rw [e4]
    exact ⟨rfl, N0, rfl⟩
theorem d12_63 : decode prog_13_method_4_code 63 = .ok (.invokevirtual 48, 3) := by decide +kernel
theorem d12_66 : decode prog_13_method_4_code 66 = .ok (.ifCond .eq 10, 3) := by decide +kernel
theorem d12_76 : decode prog_13_method_4_code 76 = .ok (.aload_n 0, 1) := by decide +kernel
theorem d12_77 : decode prog_13_method_4_code 77 = .ok (.invokevirtual 51, 3) := by decide +kernel
theorem d12_80 : decode prog_13_method_4_code 80 = .ok (.checkcast 54, 3) := by decide +kernel
theorem d12_83 : decode prog_13_method_4_code 83 = .ok (.invokevirtual 60, 3) := by decide +kernel
theorem d19_0 : decode prog_23_method_9_code 0 = .ok (.aload_n 0, 1) := by decide +kernel
theorem d19_1 : decode prog_23_method_9_code 1 = .ok (.getfield 16, 3) := by decide +kernel
theorem d19_4 : decode prog_23_method_9_code 4 = .ok (.areturn, 1) := by decide +kernel
abbrev y19 : MethodName := ⟨"com/example/agave/agave/store/RequestStore$StoredRequest", "result", "()Ljava/util/Optional;"⟩
def r19_1Q (Z : State) (a1 : Addr) (a2 : Addr) (h0 : Heap) (n0 : Nat) (v : Option Value) (h : Heap) (L : List Loc) : Prop := v = some (.ref a2) ∧ Fr n0 L ∧ h = h0
theorem r19_1e (m : MethodId) (a1 : Addr) (a2 : Addr) : entryFrame m #[(.ref a1)] 1 = mkF m 0 #[rv a1] [] := by first | (simp [entryFrame, mkF, argsToLocals, Value.category]; done) | rfl
set_option maxRecDepth 65536 in
set_option maxHeartbeats 40000000 in
theorem r19_1 (l : Launch) (Z : State) (a0 : Array Value) (hw : HW a0 Z) (ws : List Jvm.Cond) (a1 : Addr) (a2 : Addr) (h0 : Heap) (n0 : Nat) (O0 : Old Z n0 h0) (H3 : Fld Z h0 a1 "com/example/agave/agave/store/RequestStore$StoredRequest" "result" "Ljava/util/Optional;" (.ref a2)) :
    MF l y19 prog_23_method_9_code 1 (some (.object "java/util/Optional")) ws ({ frames := 0, cells := 0, slots := 0, locals := 0 } : Room) Z #[(.ref a1)] h0 (r19_1Q Z a1 a2 h0 n0) := by
  refine MetFree.of_bodySF (plainFor_of_name pn_com_example_agave_agave_store_RequestStore_StoredRequest) hisR ?_
  intro p e s m args below meth c s₁ Bd hml0 hP hK
  obtain ⟨rfl, hZ, hh⟩ := hP
  have hx := Bd.exec
  have hby := Bd.bytes
  have hml : c.maxLocals = 1 := hml0
  have hown : s.vm.findClass "com/example/agave/agave/store/RequestStore$StoredRequest" = some m.cls := findClass_of_methodNamed Bd.named
  have hnm := (name_of_methodNamed Bd.named Bd.method).1
  have X0 : Stand p l e ({ frames := 0, cells := 0, slots := 0, locals := 0 } : Room) s m #[(.ref a1)] below meth c s₁ [] 0 0 := Stand.of_body Bd
  have e0 : s₁.heap = h0 := by rw [← hh, Bd.state]; rfl
  have N0 := Fr.nil n0
  have pre0 : ∀ t, Steps p.tables e below (s₁.setTop (mkF m 0 #[rv a1] [])) t → Steps p.tables e below (s₁.setTop (entryFrame m #[(.ref a1)] 1)) t := fun t k => castTop (r19_1e m a1 a2) k
  obtain ⟨T4, X4, e4, st4⟩ := getF X0 hx hZ hown (host := "") (Or.inl (ow hw 66 rfl)) Via.refl e0 H3 (g := (mkF m 1 #[rv a1] [(.ref a1)])) rfl rfl (hb hby d19_1)
  obtain ⟨fs, hr, hrun, hended, hW, hsame⟩ := X4.leave (v := some (.ref a2)) (fun h => by rw [Bd.returns] at h; cases h)
  refine ⟨_, _, pre0 _ ?_, hrun, hended, _, _, rfl, ?_, ⟨_, rfl⟩, hW, hsame.mono (by decide) (by decide)⟩
  · show St p e below s₁ m 0 #[rv a1] [] _
    refine XS.aloadN X0.here hx rfl (hb hby d19_0) rfl rfl ?_
    show St p e below s₁ m 1 #[rv a1] [(.ref a1)] _
    refine st4 _ ?_
    show St p e below T4 m 4 #[rv a1] [(.ref a2)] _
    jvm_step X4.here [X4.here.top, hx, (hb hby d19_4), X4.method', Bd.returns, Value.isRef, FieldType.isReference]
    first | (intro acts; rw [hr _ acts rfl rfl rfl]) | rw [hr _ _ rfl rfl rfl]
    exact Steps.refl _
  · show r19_1Q Z a1 a2 h0 n0 _ T4.heap _
    rw [e4]
    exact ⟨rfl, N0, rfl⟩
theorem d12_86 : decode prog_13_method_4_code 86 = .ok (.invokevirtual 42, 3) := by decide +kernel
theorem d12_89 : decode prog_13_method_4_code 89 = .ok (.ifCond .eq 10, 3) := by decide +kernel
theorem d12_92 : decode prog_13_method_4_code 92 = .ok (.getstatic 10, 3) := by decide +kernel
theorem d12_95 : decode prog_13_method_4_code 95 = .ok (.astore_n 3, 1) := by decide +kernel
theorem d12_96 : decode prog_13_method_4_code 96 = .ok (.goto 7, 3) := by decide +kernel
def r12_2Q (Z : State) (a1 : Addr) (p2 : Int32) (a3 : Addr) (a5 : Addr) (a13 : Addr) (a24 : Addr) (h0 : Heap) (n0 : Nat) (v : Option Value) (h : Heap) (L : List Loc) : Prop := v = some (.ref a24) ∧ Fr n0 L ∧ h = h0
theorem r12_2e (m : MethodId) (a1 : Addr) (p2 : Int32) (a3 : Addr) (a5 : Addr) (a13 : Addr) (a24 : Addr) : entryFrame m #[(.ref a1), (.int p2), (.ref a3)] 4 = mkF m 0 #[rv a1, iv p2, rv a3, .unset] [] := by first | (simp [entryFrame, mkF, argsToLocals, Value.category]; done) | rfl
set_option maxRecDepth 65536 in
set_option maxHeartbeats 40000000 in
theorem r12_2 (l : Launch) (Z : State) (a0 : Array Value) (hw : HW a0 Z) (ws : List Jvm.Cond) (a1 : Addr) (p2 : Int32) (a3 : Addr) (a5 : Addr) (a13 : Addr) (a24 : Addr) (h0 : Heap) (n0 : Nat) (O0 : Old Z n0 h0) (H4 : Exa Z h0 a1 "java/util/Optional") (H6 : Fld Z h0 a1 "java/util/Optional" "value" "Ljava/lang/Object;" (.ref a5)) (H12 : Exa Z h0 a5 "com/example/agave/agave/store/RequestStore$StoredRequest") (H14 : Fld Z h0 a5 "com/example/agave/agave/store/RequestStore$StoredRequest" "failure" "Ljava/util/Optional;" (.ref a13)) (H16 : Exa Z Z.heap a13 "java/util/Optional") (H17 : Fld Z Z.heap a13 "java/util/Optional" "value" "Ljava/lang/Object;" .null) (H21 : Fld Z h0 a5 "com/example/agave/agave/store/RequestStore$StoredRequest" "result" "Ljava/util/Optional;" (.ref a13)) (H25 : Sta Z Z.heap "com/example/agave/agave/store/RequestState" "IN_PROGRESS" "Lcom/example/agave/agave/store/RequestState;" (.ref a24)) :
    MF l y12 prog_13_method_4_code 4 (some (.object "com/example/agave/agave/store/RequestState")) ws ({ frames := 1, cells := 0, slots := 0, locals := 12 } : Room) Z #[(.ref a1), (.int p2), (.ref a3)] h0 (r12_2Q Z a1 p2 a3 a5 a13 a24 h0 n0) := by
  refine MetFree.of_bodySF (plainFor_of_name pn_com_example_agave_agave_store_RequestState) hisR ?_
  intro p e s m args below meth c s₁ Bd hml0 hP hK
  obtain ⟨rfl, hZ, hh⟩ := hP
  have hx := Bd.exec
  have hby := Bd.bytes
  have hml : c.maxLocals = 4 := hml0
  have hown : s.vm.findClass "com/example/agave/agave/store/RequestState" = some m.cls := findClass_of_methodNamed Bd.named
  have hnm := (name_of_methodNamed Bd.named Bd.method).1
  have X0 : Stand p l e ({ frames := 1, cells := 0, slots := 0, locals := 12 } : Room) s m #[(.ref a1), (.int p2), (.ref a3)] below meth c s₁ [] 0 0 := Stand.of_body Bd
  have e0 : s₁.heap = h0 := by rw [← hh, Bd.state]; rfl
  have N0 := Fr.nil n0
  have pre0 : ∀ t, Steps p.tables e below (s₁.setTop (mkF m 0 #[rv a1, iv p2, rv a3, .unset] [])) t → Steps p.tables e below (s₁.setTop (entryFrame m #[(.ref a1), (.int p2), (.ref a3)] 4)) t := fun t k => castTop (r12_2e m a1 p2 a3 a5 a13 a24) k
  obtain ⟨cq7, kq7, q7a, q7b, q7c⟩ := isOf hZ e0 H4
  obtain ⟨_, _, ⟨T7, L7, k7, n7⟩, -, X7, ⟨Lc7, hQ7, l7, y7, z7⟩, st7⟩ := X0.virtualBack hx (y := y13) (z := y13) hown (mvT hZ (ow hw 35 rfl)) (mvT hZ (ow hw 36 rfl)) (notFace_of_selects (args := #[]) (mvT hZ (ow hw 38 rfl))) (mvT hZ (ow hw 38 rfl)) (mvT hZ (ow hw 37 rfl)) (by decide) (backOf (W := 0) (r13_2 l Z a0 hw [] a1 a5 h0 n0 O0 H6) hZ (ow hw 39 rfl) (ow hw 28 rfl) (by decide) (by decide)) q7a q7c (g := (mkF m 1 #[rv a1, iv p2, rv a3, .unset] [(.ref a1)])) rfl (by rw [hml]; rfl) (Steps.refl _) (argsL := []) (rest := []) (lenOf pd___Z rfl) rfl (by show 2 * 0 + _ ≤ _; exact Nat.le_of_eq rfl) (hb hby d12_1) (fun _ _ => ⟨rfl, e0, (by decide : 0 + 0 ≤ _), (by decide : 0 + 0 ≤ _)⟩)
  dsimp only [Pt.U, Pt.locs, Pt.cells, Pt.slots] at X7 l7 y7 z7 st7 hQ7
  subst l7 y7 z7
  obtain ⟨rfl, N7q, e7⟩ := hQ7
  have N7 := Fr.app N0 N7q
  obtain ⟨cq8, kq8, q8a, q8b, q8c⟩ := isOf hZ e7 H4
  obtain ⟨_, _, ⟨T8, L8, k8, n8⟩, -, X8, ⟨Lc8, hQ8, l8, y8, z8⟩, st8⟩ := X7.virtualBack hx (y := y13) (z := y13) hown (mvT hZ (ow hw 35 rfl)) (mvT hZ (ow hw 36 rfl)) (notFace_of_selects (args := #[]) (mvT hZ (ow hw 38 rfl))) (mvT hZ (ow hw 38 rfl)) (mvT hZ (ow hw 37 rfl)) (by decide) (backOf (W := 0) (r13_2 l Z a0 hw [] a1 a5 h0 n0 O0 H6) hZ (ow hw 39 rfl) (ow hw 28 rfl) (by decide) (by decide)) q8a q8c (g := (mkF m 19 #[rv a1, iv p2, rv a3, .unset] [(.ref a1)])) rfl (by rw [hml]; rfl) (Steps.refl _) (argsL := []) (rest := []) (lenOf pd___Z rfl) rfl (by show 2 * 0 + _ ≤ _; exact Nat.le_of_eq rfl) (hb hby d12_19) (fun _ _ => ⟨rfl, e7, (by decide : 0 + 0 ≤ _), (by decide : 0 + 0 ≤ _)⟩)
  dsimp only [Pt.U, Pt.locs, Pt.cells, Pt.slots] at X8 l8 y8 z8 st8 hQ8
  subst l8 y8 z8
  obtain ⟨rfl, N8q, e8⟩ := hQ8
  have N8 := Fr.app N7 N8q
  obtain ⟨cq9, kq9, q9a, q9b, q9c⟩ := isOf hZ e8 H4
  obtain ⟨_, _, ⟨T9, L9, k9, n9⟩, -, X9, ⟨Lc9, hQ9, l9, y9, z9⟩, st9⟩ := X8.virtualBack hx (y := y13) (z := y13) hown (mvT hZ (ow hw 35 rfl)) (mvT hZ (ow hw 36 rfl)) (notFace_of_selects (args := #[]) (mvT hZ (ow hw 38 rfl))) (mvT hZ (ow hw 38 rfl)) (mvT hZ (ow hw 37 rfl)) (by decide) (backOf (W := 0) (r13_2 l Z a0 hw [] a1 a5 h0 n0 O0 H6) hZ (ow hw 39 rfl) (ow hw 28 rfl) (by decide) (by decide)) q9a q9c (g := (mkF m 40 #[rv a1, iv p2, rv a3, .unset] [(.ref a1)])) rfl (by rw [hml]; rfl) (Steps.refl _) (argsL := []) (rest := []) (lenOf pd___Z rfl) rfl (by show 2 * 0 + _ ≤ _; exact Nat.le_of_eq rfl) (hb hby d12_40) (fun _ _ => ⟨rfl, e8, (by decide : 0 + 0 ≤ _), (by decide : 0 + 0 ≤ _)⟩)
  dsimp only [Pt.U, Pt.locs, Pt.cells, Pt.slots] at X9 l9 y9 z9 st9 hQ9
  subst l9 y9 z9
  obtain ⟨rfl, N9q, e9⟩ := hQ9
  have N9 := Fr.app N8 N9q
  obtain ⟨cq10, kq10, q10a, q10b, q10c⟩ := isOf hZ e9 H4
  obtain ⟨_, _, ⟨T10, L10, k10, n10⟩, -, X10, ⟨Lc10, hQ10, l10, y10, z10⟩, st10⟩ := X9.virtualBack hx (y := y17) (z := y17) hown (mvT hZ (ow hw 86 rfl)) (mvT hZ (ow hw 87 rfl)) (notFace_of_selects (args := #[]) (mvT hZ (ow hw 89 rfl))) (mvT hZ (ow hw 89 rfl)) (mvT hZ (ow hw 88 rfl)) (by decide) (backOf (W := 0) (r17_1 l Z a0 hw [] a1 a5 h0 n0 O0 H6) hZ (ow hw 90 rfl) (ow hw 28 rfl) (by decide) (by decide)) q10a q10c (g := (mkF m 54 #[rv a1, iv p2, rv a3, .unset] [(.ref a1)])) rfl (by rw [hml]; rfl) (Steps.refl _) (argsL := []) (rest := []) (lenOf pd___Ljava_lang_Object_ rfl) rfl (by show 2 * 0 + _ ≤ _; exact Nat.le_of_eq rfl) (hb hby d12_54) (fun _ _ => ⟨rfl, e9, (by decide : 0 + 0 ≤ _), (by decide : 0 + 0 ≤ _)⟩)
  dsimp only [Pt.U, Pt.locs, Pt.cells, Pt.slots] at X10 l10 y10 z10 st10 hQ10
  subst l10 y10 z10
  obtain ⟨rfl, N10q, e10⟩ := hQ10
  have N10 := Fr.app N9 N10q
  obtain ⟨T11, X11, e11, st11⟩ := castY X10 hx hZ hown (ow hw 91 rfl) e10 (Ins.self H12) (g := (mkF m 57 #[rv a1, iv p2, rv a3, .unset] [(.ref a5)])) rfl rfl (hb hby d12_57)
  obtain ⟨cq15, kq15, q15a, q15b, q15c⟩ := isOf hZ e11 H12
  obtain ⟨_, _, ⟨T15, L15, k15, n15⟩, -, X15, ⟨Lc15, hQ15, l15, y15, z15⟩, st15⟩ := X11.virtualBack hx (y := y18) (z := y18) hown (mvT hZ (ow hw 93 rfl)) (mvT hZ (ow hw 94 rfl)) (notFace_of_selects (args := #[]) (mvT hZ (ow hw 96 rfl))) (mvT hZ (ow hw 96 rfl)) (mvT hZ (ow hw 95 rfl)) (by decide) (backOf (W := 0) (r18_1 l Z a0 hw [] a5 a13 h0 n0 O0 H14) hZ (ow hw 97 rfl) (ow hw 52 rfl) (by decide) (by decide)) q15a q15c (g := (mkF m 60 #[rv a1, iv p2, rv a3, .unset] [(.ref a5)])) rfl (by rw [hml]; rfl) (Steps.refl _) (argsL := []) (rest := []) (lenOf pd___Ljava_util_Optional_ rfl) rfl (by show 2 * 0 + _ ≤ _; exact Nat.le_of_eq rfl) (hb hby d12_60) (fun _ _ => ⟨rfl, e11, (by decide : 0 + 0 ≤ _), (by decide : 0 + 0 ≤ _)⟩)
  dsimp only [Pt.U, Pt.locs, Pt.cells, Pt.slots] at X15 l15 y15 z15 st15 hQ15
  subst l15 y15 z15
  obtain ⟨rfl, N15q, e15⟩ := hQ15
  have N15 := Fr.app N10 N15q
  obtain ⟨cq18, kq18, q18a, q18b, q18c⟩ := isOf hZ e15 (H16.ext O0.2)
  obtain ⟨_, _, ⟨T18, L18, k18, n18⟩, -, X18, ⟨Lc18, hQ18, l18, y18, z18⟩, st18⟩ := X15.virtualBack hx (y := y14) (z := y14) hown (mvT hZ (ow hw 42 rfl)) (mvT hZ (ow hw 43 rfl)) (notFace_of_selects (args := #[]) (mvT hZ (ow hw 45 rfl))) (mvT hZ (ow hw 45 rfl)) (mvT hZ (ow hw 44 rfl)) (by decide) (backOf (W := 0) (r14_1 l Z a0 hw [] a13 h0 n0 O0 H17) hZ (ow hw 46 rfl) (ow hw 28 rfl) (by decide) (by decide)) q18a q18c (g := (mkF m 63 #[rv a1, iv p2, rv a3, .unset] [(.ref a13)])) rfl (by rw [hml]; rfl) (Steps.refl _) (argsL := []) (rest := []) (lenOf pd___Z rfl) rfl (by show 2 * 0 + _ ≤ _; exact Nat.le_of_eq rfl) (hb hby d12_63) (fun _ _ => ⟨rfl, e15, (by decide : 0 + 0 ≤ _), (by decide : 0 + 0 ≤ _)⟩)
  dsimp only [Pt.U, Pt.locs, Pt.cells, Pt.slots] at X18 l18 y18 z18 st18 hQ18
  subst l18 y18 z18
  obtain ⟨rfl, N18q, e18⟩ := hQ18
  have N18 := Fr.app N15 N18q
  obtain ⟨cq19, kq19, q19a, q19b, q19c⟩ := isOf hZ e18 H4
  obtain ⟨_, _, ⟨T19, L19, k19, n19⟩, -, X19, ⟨Lc19, hQ19, l19, y19, z19⟩, st19⟩ := X18.virtualBack hx (y := y17) (z := y17) hown (mvT hZ (ow hw 86 rfl)) (mvT hZ (ow hw 87 rfl)) (notFace_of_selects (args := #[]) (mvT hZ (ow hw 89 rfl))) (mvT hZ (ow hw 89 rfl)) (mvT hZ (ow hw 88 rfl)) (by decide) (backOf (W := 0) (r17_1 l Z a0 hw [] a1 a5 h0 n0 O0 H6) hZ (ow hw 90 rfl) (ow hw 28 rfl) (by decide) (by decide)) q19a q19c (g := (mkF m 77 #[rv a1, iv p2, rv a3, .unset] [(.ref a1)])) rfl (by rw [hml]; rfl) (Steps.refl _) (argsL := []) (rest := []) (lenOf pd___Ljava_lang_Object_ rfl) rfl (by show 2 * 0 + _ ≤ _; exact Nat.le_of_eq rfl) (hb hby d12_77) (fun _ _ => ⟨rfl, e18, (by decide : 0 + 0 ≤ _), (by decide : 0 + 0 ≤ _)⟩)
  dsimp only [Pt.U, Pt.locs, Pt.cells, Pt.slots] at X19 l19 y19 z19 st19 hQ19
  subst l19 y19 z19
  obtain ⟨rfl, N19q, e19⟩ := hQ19
  have N19 := Fr.app N18 N19q
  obtain ⟨T20, X20, e20, st20⟩ := castY X19 hx hZ hown (ow hw 91 rfl) e19 (Ins.self H12) (g := (mkF m 80 #[rv a1, iv p2, rv a3, .unset] [(.ref a5)])) rfl rfl (hb hby d12_80)
  obtain ⟨cq22, kq22, q22a, q22b, q22c⟩ := isOf hZ e20 H12
  obtain ⟨_, _, ⟨T22, L22, k22, n22⟩, -, X22, ⟨Lc22, hQ22, l22, y22, z22⟩, st22⟩ := X20.virtualBack hx (y := y19) (z := y19) hown (mvT hZ (ow hw 98 rfl)) (mvT hZ (ow hw 99 rfl)) (notFace_of_selects (args := #[]) (mvT hZ (ow hw 101 rfl))) (mvT hZ (ow hw 101 rfl)) (mvT hZ (ow hw 100 rfl)) (by decide) (backOf (W := 0) (r19_1 l Z a0 hw [] a5 a13 h0 n0 O0 H21) hZ (ow hw 102 rfl) (ow hw 52 rfl) (by decide) (by decide)) q22a q22c (g := (mkF m 83 #[rv a1, iv p2, rv a3, .unset] [(.ref a5)])) rfl (by rw [hml]; rfl) (Steps.refl _) (argsL := []) (rest := []) (lenOf pd___Ljava_util_Optional_ rfl) rfl (by show 2 * 0 + _ ≤ _; exact Nat.le_of_eq rfl) (hb hby d12_83) (fun _ _ => ⟨rfl, e20, (by decide : 0 + 0 ≤ _), (by decide : 0 + 0 ≤ _)⟩)
  dsimp only [Pt.U, Pt.locs, Pt.cells, Pt.slots] at X22 l22 y22 z22 st22 hQ22
  subst l22 y22 z22
  obtain ⟨rfl, N22q, e22⟩ := hQ22
  have N22 := Fr.app N19 N22q
  obtain ⟨cq23, kq23, q23a, q23b, q23c⟩ := isOf hZ e22 (H16.ext O0.2)
  obtain ⟨_, _, ⟨T23, L23, k23, n23⟩, -, X23, ⟨Lc23, hQ23, l23, y23, z23⟩, st23⟩ := X22.virtualBack hx (y := y13) (z := y13) hown (mvT hZ (ow hw 35 rfl)) (mvT hZ (ow hw 36 rfl)) (notFace_of_selects (args := #[]) (mvT hZ (ow hw 38 rfl))) (mvT hZ (ow hw 38 rfl)) (mvT hZ (ow hw 37 rfl)) (by decide) (backOf (W := 0) (r13_1 l Z a0 hw [] a13 h0 n0 O0 H17) hZ (ow hw 39 rfl) (ow hw 28 rfl) (by decide) (by decide)) q23a q23c (g := (mkF m 86 #[rv a1, iv p2, rv a3, .unset] [(.ref a13)])) rfl (by rw [hml]; rfl) (Steps.refl _) (argsL := []) (rest := []) (lenOf pd___Z rfl) rfl (by show 2 * 0 + _ ≤ _; exact Nat.le_of_eq rfl) (hb hby d12_86) (fun _ _ => ⟨rfl, e22, (by decide : 0 + 0 ≤ _), (by decide : 0 + 0 ≤ _)⟩)
  dsimp only [Pt.U, Pt.locs, Pt.cells, Pt.slots] at X23 l23 y23 z23 st23 hQ23
  subst l23 y23 z23
  obtain ⟨rfl, N23q, e23⟩ := hQ23
  have N23 := Fr.app N22 N23q
  obtain ⟨T26, X26, e26, st26⟩ := getS2 X23 hx hZ hown (host := "") (Or.inl (ow hw 103 rfl)) Via.refl e23 (H25.ext O0.2) (g := (mkF m 92 #[rv a1, iv p2, rv a3, .unset] [])) rfl (hb hby d12_92)
  obtain ⟨fs, hr, hrun, hended, hW, hsame⟩ := X26.leave (v := some (.ref a24)) (fun h => by rw [Bd.returns] at h; cases h)
  refine ⟨_, _, pre0 _ ?_, hrun, hended, _, _, rfl, ?_, ⟨_, rfl⟩, hW, hsame.mono (by decide) (by decide)⟩
  · show St p e below s₁ m 0 #[rv a1, iv p2, rv a3, .unset] [] _
    refine XS.aloadN X0.here hx rfl (hb hby d12_0) rfl rfl ?_
    show St p e below s₁ m 1 #[rv a1, iv p2, rv a3, .unset] [(.ref a1)] _
    refine st7.trans ?_
    show St p e below T7 m 4 #[rv a1, iv p2, rv a3, .unset] [(.int (0 : Int32))] _
    refine XS.ifYes X7.here hx rfl (pc0 := 4) (pc' := 18) rfl (hb hby d12_4) rfl ((if0 _ _).trans (teq (rfl : (0 : Int32) = (0 : Int32))).1) (by decide) (by decide) ?_
    show St p e below T7 m 18 #[rv a1, iv p2, rv a3, .unset] [] _
    refine XS.aloadN X7.here hx rfl (hb hby d12_18) rfl rfl ?_
    show St p e below T7 m 19 #[rv a1, iv p2, rv a3, .unset] [(.ref a1)] _
    refine st8.trans ?_
    show St p e below T8 m 22 #[rv a1, iv p2, rv a3, .unset] [(.int (0 : Int32))] _
    refine XS.ifYes X8.here hx rfl (pc0 := 22) (pc' := 39) rfl (hb hby d12_22) rfl ((if0 _ _).trans (teq (rfl : (0 : Int32) = (0 : Int32))).1) (by decide) (by decide) ?_
    show St p e below T8 m 39 #[rv a1, iv p2, rv a3, .unset] [] _
    refine XS.aloadN X8.here hx rfl (hb hby d12_39) rfl rfl ?_
    show St p e below T8 m 40 #[rv a1, iv p2, rv a3, .unset] [(.ref a1)] _
    refine st9.trans ?_
    show St p e below T9 m 43 #[rv a1, iv p2, rv a3, .unset] [(.int (0 : Int32))] _
    refine XS.ifYes X9.here hx rfl (pc0 := 43) (pc' := 53) rfl (hb hby d12_43) rfl ((if0 _ _).trans (teq (rfl : (0 : Int32) = (0 : Int32))).1) (by decide) (by decide) ?_
    show St p e below T9 m 53 #[rv a1, iv p2, rv a3, .unset] [] _
    refine XS.aloadN X9.here hx rfl (hb hby d12_53) rfl rfl ?_
    show St p e below T9 m 54 #[rv a1, iv p2, rv a3, .unset] [(.ref a1)] _
    refine st10.trans ?_
    show St p e below T10 m 57 #[rv a1, iv p2, rv a3, .unset] [(.ref a5)] _
    refine st11 _ ?_
    show St p e below T11 m 60 #[rv a1, iv p2, rv a3, .unset] [(.ref a5)] _
    refine st15.trans ?_
    show St p e below T15 m 63 #[rv a1, iv p2, rv a3, .unset] [(.ref a13)] _
    refine st18.trans ?_
    show St p e below T18 m 66 #[rv a1, iv p2, rv a3, .unset] [(.int (0 : Int32))] _
    refine XS.ifYes X18.here hx rfl (pc0 := 66) (pc' := 76) rfl (hb hby d12_66) rfl ((if0 _ _).trans (teq (rfl : (0 : Int32) = (0 : Int32))).1) (by decide) (by decide) ?_
    show St p e below T18 m 76 #[rv a1, iv p2, rv a3, .unset] [] _
    refine XS.aloadN X18.here hx rfl (hb hby d12_76) rfl rfl ?_
    show St p e below T18 m 77 #[rv a1, iv p2, rv a3, .unset] [(.ref a1)] _
    refine st19.trans ?_
    show St p e below T19 m 80 #[rv a1, iv p2, rv a3, .unset] [(.ref a5)] _
    refine st20 _ ?_
    show St p e below T20 m 83 #[rv a1, iv p2, rv a3, .unset] [(.ref a5)] _
    refine st22.trans ?_
    show St p e below T22 m 86 #[rv a1, iv p2, rv a3, .unset] [(.ref a13)] _
    refine st23.trans ?_
    show St p e below T23 m 89 #[rv a1, iv p2, rv a3, .unset] [(.int (1 : Int32))] _
    refine XS.ifNo X23.here hx rfl (hb hby d12_89) rfl ((if0 _ _).trans (feq (by decide : ¬ ((1 : Int32) = (0 : Int32)))).1) ?_
    show St p e below T23 m 92 #[rv a1, iv p2, rv a3, .unset] [] _
    refine st26 _ ?_
    show St p e below T26 m 95 #[rv a1, iv p2, rv a3, .unset] [(.ref a24)] _
    refine XS.astoreN X26.here hx rfl (hb hby d12_95) rfl rfl (l' := #[rv a1, iv p2, rv a3, rv a24]) rfl ?_
    show St p e below T26 m 96 #[rv a1, iv p2, rv a3, rv a24] [] _
    refine XS.goto X26.here hx rfl (pc0 := 96) (pc' := 103) rfl (hb hby d12_96) (by decide) (by decide) ?_
    show St p e below T26 m 103 #[rv a1, iv p2, rv a3, rv a24] [] _
    refine XS.aloadN X26.here hx rfl (hb hby d12_103) rfl rfl ?_
    show St p e below T26 m 104 #[rv a1, iv p2, rv a3, rv a24] [(.ref a24)] _
    jvm_step X26.here [X26.here.top, hx, (hb hby d12_104), X26.method', Bd.returns, Value.isRef, FieldType.isReference]
    first | (intro acts; rw [hr _ acts rfl rfl rfl]) | rw [hr _ _ rfl rfl rfl]
    exact Steps.refl _
  · show r12_2Q Z a1 p2 a3 a5 a13 a24 h0 n0 _ T26.heap _
    rw [e26]
    exact ⟨rfl, N23, rfl⟩
set_option maxRecDepth 65536 in
set_option maxHeartbeats 40000000 in
theorem g0_11 {p : Program} {l : Launch} {e : Env} {R : Room} {s : State} {m : MethodId} {args : Array Value} {below : List Frame} {meth : Method} {c : Code} {T0 : State} {locs : List Loc} {cells slots : Nat} {Z : State} {a0 : Array Value} {h0 : Heap} {n0 : Nat} (p1 : Int32) (p2 : Int32) (p3 : Int32) (p4 : Int32) (p5 : Int32) (p6 : Int32) (p7 : Int32) (a8 : Addr) (a9 : Addr) (a10 : Addr) (a11 : Addr) (a12 : Addr) (a13 : Addr) (a14 : Addr) (a16 : Addr) (a19 : Addr) (a24 : Addr)
    (X0 : Stand p l e R s m args below meth c T0 locs cells slots) (hx : p.tables.exec = Jvm.exec) (hZ : Z.Warmed39 s.vm) (hw : HW a0 Z) (hby : c.code = code) (hml : c.maxLocals = 19) (hown : s.vm.findClass "com/example/agave/agave/store/RequestStateOfPinLaw" = some m.cls) (e0 : T0.heap = h0) (O0 : Old Z n0 h0) (N0 : Fr n0 locs) (rc : cells + 0 ≤ R.cells) (rs : slots + 0 ≤ R.slots) (rf : 2 ≤ R.frames) (rl : 27 ≤ R.locals) (H15 : Exa Z h0 a13 "java/util/Optional") (H17 : Fld Z h0 a13 "java/util/Optional" "value" "Ljava/lang/Object;" (.ref a16)) (H18 : Exa Z h0 a16 "com/example/agave/agave/store/RequestStore$StoredRequest") (H20 : Fld Z h0 a16 "com/example/agave/agave/store/RequestStore$StoredRequest" "failure" "Ljava/util/Optional;" (.ref a19)) (H21 : Exa Z Z.heap a19 "java/util/Optional") (H22 : Fld Z Z.heap a19 "java/util/Optional" "value" "Ljava/lang/Object;" .null) (H23 : Fld Z h0 a16 "com/example/agave/agave/store/RequestStore$StoredRequest" "result" "Ljava/util/Optional;" (.ref a19)) (H25 : Sta Z Z.heap "com/example/agave/agave/store/RequestState" "IN_PROGRESS" "Lcom/example/agave/agave/store/RequestState;" (.ref a24)) :
    ∃ (T' : State) (L' : List Loc), Stand p l e R s m args below meth c T' L' (cells + 0) (slots + 0) ∧ T'.heap = h0 ∧ Fr n0 L' ∧
      ∀ target, St p e below T' m 320 #[iv p1, iv p2, iv p3, iv (1 : Int32), iv p4, iv p5, iv (0 : Int32), iv (0 : Int32), iv p6, iv p7, rv a8, rv a9, rv a10, rv a11, rv a12, rv a13, rv a14, rv a24, rv a24] [(.int (1 : Int32))] target → St p e below T0 m 228 #[iv p1, iv p2, iv p3, iv (1 : Int32), iv p4, iv p5, iv (0 : Int32), iv (0 : Int32), iv p6, iv p7, rv a8, rv a9, rv a10, rv a11, rv a12, rv a13, rv a14, .unset, .unset] [] target := by
  obtain ⟨_, _, ⟨T26, L26, k26, n26⟩, -, X26, ⟨Lc26, hQ26, l26, y26, z26⟩, st26⟩ := Jvm.LawKit.callS X0 hx (y := y12) hown (mvT hZ (ow hw 31 rfl)) (mvT hZ (ow hw 32 rfl)) (mvT hZ (ow hw 33 rfl)) (mvT hZ (ow hw 34 rfl)) (by decide) (backOf (W := 0) (r12_2 l Z a0 hw [] a13 p4 a14 a16 a19 a24 h0 n0 O0 H15 H17 H18 H20 H21 H22 H23 H25) hZ (ow hw 34 rfl) (ow hw 33 rfl) (by show 1 + 1 ≤ R.frames; omega) (by show 0 + (4 + 11) + 12 ≤ R.locals; omega)) (g := (mkF m 234 #[iv p1, iv p2, iv p3, iv (1 : Int32), iv p4, iv p5, iv (0 : Int32), iv (0 : Int32), iv p6, iv p7, rv a8, rv a9, rv a10, rv a11, rv a12, rv a13, rv a14, .unset, .unset] [(.ref a14), (.int p4), (.ref a13)])) rfl (by rw [hml]; rfl) (argsL := [(.ref a13), (.int p4), (.ref a14)]) (rest := []) (lenOf pd__Ljava_util_Optional_ZLjava_util_Optional__Lcom_example_agave_agave_store_RequestState_ rfl) rfl (by show 2 * 0 + _ ≤ _; exact Nat.le_of_eq rfl) (hb hby at_234) (fun _ _ => ⟨rfl, e0, (by show cells + 0 + 0 ≤ R.cells; omega), (by show slots + 0 + 0 ≤ R.slots; omega)⟩)
  dsimp only [Pt.U, Pt.locs, Pt.cells, Pt.slots] at X26 l26 y26 z26 st26 hQ26
  subst l26
  rw [y26, z26] at X26
  obtain ⟨rfl, N26q, e26⟩ := hQ26
  have N26 := Fr.app N0 N26q
  replace X26 : Stand p l e R _ m args below meth c T26 _ (cells + 0) (slots + 0) := X26
  obtain ⟨T27, X27, e27, st27⟩ := getS2 X26 hx hZ hown (host := "") (Or.inl (ow hw 105 rfl)) Via.refl e26 (H25.ext O0.2) (g := (mkF m 269 #[iv p1, iv p2, iv p3, iv (1 : Int32), iv p4, iv p5, iv (0 : Int32), iv (0 : Int32), iv p6, iv p7, rv a8, rv a9, rv a10, rv a11, rv a12, rv a13, rv a14, rv a24, .unset] [])) rfl (hb hby at_269)
  refine ⟨T27, _, X27.more (by omega) (by omega), e27, N26, fun target kt => ?_⟩
  show St p e below T0 m 228 #[iv p1, iv p2, iv p3, iv (1 : Int32), iv p4, iv p5, iv (0 : Int32), iv (0 : Int32), iv p6, iv p7, rv a8, rv a9, rv a10, rv a11, rv a12, rv a13, rv a14, .unset, .unset] [] _
  refine XS.aload X0.here hx rfl (hb hby at_228) rfl rfl ?_
  show St p e below T0 m 230 #[iv p1, iv p2, iv p3, iv (1 : Int32), iv p4, iv p5, iv (0 : Int32), iv (0 : Int32), iv p6, iv p7, rv a8, rv a9, rv a10, rv a11, rv a12, rv a13, rv a14, .unset, .unset] [(.ref a13)] _
  refine XS.iload X0.here hx rfl (hb hby at_230) rfl ?_
  show St p e below T0 m 232 #[iv p1, iv p2, iv p3, iv (1 : Int32), iv p4, iv p5, iv (0 : Int32), iv (0 : Int32), iv p6, iv p7, rv a8, rv a9, rv a10, rv a11, rv a12, rv a13, rv a14, .unset, .unset] [(.int p4), (.ref a13)] _
  refine XS.aload X0.here hx rfl (hb hby at_232) rfl rfl ?_
  show St p e below T0 m 234 #[iv p1, iv p2, iv p3, iv (1 : Int32), iv p4, iv p5, iv (0 : Int32), iv (0 : Int32), iv p6, iv p7, rv a8, rv a9, rv a10, rv a11, rv a12, rv a13, rv a14, .unset, .unset] [(.ref a14), (.int p4), (.ref a13)] _
  refine st26 _ ?_
  show St p e below T26 m 237 #[iv p1, iv p2, iv p3, iv (1 : Int32), iv p4, iv p5, iv (0 : Int32), iv (0 : Int32), iv p6, iv p7, rv a8, rv a9, rv a10, rv a11, rv a12, rv a13, rv a14, .unset, .unset] [(.ref a24)] _
  refine XS.astore X26.here hx rfl (hb hby at_237) rfl rfl (l' := #[iv p1, iv p2, iv p3, iv (1 : Int32), iv p4, iv p5, iv (0 : Int32), iv (0 : Int32), iv p6, iv p7, rv a8, rv a9, rv a10, rv a11, rv a12, rv a13, rv a14, rv a24, .unset]) rfl ?_
  show St p e below T26 m 239 #[iv p1, iv p2, iv p3, iv (1 : Int32), iv p4, iv p5, iv (0 : Int32), iv (0 : Int32), iv p6, iv p7, rv a8, rv a9, rv a10, rv a11, rv a12, rv a13, rv a14, rv a24, .unset] [] _
  refine XS.iloadN X26.here hx rfl (hb hby at_239) rfl ?_
  show St p e below T26 m 240 #[iv p1, iv p2, iv p3, iv (1 : Int32), iv p4, iv p5, iv (0 : Int32), iv (0 : Int32), iv p6, iv p7, rv a8, rv a9, rv a10, rv a11, rv a12, rv a13, rv a14, rv a24, .unset] [(.int (1 : Int32))] _
  refine XS.ifNo X26.here hx rfl (hb hby at_240) rfl ((if0 _ _).trans (feq (by decide : ¬ ((1 : Int32) = (0 : Int32)))).1) ?_
  show St p e below T26 m 243 #[iv p1, iv p2, iv p3, iv (1 : Int32), iv p4, iv p5, iv (0 : Int32), iv (0 : Int32), iv p6, iv p7, rv a8, rv a9, rv a10, rv a11, rv a12, rv a13, rv a14, rv a24, .unset] [] _
  refine XS.iload X26.here hx rfl (hb hby at_243) rfl ?_
  show St p e below T26 m 245 #[iv p1, iv p2, iv p3, iv (1 : Int32), iv p4, iv p5, iv (0 : Int32), iv (0 : Int32), iv p6, iv p7, rv a8, rv a9, rv a10, rv a11, rv a12, rv a13, rv a14, rv a24, .unset] [(.int (0 : Int32))] _
  refine XS.ifYes X26.here hx rfl (pc0 := 245) (pc' := 256) rfl (hb hby at_245) rfl ((if0 _ _).trans (teq (rfl : (0 : Int32) = (0 : Int32))).1) (by decide) (by decide) ?_
  show St p e below T26 m 256 #[iv p1, iv p2, iv p3, iv (1 : Int32), iv p4, iv p5, iv (0 : Int32), iv (0 : Int32), iv p6, iv p7, rv a8, rv a9, rv a10, rv a11, rv a12, rv a13, rv a14, rv a24, .unset] [] _
  refine XS.iload X26.here hx rfl (hb hby at_256) rfl ?_
  show St p e below T26 m 258 #[iv p1, iv p2, iv p3, iv (1 : Int32), iv p4, iv p5, iv (0 : Int32), iv (0 : Int32), iv p6, iv p7, rv a8, rv a9, rv a10, rv a11, rv a12, rv a13, rv a14, rv a24, .unset] [(.int (0 : Int32))] _
  refine XS.ifYes X26.here hx rfl (pc0 := 258) (pc' := 269) rfl (hb hby at_258) rfl ((if0 _ _).trans (teq (rfl : (0 : Int32) = (0 : Int32))).1) (by decide) (by decide) ?_
  show St p e below T26 m 269 #[iv p1, iv p2, iv p3, iv (1 : Int32), iv p4, iv p5, iv (0 : Int32), iv (0 : Int32), iv p6, iv p7, rv a8, rv a9, rv a10, rv a11, rv a12, rv a13, rv a14, rv a24, .unset] [] _
  refine st27 _ ?_
  show St p e below T27 m 272 #[iv p1, iv p2, iv p3, iv (1 : Int32), iv p4, iv p5, iv (0 : Int32), iv (0 : Int32), iv p6, iv p7, rv a8, rv a9, rv a10, rv a11, rv a12, rv a13, rv a14, rv a24, .unset] [(.ref a24)] _
  refine XS.astore X27.here hx rfl (hb hby at_272) rfl rfl (l' := #[iv p1, iv p2, iv p3, iv (1 : Int32), iv p4, iv p5, iv (0 : Int32), iv (0 : Int32), iv p6, iv p7, rv a8, rv a9, rv a10, rv a11, rv a12, rv a13, rv a14, rv a24, rv a24]) rfl ?_
  show St p e below T27 m 274 #[iv p1, iv p2, iv p3, iv (1 : Int32), iv p4, iv p5, iv (0 : Int32), iv (0 : Int32), iv p6, iv p7, rv a8, rv a9, rv a10, rv a11, rv a12, rv a13, rv a14, rv a24, rv a24] [] _
  refine XS.goto X27.here hx rfl (pc0 := 274) (pc' := 308) rfl (hb hby at_274) (by decide) (by decide) ?_
  show St p e below T27 m 308 #[iv p1, iv p2, iv p3, iv (1 : Int32), iv p4, iv p5, iv (0 : Int32), iv (0 : Int32), iv p6, iv p7, rv a8, rv a9, rv a10, rv a11, rv a12, rv a13, rv a14, rv a24, rv a24] [] _
  refine XS.aload X27.here hx rfl (hb hby at_308) rfl rfl ?_
  show St p e below T27 m 310 #[iv p1, iv p2, iv p3, iv (1 : Int32), iv p4, iv p5, iv (0 : Int32), iv (0 : Int32), iv p6, iv p7, rv a8, rv a9, rv a10, rv a11, rv a12, rv a13, rv a14, rv a24, rv a24] [(.ref a24)] _
  refine XS.aload X27.here hx rfl (hb hby at_310) rfl rfl ?_
  show St p e below T27 m 312 #[iv p1, iv p2, iv p3, iv (1 : Int32), iv p4, iv p5, iv (0 : Int32), iv (0 : Int32), iv p6, iv p7, rv a8, rv a9, rv a10, rv a11, rv a12, rv a13, rv a14, rv a24, rv a24] [(.ref a24), (.ref a24)] _
  refine Jvm.RoadKit.acmp (g := (mkF m 312 #[iv p1, iv p2, iv p3, iv (1 : Int32), iv p4, iv p5, iv (0 : Int32), iv (0 : Int32), iv p6, iv p7, rv a8, rv a9, rv a10, rv a11, rv a12, rv a13, rv a14, rv a24, rv a24] [(.ref a24), (.ref a24)])) X27 hx rfl rfl rfl (pc0 := 312) (pc' := 315) (same := true) rfl (hb hby at_312) rfl (decide_eq_true rfl) (by decide) (by decide) ?_
  show St p e below T27 m 315 #[iv p1, iv p2, iv p3, iv (1 : Int32), iv p4, iv p5, iv (0 : Int32), iv (0 : Int32), iv p6, iv p7, rv a8, rv a9, rv a10, rv a11, rv a12, rv a13, rv a14, rv a24, rv a24] [] _
  refine XS.iconst X27.here hx rfl (hb hby at_315) ?_
  show St p e below T27 m 316 #[iv p1, iv p2, iv p3, iv (1 : Int32), iv p4, iv p5, iv (0 : Int32), iv (0 : Int32), iv p6, iv p7, rv a8, rv a9, rv a10, rv a11, rv a12, rv a13, rv a14, rv a24, rv a24] [(.int (1 : Int32))] _
  refine XS.goto X27.here hx rfl (pc0 := 316) (pc' := 320) rfl (hb hby at_316) (by decide) (by decide) ?_
  exact kt
def law_2Q (Z : State) (wRequestState_UNKNOWN : Addr) (wRequestState_IN_PROGRESS : Addr) (wRequestState_REMOVED : Addr) (wRequestState_DONE : Addr) (wRequestState_FAILED : Addr) (wOptional_EMPTY : Addr) (wIntegerCache_cache : Addr) (zCOMPACT_STRINGS : Int32) (clC : Cell) (i0 : Int32) (i1 : Int32) (i2 : Int32) (h0 : Heap) (n0 : Nat) (v : Option Value) (h : Heap) (L : List Loc) : Prop := v = some (.int (1 : Int32)) ∧ Fr n0 L
theorem law_2e (m : MethodId) (wRequestState_UNKNOWN : Addr) (wRequestState_IN_PROGRESS : Addr) (wRequestState_REMOVED : Addr) (wRequestState_DONE : Addr) (wRequestState_FAILED : Addr) (wOptional_EMPTY : Addr) (wIntegerCache_cache : Addr) (zCOMPACT_STRINGS : Int32) (clC : Cell) (i0 : Int32) (i1 : Int32) (i2 : Int32) : entryFrame m #[(.int i0), (.int i1), (.int i2)] maxLocals = mkF m 0 #[iv i0, iv i1, iv i2, .unset, .unset, .unset, .unset, .unset, .unset, .unset, .unset, .unset, .unset, .unset, .unset, .unset, .unset, .unset, .unset] [] := by first | (simp [entryFrame, mkF, argsToLocals, Value.category, maxLocals]; done) | rfl
set_option maxRecDepth 65536 in
set_option maxHeartbeats 40000000 in
theorem law_2 (l : Launch) (Z : State) (a0 : Array Value) (hw : HW a0 Z) (ws : List Jvm.Cond) (wRequestState_UNKNOWN : Addr) (wRequestState_IN_PROGRESS : Addr) (wRequestState_REMOVED : Addr) (wRequestState_DONE : Addr) (wRequestState_FAILED : Addr) (wOptional_EMPTY : Addr) (wIntegerCache_cache : Addr) (zCOMPACT_STRINGS : Int32) (clC : Cell) (B : Base Z wRequestState_UNKNOWN wRequestState_IN_PROGRESS wRequestState_REMOVED wRequestState_DONE wRequestState_FAILED wOptional_EMPTY wIntegerCache_cache zCOMPACT_STRINGS clC) (i0 : Int32) (i1 : Int32) (i2 : Int32) (h0 : Heap) (n0 : Nat) (O0 : Old Z n0 h0) (pin0 : (own_b (i0 &&& (1 : Int32))) = (1 : Int32)) (pin1 : (own_b (i0 &&& (2 : Int32))) = (0 : Int32)) (pin2 : (own_b (i0 &&& (4 : Int32))) = (0 : Int32)) (pin3 : (own_b (i0 &&& (8 : Int32))) = (0 : Int32)) (pin4 : (own_b (i0 &&& (16 : Int32))) = (0 : Int32)) (hc3 : ¬ ((255 : Int32) < ((i1 &&& (255 : Int32)).toUInt32.toUInt16.toUInt32.toInt32))) (hc4 : ¬ ((255 : Int32) < ((i2 &&& (255 : Int32)).toUInt32.toUInt16.toUInt32.toInt32))) :
    MetFree l x (head1 (Jvm.Cond.code x code maxLocals ret :: ws) room_1) (fun a U => a = #[(.int i0), (.int i1), (.int i2)] ∧ Z.Warmed39 U.vm ∧ U.heap = h0) (fun _ _ _ _ _ => True) (fun _ U o U' => ∃ v L, o = .returned v ∧ law_2Q Z wRequestState_UNKNOWN wRequestState_IN_PROGRESS wRequestState_REMOVED wRequestState_DONE wRequestState_FAILED wOptional_EMPTY wIntegerCache_cache zCOMPACT_STRINGS clC i0 i1 i2 h0 n0 v U'.heap L ∧ FrameEnd U o U' L room_1.cells room_1.slots) := by
  refine MetFree.of_bodySF (plainFor_of_name pn_com_example_agave_agave_store_RequestStateOfPinLaw) hisR ?_
  intro p e s m args below meth c s₁ Bd hml0 hP hK
  obtain ⟨rfl, hZ, hh⟩ := hP
  have hx := Bd.exec
  have hby := Bd.bytes
  have hml : c.maxLocals = 19 := hml0
  have hown : s.vm.findClass "com/example/agave/agave/store/RequestStateOfPinLaw" = some m.cls := findClass_of_methodNamed Bd.named
  have hnm := (name_of_methodNamed Bd.named Bd.method).1
  have X0 : Stand p l e room_1 s m #[(.int i0), (.int i1), (.int i2)] below meth c s₁ [] 0 0 := Stand.of_body Bd
  have e0 : s₁.heap = h0 := by rw [← hh, Bd.state]; rfl
  have N0 := Fr.nil n0
  have pre0 : ∀ t, Steps p.tables e below (s₁.setTop (mkF m 0 #[iv i0, iv i1, iv i2, .unset, .unset, .unset, .unset, .unset, .unset, .unset, .unset, .unset, .unset, .unset, .unset, .unset, .unset, .unset, .unset] [])) t → Steps p.tables e below (s₁.setTop (entryFrame m #[(.int i0), (.int i1), (.int i2)] maxLocals)) t := fun t k => castTop (law_2e m wRequestState_UNKNOWN wRequestState_IN_PROGRESS wRequestState_REMOVED wRequestState_DONE wRequestState_FAILED wOptional_EMPTY wIntegerCache_cache zCOMPACT_STRINGS clC i0 i1 i2) k
  obtain ⟨T1, L1, X1, e1, N1, st1⟩ := g0_1 i0 i1 i2 X0 hx hZ hw hby hml hown e0 O0 N0 (by decide) (by decide) (by decide) (by decide)
  obtain ⟨T5, h5, L5, b5_0, b5_1, b5_2, b5_3, k5_0, k5_1, X5, e5, N5, K5, lo5_1, lo5_2, lo5_3, lo5_4, nq5_5, nq5_6, nq5_7, nq5_8, nq5_9, nq5_10, f5_11, f5_12, f5_13, f5_14, f5_15, f5_16, f5_17, f5_18, f5_19, f5_20, st5⟩ := g0_2 i0 i1 i2 (1 : Int32) (0 : Int32) (0 : Int32) (0 : Int32) (0 : Int32) (own_b (i0 &&& (32 : Int32))) (own_b (i0 &&& (64 : Int32))) zCOMPACT_STRINGS X1 hx hZ hw hby hml hown e1 O0 N1 (by decide) (by decide) (by decide) (by decide) B.2.2.2.2.2.2.2.2.2.2.2.2.2.2.2.1 B.2.2.2.2.2.2.2.2.2.2.2.2.2.2.2.2.1 hc3 hc4
  have O_K5 : Old Z n0 h5 := O0.keep K5 all0
  have Kp_K5 : Keep h0 h5 [] := (Keep.refl h0 []).trans K5 all0
  obtain ⟨T6, L6, X6, e6, N6, st6⟩ := g0_3 i0 i1 i2 (1 : Int32) (0 : Int32) (0 : Int32) (0 : Int32) (own_b (i0 &&& (32 : Int32))) (own_b (i0 &&& (64 : Int32))) b5_0 b5_1 wOptional_EMPTY X5 hx hZ hw hby hml hown e5 O_K5 N5 (by decide) (by decide) (by decide) (by decide) B.2.2.2.2.2.2.2.2.2.2.1
  obtain ⟨T7, L7, X7, e7, N7, st7⟩ := g0_4 i0 i1 i2 (1 : Int32) (0 : Int32) (0 : Int32) (0 : Int32) (own_b (i0 &&& (32 : Int32))) (own_b (i0 &&& (64 : Int32))) b5_0 b5_1 wOptional_EMPTY wOptional_EMPTY X6 hx hZ hw hby hml hown e6 O_K5 N6 (by decide) (by decide) (by decide) (by decide) B.2.2.2.2.2.2.2.2.2.2.1
  obtain ⟨T8, h8, L8, b8_0, X8, e8, N8, K8, st8⟩ := m0_1 i0 i1 i2 (1 : Int32) (0 : Int32) (0 : Int32) (0 : Int32) (0 : Int32) (own_b (i0 &&& (32 : Int32))) (own_b (i0 &&& (64 : Int32))) b5_0 b5_1 wOptional_EMPTY wOptional_EMPTY wOptional_EMPTY wIntegerCache_cache clC X7 hx hZ hw hby hml hown e7 O_K5 N7 (by decide) (by decide) (by decide) (by decide) B.2.2.2.2.2.2.2.2.2.2.1 B.2.2.2.2.2.2.2.2.2.2.1 B.2.2.2.2.2.2.2.2.2.2.2.2.1 B.2.2.2.2.2.2.2.2.2.2.2.2.2.1 B.2.2.2.2.2.2.2.2.2.2.2.2.2.2.2.2.2.2.2.2.2.2.2.2.2.2.2.2.2.1 B.2.2.2.2.2.2.2.2.2.2.2.2.2.2.2.2.2.2.2.2.2.2.2.2.2.2.2.2.2.2.1 B.2.2.2.2.2.2.2.2.2.2.2.2.2.2.2.2.2.2.2.2.2.2.2.2.2.2.2.2.2.2.2
  have O_K8 : Old Z n0 h8 := O_K5.keep K8 all0
  have Kp_K8 : Keep h0 h8 [] := Kp_K5.trans K8 all0
  obtain ⟨T9, h9, L9, b9_0, b9_1, X9, e9, N9, K9, lo9_1, lo9_2, nq9_3, f9_4, f9_5, f9_6, f9_7, f9_8, f9_9, f9_10, f9_11, st9⟩ := g0_10 i0 i1 i2 (0 : Int32) (0 : Int32) (0 : Int32) (0 : Int32) (own_b (i0 &&& (32 : Int32))) (own_b (i0 &&& (64 : Int32))) b5_0 b5_1 wOptional_EMPTY wOptional_EMPTY b8_0 wOptional_EMPTY X8 hx hZ hw hby hml hown e8 O_K8 N8 (by decide) (by decide) (by decide) (by decide) B.2.2.2.2.2.2.2.2.2.2.1
  have O_K9 : Old Z n0 h9 := O_K8.keep K9 all0
  have Kp_K9 : Keep h0 h9 [] := Kp_K8.trans K9 all0
  obtain ⟨T10, L10, X10, e10, N10, st10⟩ := g0_8 i0 i1 i2 (1 : Int32) (0 : Int32) (0 : Int32) (0 : Int32) (own_b (i0 &&& (32 : Int32))) (own_b (i0 &&& (64 : Int32))) b5_0 b5_1 wOptional_EMPTY wOptional_EMPTY b8_0 b9_0 wOptional_EMPTY X9 hx hZ hw hby hml hown e9 O_K9 N9 (by decide) (by decide) (by decide) (by decide) B.2.2.2.2.2.2.2.2.2.2.1
  obtain ⟨T11, L11, X11, e11, N11, st11⟩ := g0_11 i0 i1 i2 (0 : Int32) (0 : Int32) (own_b (i0 &&& (32 : Int32))) (own_b (i0 &&& (64 : Int32))) b5_0 b5_1 wOptional_EMPTY wOptional_EMPTY b8_0 b9_0 wOptional_EMPTY b9_1 wOptional_EMPTY wRequestState_IN_PROGRESS X10 hx hZ hw hby hml hown e10 O_K9 N10 (by decide) (by decide) (by decide) (by decide) f9_4 f9_5 f9_6 f9_10 B.2.2.2.2.2.2.2.2.2.2.2.1 B.2.2.2.2.2.2.2.2.2.2.2.2.2.2.2.2.2.1 f9_9 B.2.2.1
  obtain ⟨fs, hr, hrun, hended, hW, hsame⟩ := X11.leave (v := some (.int (1 : Int32))) (fun h => by rw [Bd.returns] at h; cases h)
  refine ⟨_, _, pre0 _ ?_, hrun, hended, _, _, rfl, ?_, ⟨_, rfl⟩, hW, hsame.mono (by decide) (by decide)⟩
  · refine st1 _ ?_
    show St p e below T1 m 94 #[iv i0, iv i1, iv i2, iv (own_b (i0 &&& (1 : Int32))), iv (own_b (i0 &&& (2 : Int32))), iv (own_b (i0 &&& (4 : Int32))), iv (own_b (i0 &&& (8 : Int32))), iv (own_b (i0 &&& (16 : Int32))), iv (own_b (i0 &&& (32 : Int32))), iv (own_b (i0 &&& (64 : Int32))), .unset, .unset, .unset, .unset, .unset, .unset, .unset, .unset, .unset] [] _
    rw [pin0]
    rw [pin1]
    rw [pin2]
    rw [pin3]
    rw [pin4]
    refine st5 _ ?_
    refine st6 _ ?_
    refine st7 _ ?_
    refine st8 _ ?_
    refine st9 _ ?_
    refine st10 _ ?_
    refine st11 _ ?_
    show St p e below T11 m 320 #[iv i0, iv i1, iv i2, iv (1 : Int32), iv (0 : Int32), iv (0 : Int32), iv (0 : Int32), iv (0 : Int32), iv (own_b (i0 &&& (32 : Int32))), iv (own_b (i0 &&& (64 : Int32))), rv b5_0, rv b5_1, rv wOptional_EMPTY, rv wOptional_EMPTY, rv b8_0, rv b9_0, rv wOptional_EMPTY, rv wRequestState_IN_PROGRESS, rv wRequestState_IN_PROGRESS] [(.int (1 : Int32))] _
    exact retN X11 hx (t := .boolean) Bd.returns (by simp) (hb hby at_320) hr
  · show law_2Q Z wRequestState_UNKNOWN wRequestState_IN_PROGRESS wRequestState_REMOVED wRequestState_DONE wRequestState_FAILED wOptional_EMPTY wIntegerCache_cache zCOMPACT_STRINGS clC i0 i1 i2 h0 n0 _ T11.heap _
    rw [e11]
    exact ⟨rfl, N11⟩
theorem d12_11 : decode prog_13_method_4_code 11 = .ok (.getstatic 10, 3) := by decide +kernel
theorem d12_14 : decode prog_13_method_4_code 14 = .ok (.astore_n 3, 1) := by decide +kernel
theorem d12_15 : decode prog_13_method_4_code 15 = .ok (.goto 88, 3) := by decide +kernel
def r12_3Q (Z : State) (a1 : Addr) (a2 : Addr) (a6 : Addr) (h0 : Heap) (n0 : Nat) (v : Option Value) (h : Heap) (L : List Loc) : Prop := v = some (.ref a6) ∧ Fr n0 L ∧ h = h0
theorem r12_3e (m : MethodId) (a1 : Addr) (a2 : Addr) (a6 : Addr) : entryFrame m #[(.ref a1), (.int (1 : Int32)), (.ref a2)] 4 = mkF m 0 #[rv a1, iv (1 : Int32), rv a2, .unset] [] := by first | (simp [entryFrame, mkF, argsToLocals, Value.category]; done) | rfl
set_option maxRecDepth 65536 in
set_option maxHeartbeats 40000000 in
theorem r12_3 (l : Launch) (Z : State) (a0 : Array Value) (hw : HW a0 Z) (ws : List Jvm.Cond) (a1 : Addr) (a2 : Addr) (a6 : Addr) (h0 : Heap) (n0 : Nat) (O0 : Old Z n0 h0) (H3 : Exa Z Z.heap a1 "java/util/Optional") (H4 : Fld Z Z.heap a1 "java/util/Optional" "value" "Ljava/lang/Object;" .null) (H7 : Sta Z Z.heap "com/example/agave/agave/store/RequestState" "IN_PROGRESS" "Lcom/example/agave/agave/store/RequestState;" (.ref a6)) :
    MF l y12 prog_13_method_4_code 4 (some (.object "com/example/agave/agave/store/RequestState")) ws ({ frames := 1, cells := 0, slots := 0, locals := 12 } : Room) Z #[(.ref a1), (.int (1 : Int32)), (.ref a2)] h0 (r12_3Q Z a1 a2 a6 h0 n0) := by
  refine MetFree.of_bodySF (plainFor_of_name pn_com_example_agave_agave_store_RequestState) hisR ?_
  intro p e s m args below meth c s₁ Bd hml0 hP hK
  obtain ⟨rfl, hZ, hh⟩ := hP
  have hx := Bd.exec
  have hby := Bd.bytes
  have hml : c.maxLocals = 4 := hml0
  have hown : s.vm.findClass "com/example/agave/agave/store/RequestState" = some m.cls := findClass_of_methodNamed Bd.named
  have hnm := (name_of_methodNamed Bd.named Bd.method).1
  have X0 : Stand p l e ({ frames := 1, cells := 0, slots := 0, locals := 12 } : Room) s m #[(.ref a1), (.int (1 : Int32)), (.ref a2)] below meth c s₁ [] 0 0 := Stand.of_body Bd
  have e0 : s₁.heap = h0 := by rw [← hh, Bd.state]; rfl
  have N0 := Fr.nil n0
  have pre0 : ∀ t, Steps p.tables e below (s₁.setTop (mkF m 0 #[rv a1, iv (1 : Int32), rv a2, .unset] [])) t → Steps p.tables e below (s₁.setTop (entryFrame m #[(.ref a1), (.int (1 : Int32)), (.ref a2)] 4)) t := fun t k => castTop (r12_3e m a1 a2 a6) k
  obtain ⟨cq5, kq5, q5a, q5b, q5c⟩ := isOf hZ e0 (H3.ext O0.2)
  obtain ⟨_, _, ⟨T5, L5, k5, n5⟩, -, X5, ⟨Lc5, hQ5, l5, y5, z5⟩, st5⟩ := X0.virtualBack hx (y := y13) (z := y13) hown (mvT hZ (ow hw 35 rfl)) (mvT hZ (ow hw 36 rfl)) (notFace_of_selects (args := #[]) (mvT hZ (ow hw 38 rfl))) (mvT hZ (ow hw 38 rfl)) (mvT hZ (ow hw 37 rfl)) (by decide) (backOf (W := 0) (r13_1 l Z a0 hw [] a1 h0 n0 O0 H4) hZ (ow hw 39 rfl) (ow hw 28 rfl) (by decide) (by decide)) q5a q5c (g := (mkF m 1 #[rv a1, iv (1 : Int32), rv a2, .unset] [(.ref a1)])) rfl (by rw [hml]; rfl) (Steps.refl _) (argsL := []) (rest := []) (lenOf pd___Z rfl) rfl (by show 2 * 0 + _ ≤ _; exact Nat.le_of_eq rfl) (hb hby d12_1) (fun _ _ => ⟨rfl, e0, (by decide : 0 + 0 ≤ _), (by decide : 0 + 0 ≤ _)⟩)
  dsimp only [Pt.U, Pt.locs, Pt.cells, Pt.slots] at X5 l5 y5 z5 st5 hQ5
  subst l5 y5 z5
  obtain ⟨rfl, N5q, e5⟩ := hQ5
  have N5 := Fr.app N0 N5q
  obtain ⟨T8, X8, e8, st8⟩ := getS2 X5 hx hZ hown (host := "") (Or.inl (ow hw 103 rfl)) Via.refl e5 (H7.ext O0.2) (g := (mkF m 11 #[rv a1, iv (1 : Int32), rv a2, .unset] [])) rfl (hb hby d12_11)
  obtain ⟨fs, hr, hrun, hended, hW, hsame⟩ := X8.leave (v := some (.ref a6)) (fun h => by rw [Bd.returns] at h; cases h)
  refine ⟨_, _, pre0 _ ?_, hrun, hended, _, _, rfl, ?_, ⟨_, rfl⟩, hW, hsame.mono (by decide) (by decide)⟩
  · show St p e below s₁ m 0 #[rv a1, iv (1 : Int32), rv a2, .unset] [] _
    refine XS.aloadN X0.here hx rfl (hb hby d12_0) rfl rfl ?_
    show St p e below s₁ m 1 #[rv a1, iv (1 : Int32), rv a2, .unset] [(.ref a1)] _
    refine st5.trans ?_
    show St p e below T5 m 4 #[rv a1, iv (1 : Int32), rv a2, .unset] [(.int (1 : Int32))] _
    refine XS.ifNo X5.here hx rfl (hb hby d12_4) rfl ((if0 _ _).trans (feq (by decide : ¬ ((1 : Int32) = (0 : Int32)))).1) ?_
    show St p e below T5 m 7 #[rv a1, iv (1 : Int32), rv a2, .unset] [] _
    refine XS.iloadN X5.here hx rfl (hb hby d12_7) rfl ?_
    show St p e below T5 m 8 #[rv a1, iv (1 : Int32), rv a2, .unset] [(.int (1 : Int32))] _
    refine XS.ifNo X5.here hx rfl (hb hby d12_8) rfl ((if0 _ _).trans (feq (by decide : ¬ ((1 : Int32) = (0 : Int32)))).1) ?_
    show St p e below T5 m 11 #[rv a1, iv (1 : Int32), rv a2, .unset] [] _
    refine st8 _ ?_
    show St p e below T8 m 14 #[rv a1, iv (1 : Int32), rv a2, .unset] [(.ref a6)] _
    refine XS.astoreN X8.here hx rfl (hb hby d12_14) rfl rfl (l' := #[rv a1, iv (1 : Int32), rv a2, rv a6]) rfl ?_
    show St p e below T8 m 15 #[rv a1, iv (1 : Int32), rv a2, rv a6] [] _
    refine XS.goto X8.here hx rfl (pc0 := 15) (pc' := 103) rfl (hb hby d12_15) (by decide) (by decide) ?_
    show St p e below T8 m 103 #[rv a1, iv (1 : Int32), rv a2, rv a6] [] _
    refine XS.aloadN X8.here hx rfl (hb hby d12_103) rfl rfl ?_
    show St p e below T8 m 104 #[rv a1, iv (1 : Int32), rv a2, rv a6] [(.ref a6)] _
    jvm_step X8.here [X8.here.top, hx, (hb hby d12_104), X8.method', Bd.returns, Value.isRef, FieldType.isReference]
    first | (intro acts; rw [hr _ acts rfl rfl rfl]) | rw [hr _ _ rfl rfl rfl]
    exact Steps.refl _
  · show r12_3Q Z a1 a2 a6 h0 n0 _ T8.heap _
    rw [e8]
    exact ⟨rfl, N5, rfl⟩
set_option maxRecDepth 65536 in
set_option maxHeartbeats 40000000 in
theorem g0_12 {p : Program} {l : Launch} {e : Env} {R : Room} {s : State} {m : MethodId} {args : Array Value} {below : List Frame} {meth : Method} {c : Code} {T0 : State} {locs : List Loc} {cells slots : Nat} {Z : State} {a0 : Array Value} {h0 : Heap} {n0 : Nat} (p1 : Int32) (p2 : Int32) (p3 : Int32) (p4 : Int32) (p5 : Int32) (p6 : Int32) (p7 : Int32) (p8 : Int32) (a9 : Addr) (a10 : Addr) (a11 : Addr) (a12 : Addr) (a13 : Addr) (a14 : Addr) (a15 : Addr) (a18 : Addr)
    (X0 : Stand p l e R s m args below meth c T0 locs cells slots) (hx : p.tables.exec = Jvm.exec) (hZ : Z.Warmed39 s.vm) (hw : HW a0 Z) (hby : c.code = code) (hml : c.maxLocals = 19) (hown : s.vm.findClass "com/example/agave/agave/store/RequestStateOfPinLaw" = some m.cls) (e0 : T0.heap = h0) (O0 : Old Z n0 h0) (N0 : Fr n0 locs) (rc : cells + 0 ≤ R.cells) (rs : slots + 0 ≤ R.slots) (rf : 2 ≤ R.frames) (rl : 27 ≤ R.locals) (H16 : Exa Z Z.heap a14 "java/util/Optional") (H17 : Fld Z Z.heap a14 "java/util/Optional" "value" "Ljava/lang/Object;" .null) (H19 : Sta Z Z.heap "com/example/agave/agave/store/RequestState" "IN_PROGRESS" "Lcom/example/agave/agave/store/RequestState;" (.ref a18)) :
    ∃ (T' : State) (L' : List Loc), Stand p l e R s m args below meth c T' L' (cells + 0) (slots + 0) ∧ T'.heap = h0 ∧ Fr n0 L' ∧
      ∀ target, St p e below T' m 320 #[iv p1, iv p2, iv p3, iv (0 : Int32), iv (1 : Int32), iv p4, iv p5, iv p6, iv p7, iv p8, rv a9, rv a10, rv a11, rv a12, rv a13, rv a14, rv a15, rv a18, rv a18] [(.int (1 : Int32))] target → St p e below T0 m 228 #[iv p1, iv p2, iv p3, iv (0 : Int32), iv (1 : Int32), iv p4, iv p5, iv p6, iv p7, iv p8, rv a9, rv a10, rv a11, rv a12, rv a13, rv a14, rv a15, .unset, .unset] [] target := by
  obtain ⟨_, _, ⟨T20, L20, k20, n20⟩, -, X20, ⟨Lc20, hQ20, l20, y20, z20⟩, st20⟩ := Jvm.LawKit.callS X0 hx (y := y12) hown (mvT hZ (ow hw 31 rfl)) (mvT hZ (ow hw 32 rfl)) (mvT hZ (ow hw 33 rfl)) (mvT hZ (ow hw 34 rfl)) (by decide) (backOf (W := 0) (r12_3 l Z a0 hw [] a14 a15 a18 h0 n0 O0 H16 H17 H19) hZ (ow hw 34 rfl) (ow hw 33 rfl) (by show 1 + 1 ≤ R.frames; omega) (by show 0 + (4 + 11) + 12 ≤ R.locals; omega)) (g := (mkF m 234 #[iv p1, iv p2, iv p3, iv (0 : Int32), iv (1 : Int32), iv p4, iv p5, iv p6, iv p7, iv p8, rv a9, rv a10, rv a11, rv a12, rv a13, rv a14, rv a15, .unset, .unset] [(.ref a15), (.int (1 : Int32)), (.ref a14)])) rfl (by rw [hml]; rfl) (argsL := [(.ref a14), (.int (1 : Int32)), (.ref a15)]) (rest := []) (lenOf pd__Ljava_util_Optional_ZLjava_util_Optional__Lcom_example_agave_agave_store_RequestState_ rfl) rfl (by show 2 * 0 + _ ≤ _; exact Nat.le_of_eq rfl) (hb hby at_234) (fun _ _ => ⟨rfl, e0, (by show cells + 0 + 0 ≤ R.cells; omega), (by show slots + 0 + 0 ≤ R.slots; omega)⟩)
  dsimp only [Pt.U, Pt.locs, Pt.cells, Pt.slots] at X20 l20 y20 z20 st20 hQ20
  subst l20
  rw [y20, z20] at X20
  obtain ⟨rfl, N20q, e20⟩ := hQ20
  have N20 := Fr.app N0 N20q
  replace X20 : Stand p l e R _ m args below meth c T20 _ (cells + 0) (slots + 0) := X20
  obtain ⟨T21, X21, e21, st21⟩ := getS2 X20 hx hZ hown (host := "") (Or.inl (ow hw 105 rfl)) Via.refl e20 (H19.ext O0.2) (g := (mkF m 282 #[iv p1, iv p2, iv p3, iv (0 : Int32), iv (1 : Int32), iv p4, iv p5, iv p6, iv p7, iv p8, rv a9, rv a10, rv a11, rv a12, rv a13, rv a14, rv a15, rv a18, .unset] [])) rfl (hb hby at_282)
  refine ⟨T21, _, X21.more (by omega) (by omega), e21, N20, fun target kt => ?_⟩
  show St p e below T0 m 228 #[iv p1, iv p2, iv p3, iv (0 : Int32), iv (1 : Int32), iv p4, iv p5, iv p6, iv p7, iv p8, rv a9, rv a10, rv a11, rv a12, rv a13, rv a14, rv a15, .unset, .unset] [] _
  refine XS.aload X0.here hx rfl (hb hby at_228) rfl rfl ?_
  show St p e below T0 m 230 #[iv p1, iv p2, iv p3, iv (0 : Int32), iv (1 : Int32), iv p4, iv p5, iv p6, iv p7, iv p8, rv a9, rv a10, rv a11, rv a12, rv a13, rv a14, rv a15, .unset, .unset] [(.ref a14)] _
  refine XS.iload X0.here hx rfl (hb hby at_230) rfl ?_
  show St p e below T0 m 232 #[iv p1, iv p2, iv p3, iv (0 : Int32), iv (1 : Int32), iv p4, iv p5, iv p6, iv p7, iv p8, rv a9, rv a10, rv a11, rv a12, rv a13, rv a14, rv a15, .unset, .unset] [(.int (1 : Int32)), (.ref a14)] _
  refine XS.aload X0.here hx rfl (hb hby at_232) rfl rfl ?_
  show St p e below T0 m 234 #[iv p1, iv p2, iv p3, iv (0 : Int32), iv (1 : Int32), iv p4, iv p5, iv p6, iv p7, iv p8, rv a9, rv a10, rv a11, rv a12, rv a13, rv a14, rv a15, .unset, .unset] [(.ref a15), (.int (1 : Int32)), (.ref a14)] _
  refine st20 _ ?_
  show St p e below T20 m 237 #[iv p1, iv p2, iv p3, iv (0 : Int32), iv (1 : Int32), iv p4, iv p5, iv p6, iv p7, iv p8, rv a9, rv a10, rv a11, rv a12, rv a13, rv a14, rv a15, .unset, .unset] [(.ref a18)] _
  refine XS.astore X20.here hx rfl (hb hby at_237) rfl rfl (l' := #[iv p1, iv p2, iv p3, iv (0 : Int32), iv (1 : Int32), iv p4, iv p5, iv p6, iv p7, iv p8, rv a9, rv a10, rv a11, rv a12, rv a13, rv a14, rv a15, rv a18, .unset]) rfl ?_
  show St p e below T20 m 239 #[iv p1, iv p2, iv p3, iv (0 : Int32), iv (1 : Int32), iv p4, iv p5, iv p6, iv p7, iv p8, rv a9, rv a10, rv a11, rv a12, rv a13, rv a14, rv a15, rv a18, .unset] [] _
  refine XS.iloadN X20.here hx rfl (hb hby at_239) rfl ?_
  show St p e below T20 m 240 #[iv p1, iv p2, iv p3, iv (0 : Int32), iv (1 : Int32), iv p4, iv p5, iv p6, iv p7, iv p8, rv a9, rv a10, rv a11, rv a12, rv a13, rv a14, rv a15, rv a18, .unset] [(.int (0 : Int32))] _
  refine XS.ifYes X20.here hx rfl (pc0 := 240) (pc' := 277) rfl (hb hby at_240) rfl ((if0 _ _).trans (teq (rfl : (0 : Int32) = (0 : Int32))).1) (by decide) (by decide) ?_
  show St p e below T20 m 277 #[iv p1, iv p2, iv p3, iv (0 : Int32), iv (1 : Int32), iv p4, iv p5, iv p6, iv p7, iv p8, rv a9, rv a10, rv a11, rv a12, rv a13, rv a14, rv a15, rv a18, .unset] [] _
  refine XS.iload X20.here hx rfl (hb hby at_277) rfl ?_
  show St p e below T20 m 279 #[iv p1, iv p2, iv p3, iv (0 : Int32), iv (1 : Int32), iv p4, iv p5, iv p6, iv p7, iv p8, rv a9, rv a10, rv a11, rv a12, rv a13, rv a14, rv a15, rv a18, .unset] [(.int (1 : Int32))] _
  refine XS.ifNo X20.here hx rfl (hb hby at_279) rfl ((if0 _ _).trans (feq (by decide : ¬ ((1 : Int32) = (0 : Int32)))).1) ?_
  show St p e below T20 m 282 #[iv p1, iv p2, iv p3, iv (0 : Int32), iv (1 : Int32), iv p4, iv p5, iv p6, iv p7, iv p8, rv a9, rv a10, rv a11, rv a12, rv a13, rv a14, rv a15, rv a18, .unset] [] _
  refine st21 _ ?_
  show St p e below T21 m 285 #[iv p1, iv p2, iv p3, iv (0 : Int32), iv (1 : Int32), iv p4, iv p5, iv p6, iv p7, iv p8, rv a9, rv a10, rv a11, rv a12, rv a13, rv a14, rv a15, rv a18, .unset] [(.ref a18)] _
  refine XS.astore X21.here hx rfl (hb hby at_285) rfl rfl (l' := #[iv p1, iv p2, iv p3, iv (0 : Int32), iv (1 : Int32), iv p4, iv p5, iv p6, iv p7, iv p8, rv a9, rv a10, rv a11, rv a12, rv a13, rv a14, rv a15, rv a18, rv a18]) rfl ?_
  show St p e below T21 m 287 #[iv p1, iv p2, iv p3, iv (0 : Int32), iv (1 : Int32), iv p4, iv p5, iv p6, iv p7, iv p8, rv a9, rv a10, rv a11, rv a12, rv a13, rv a14, rv a15, rv a18, rv a18] [] _
  refine XS.goto X21.here hx rfl (pc0 := 287) (pc' := 308) rfl (hb hby at_287) (by decide) (by decide) ?_
  show St p e below T21 m 308 #[iv p1, iv p2, iv p3, iv (0 : Int32), iv (1 : Int32), iv p4, iv p5, iv p6, iv p7, iv p8, rv a9, rv a10, rv a11, rv a12, rv a13, rv a14, rv a15, rv a18, rv a18] [] _
  refine XS.aload X21.here hx rfl (hb hby at_308) rfl rfl ?_
  show St p e below T21 m 310 #[iv p1, iv p2, iv p3, iv (0 : Int32), iv (1 : Int32), iv p4, iv p5, iv p6, iv p7, iv p8, rv a9, rv a10, rv a11, rv a12, rv a13, rv a14, rv a15, rv a18, rv a18] [(.ref a18)] _
  refine XS.aload X21.here hx rfl (hb hby at_310) rfl rfl ?_
  show St p e below T21 m 312 #[iv p1, iv p2, iv p3, iv (0 : Int32), iv (1 : Int32), iv p4, iv p5, iv p6, iv p7, iv p8, rv a9, rv a10, rv a11, rv a12, rv a13, rv a14, rv a15, rv a18, rv a18] [(.ref a18), (.ref a18)] _
  refine Jvm.RoadKit.acmp (g := (mkF m 312 #[iv p1, iv p2, iv p3, iv (0 : Int32), iv (1 : Int32), iv p4, iv p5, iv p6, iv p7, iv p8, rv a9, rv a10, rv a11, rv a12, rv a13, rv a14, rv a15, rv a18, rv a18] [(.ref a18), (.ref a18)])) X21 hx rfl rfl rfl (pc0 := 312) (pc' := 315) (same := true) rfl (hb hby at_312) rfl (decide_eq_true rfl) (by decide) (by decide) ?_
  show St p e below T21 m 315 #[iv p1, iv p2, iv p3, iv (0 : Int32), iv (1 : Int32), iv p4, iv p5, iv p6, iv p7, iv p8, rv a9, rv a10, rv a11, rv a12, rv a13, rv a14, rv a15, rv a18, rv a18] [] _
  refine XS.iconst X21.here hx rfl (hb hby at_315) ?_
  show St p e below T21 m 316 #[iv p1, iv p2, iv p3, iv (0 : Int32), iv (1 : Int32), iv p4, iv p5, iv p6, iv p7, iv p8, rv a9, rv a10, rv a11, rv a12, rv a13, rv a14, rv a15, rv a18, rv a18] [(.int (1 : Int32))] _
  refine XS.goto X21.here hx rfl (pc0 := 316) (pc' := 320) rfl (hb hby at_316) (by decide) (by decide) ?_
  exact kt
def law_3Q (Z : State) (wRequestState_UNKNOWN : Addr) (wRequestState_IN_PROGRESS : Addr) (wRequestState_REMOVED : Addr) (wRequestState_DONE : Addr) (wRequestState_FAILED : Addr) (wOptional_EMPTY : Addr) (wIntegerCache_cache : Addr) (zCOMPACT_STRINGS : Int32) (clC : Cell) (i0 : Int32) (i1 : Int32) (i2 : Int32) (h0 : Heap) (n0 : Nat) (v : Option Value) (h : Heap) (L : List Loc) : Prop := v = some (.int (1 : Int32)) ∧ Fr n0 L
theorem law_3e (m : MethodId) (wRequestState_UNKNOWN : Addr) (wRequestState_IN_PROGRESS : Addr) (wRequestState_REMOVED : Addr) (wRequestState_DONE : Addr) (wRequestState_FAILED : Addr) (wOptional_EMPTY : Addr) (wIntegerCache_cache : Addr) (zCOMPACT_STRINGS : Int32) (clC : Cell) (i0 : Int32) (i1 : Int32) (i2 : Int32) : entryFrame m #[(.int i0), (.int i1), (.int i2)] maxLocals = mkF m 0 #[iv i0, iv i1, iv i2, .unset, .unset, .unset, .unset, .unset, .unset, .unset, .unset, .unset, .unset, .unset, .unset, .unset, .unset, .unset, .unset] [] := by first | (simp [entryFrame, mkF, argsToLocals, Value.category, maxLocals]; done) | rfl
set_option maxRecDepth 65536 in
set_option maxHeartbeats 40000000 in
theorem law_3 (l : Launch) (Z : State) (a0 : Array Value) (hw : HW a0 Z) (ws : List Jvm.Cond) (wRequestState_UNKNOWN : Addr) (wRequestState_IN_PROGRESS : Addr) (wRequestState_REMOVED : Addr) (wRequestState_DONE : Addr) (wRequestState_FAILED : Addr) (wOptional_EMPTY : Addr) (wIntegerCache_cache : Addr) (zCOMPACT_STRINGS : Int32) (clC : Cell) (B : Base Z wRequestState_UNKNOWN wRequestState_IN_PROGRESS wRequestState_REMOVED wRequestState_DONE wRequestState_FAILED wOptional_EMPTY wIntegerCache_cache zCOMPACT_STRINGS clC) (i0 : Int32) (i1 : Int32) (i2 : Int32) (h0 : Heap) (n0 : Nat) (O0 : Old Z n0 h0) (pin0 : (own_b (i0 &&& (1 : Int32))) = (0 : Int32)) (pin1 : (own_b (i0 &&& (2 : Int32))) = (1 : Int32)) (pin2 : (own_b (i0 &&& (4 : Int32))) = (0 : Int32)) (pin3 : (own_b (i0 &&& (8 : Int32))) = (0 : Int32)) (pin4 : (own_b (i0 &&& (16 : Int32))) = (0 : Int32)) (hc3 : ¬ ((255 : Int32) < ((i1 &&& (255 : Int32)).toUInt32.toUInt16.toUInt32.toInt32))) (hc4 : ¬ ((255 : Int32) < ((i2 &&& (255 : Int32)).toUInt32.toUInt16.toUInt32.toInt32))) :
    MetFree l x (head1 (Jvm.Cond.code x code maxLocals ret :: ws) room_1) (fun a U => a = #[(.int i0), (.int i1), (.int i2)] ∧ Z.Warmed39 U.vm ∧ U.heap = h0) (fun _ _ _ _ _ => True) (fun _ U o U' => ∃ v L, o = .returned v ∧ law_3Q Z wRequestState_UNKNOWN wRequestState_IN_PROGRESS wRequestState_REMOVED wRequestState_DONE wRequestState_FAILED wOptional_EMPTY wIntegerCache_cache zCOMPACT_STRINGS clC i0 i1 i2 h0 n0 v U'.heap L ∧ FrameEnd U o U' L room_1.cells room_1.slots) := by
  refine MetFree.of_bodySF (plainFor_of_name pn_com_example_agave_agave_store_RequestStateOfPinLaw) hisR ?_
  intro p e s m args below meth c s₁ Bd hml0 hP hK
  obtain ⟨rfl, hZ, hh⟩ := hP
  have hx := Bd.exec
  have hby := Bd.bytes
  have hml : c.maxLocals = 19 := hml0
  have hown : s.vm.findClass "com/example/agave/agave/store/RequestStateOfPinLaw" = some m.cls := findClass_of_methodNamed Bd.named
  have hnm := (name_of_methodNamed Bd.named Bd.method).1
  have X0 : Stand p l e room_1 s m #[(.int i0), (.int i1), (.int i2)] below meth c s₁ [] 0 0 := Stand.of_body Bd
  have e0 : s₁.heap = h0 := by rw [← hh, Bd.state]; rfl
  have N0 := Fr.nil n0
  have pre0 : ∀ t, Steps p.tables e below (s₁.setTop (mkF m 0 #[iv i0, iv i1, iv i2, .unset, .unset, .unset, .unset, .unset, .unset, .unset, .unset, .unset, .unset, .unset, .unset, .unset, .unset, .unset, .unset] [])) t → Steps p.tables e below (s₁.setTop (entryFrame m #[(.int i0), (.int i1), (.int i2)] maxLocals)) t := fun t k => castTop (law_3e m wRequestState_UNKNOWN wRequestState_IN_PROGRESS wRequestState_REMOVED wRequestState_DONE wRequestState_FAILED wOptional_EMPTY wIntegerCache_cache zCOMPACT_STRINGS clC i0 i1 i2) k
  obtain ⟨T1, L1, X1, e1, N1, st1⟩ := g0_1 i0 i1 i2 X0 hx hZ hw hby hml hown e0 O0 N0 (by decide) (by decide) (by decide) (by decide)
  obtain ⟨T5, h5, L5, b5_0, b5_1, b5_2, b5_3, k5_0, k5_1, X5, e5, N5, K5, lo5_1, lo5_2, lo5_3, lo5_4, nq5_5, nq5_6, nq5_7, nq5_8, nq5_9, nq5_10, f5_11, f5_12, f5_13, f5_14, f5_15, f5_16, f5_17, f5_18, f5_19, f5_20, st5⟩ := g0_2 i0 i1 i2 (0 : Int32) (1 : Int32) (0 : Int32) (0 : Int32) (0 : Int32) (own_b (i0 &&& (32 : Int32))) (own_b (i0 &&& (64 : Int32))) zCOMPACT_STRINGS X1 hx hZ hw hby hml hown e1 O0 N1 (by decide) (by decide) (by decide) (by decide) B.2.2.2.2.2.2.2.2.2.2.2.2.2.2.2.1 B.2.2.2.2.2.2.2.2.2.2.2.2.2.2.2.2.1 hc3 hc4
  have O_K5 : Old Z n0 h5 := O0.keep K5 all0
  have Kp_K5 : Keep h0 h5 [] := (Keep.refl h0 []).trans K5 all0
  obtain ⟨T6, L6, X6, e6, N6, st6⟩ := g0_3 i0 i1 i2 (0 : Int32) (1 : Int32) (0 : Int32) (0 : Int32) (own_b (i0 &&& (32 : Int32))) (own_b (i0 &&& (64 : Int32))) b5_0 b5_1 wOptional_EMPTY X5 hx hZ hw hby hml hown e5 O_K5 N5 (by decide) (by decide) (by decide) (by decide) B.2.2.2.2.2.2.2.2.2.2.1
  obtain ⟨T7, L7, X7, e7, N7, st7⟩ := g0_4 i0 i1 i2 (0 : Int32) (1 : Int32) (0 : Int32) (0 : Int32) (own_b (i0 &&& (32 : Int32))) (own_b (i0 &&& (64 : Int32))) b5_0 b5_1 wOptional_EMPTY wOptional_EMPTY X6 hx hZ hw hby hml hown e6 O_K5 N6 (by decide) (by decide) (by decide) (by decide) B.2.2.2.2.2.2.2.2.2.2.1
  obtain ⟨T8, h8, L8, b8_0, X8, e8, N8, K8, st8⟩ := m0_1 i0 i1 i2 (0 : Int32) (1 : Int32) (0 : Int32) (0 : Int32) (0 : Int32) (own_b (i0 &&& (32 : Int32))) (own_b (i0 &&& (64 : Int32))) b5_0 b5_1 wOptional_EMPTY wOptional_EMPTY wOptional_EMPTY wIntegerCache_cache clC X7 hx hZ hw hby hml hown e7 O_K5 N7 (by decide) (by decide) (by decide) (by decide) B.2.2.2.2.2.2.2.2.2.2.1 B.2.2.2.2.2.2.2.2.2.2.1 B.2.2.2.2.2.2.2.2.2.2.2.2.1 B.2.2.2.2.2.2.2.2.2.2.2.2.2.1 B.2.2.2.2.2.2.2.2.2.2.2.2.2.2.2.2.2.2.2.2.2.2.2.2.2.2.2.2.2.1 B.2.2.2.2.2.2.2.2.2.2.2.2.2.2.2.2.2.2.2.2.2.2.2.2.2.2.2.2.2.2.1 B.2.2.2.2.2.2.2.2.2.2.2.2.2.2.2.2.2.2.2.2.2.2.2.2.2.2.2.2.2.2.2
  have O_K8 : Old Z n0 h8 := O_K5.keep K8 all0
  have Kp_K8 : Keep h0 h8 [] := Kp_K5.trans K8 all0
  obtain ⟨T9, L9, X9, e9, N9, st9⟩ := g0_7 i0 i1 i2 (1 : Int32) (0 : Int32) (0 : Int32) (0 : Int32) (own_b (i0 &&& (32 : Int32))) (own_b (i0 &&& (64 : Int32))) b5_0 b5_1 wOptional_EMPTY wOptional_EMPTY b8_0 wOptional_EMPTY X8 hx hZ hw hby hml hown e8 O_K8 N8 (by decide) (by decide) (by decide) (by decide) B.2.2.2.2.2.2.2.2.2.2.1
  obtain ⟨T10, L10, X10, e10, N10, st10⟩ := g0_8 i0 i1 i2 (0 : Int32) (1 : Int32) (0 : Int32) (0 : Int32) (own_b (i0 &&& (32 : Int32))) (own_b (i0 &&& (64 : Int32))) b5_0 b5_1 wOptional_EMPTY wOptional_EMPTY b8_0 wOptional_EMPTY wOptional_EMPTY X9 hx hZ hw hby hml hown e9 O_K8 N9 (by decide) (by decide) (by decide) (by decide) B.2.2.2.2.2.2.2.2.2.2.1
  obtain ⟨T11, L11, X11, e11, N11, st11⟩ := g0_12 i0 i1 i2 (0 : Int32) (0 : Int32) (0 : Int32) (own_b (i0 &&& (32 : Int32))) (own_b (i0 &&& (64 : Int32))) b5_0 b5_1 wOptional_EMPTY wOptional_EMPTY b8_0 wOptional_EMPTY wOptional_EMPTY wRequestState_IN_PROGRESS X10 hx hZ hw hby hml hown e10 O_K8 N10 (by decide) (by decide) (by decide) (by decide) B.2.2.2.2.2.2.2.2.2.2.2.1 B.2.2.2.2.2.2.2.2.2.2.2.2.2.2.2.2.2.1 B.2.2.1
  obtain ⟨fs, hr, hrun, hended, hW, hsame⟩ := X11.leave (v := some (.int (1 : Int32))) (fun h => by rw [Bd.returns] at h; cases h)
  refine ⟨_, _, pre0 _ ?_, hrun, hended, _, _, rfl, ?_, ⟨_, rfl⟩, hW, hsame.mono (by decide) (by decide)⟩
  · refine st1 _ ?_
    show St p e below T1 m 94 #[iv i0, iv i1, iv i2, iv (own_b (i0 &&& (1 : Int32))), iv (own_b (i0 &&& (2 : Int32))), iv (own_b (i0 &&& (4 : Int32))), iv (own_b (i0 &&& (8 : Int32))), iv (own_b (i0 &&& (16 : Int32))), iv (own_b (i0 &&& (32 : Int32))), iv (own_b (i0 &&& (64 : Int32))), .unset, .unset, .unset, .unset, .unset, .unset, .unset, .unset, .unset] [] _
    rw [pin0]
    rw [pin1]
    rw [pin2]
    rw [pin3]
    rw [pin4]
    refine st5 _ ?_
    refine st6 _ ?_
    refine st7 _ ?_
    refine st8 _ ?_
    refine st9 _ ?_
    refine st10 _ ?_
    refine st11 _ ?_
    show St p e below T11 m 320 #[iv i0, iv i1, iv i2, iv (0 : Int32), iv (1 : Int32), iv (0 : Int32), iv (0 : Int32), iv (0 : Int32), iv (own_b (i0 &&& (32 : Int32))), iv (own_b (i0 &&& (64 : Int32))), rv b5_0, rv b5_1, rv wOptional_EMPTY, rv wOptional_EMPTY, rv b8_0, rv wOptional_EMPTY, rv wOptional_EMPTY, rv wRequestState_IN_PROGRESS, rv wRequestState_IN_PROGRESS] [(.int (1 : Int32))] _
    exact retN X11 hx (t := .boolean) Bd.returns (by simp) (hb hby at_320) hr
  · show law_3Q Z wRequestState_UNKNOWN wRequestState_IN_PROGRESS wRequestState_REMOVED wRequestState_DONE wRequestState_FAILED wOptional_EMPTY wIntegerCache_cache zCOMPACT_STRINGS clC i0 i1 i2 h0 n0 _ T11.heap _
    rw [e11]
    exact ⟨rfl, N11⟩
def law_4Q (Z : State) (wRequestState_UNKNOWN : Addr) (wRequestState_IN_PROGRESS : Addr) (wRequestState_REMOVED : Addr) (wRequestState_DONE : Addr) (wRequestState_FAILED : Addr) (wOptional_EMPTY : Addr) (wIntegerCache_cache : Addr) (zCOMPACT_STRINGS : Int32) (clC : Cell) (i0 : Int32) (i1 : Int32) (i2 : Int32) (h0 : Heap) (n0 : Nat) (v : Option Value) (h : Heap) (L : List Loc) : Prop := v = some (.int (1 : Int32)) ∧ Fr n0 L
theorem law_4e (m : MethodId) (wRequestState_UNKNOWN : Addr) (wRequestState_IN_PROGRESS : Addr) (wRequestState_REMOVED : Addr) (wRequestState_DONE : Addr) (wRequestState_FAILED : Addr) (wOptional_EMPTY : Addr) (wIntegerCache_cache : Addr) (zCOMPACT_STRINGS : Int32) (clC : Cell) (i0 : Int32) (i1 : Int32) (i2 : Int32) : entryFrame m #[(.int i0), (.int i1), (.int i2)] maxLocals = mkF m 0 #[iv i0, iv i1, iv i2, .unset, .unset, .unset, .unset, .unset, .unset, .unset, .unset, .unset, .unset, .unset, .unset, .unset, .unset, .unset, .unset] [] := by first | (simp [entryFrame, mkF, argsToLocals, Value.category, maxLocals]; done) | rfl
set_option maxRecDepth 65536 in
set_option maxHeartbeats 40000000 in
theorem law_4 (l : Launch) (Z : State) (a0 : Array Value) (hw : HW a0 Z) (ws : List Jvm.Cond) (wRequestState_UNKNOWN : Addr) (wRequestState_IN_PROGRESS : Addr) (wRequestState_REMOVED : Addr) (wRequestState_DONE : Addr) (wRequestState_FAILED : Addr) (wOptional_EMPTY : Addr) (wIntegerCache_cache : Addr) (zCOMPACT_STRINGS : Int32) (clC : Cell) (B : Base Z wRequestState_UNKNOWN wRequestState_IN_PROGRESS wRequestState_REMOVED wRequestState_DONE wRequestState_FAILED wOptional_EMPTY wIntegerCache_cache zCOMPACT_STRINGS clC) (i0 : Int32) (i1 : Int32) (i2 : Int32) (h0 : Heap) (n0 : Nat) (O0 : Old Z n0 h0) (pin0 : (own_b (i0 &&& (1 : Int32))) = (1 : Int32)) (pin1 : (own_b (i0 &&& (2 : Int32))) = (1 : Int32)) (pin2 : (own_b (i0 &&& (4 : Int32))) = (0 : Int32)) (pin3 : (own_b (i0 &&& (8 : Int32))) = (0 : Int32)) (pin4 : (own_b (i0 &&& (16 : Int32))) = (0 : Int32)) (hc3 : ¬ ((255 : Int32) < ((i1 &&& (255 : Int32)).toUInt32.toUInt16.toUInt32.toInt32))) (hc4 : ¬ ((255 : Int32) < ((i2 &&& (255 : Int32)).toUInt32.toUInt16.toUInt32.toInt32))) :
    MetFree l x (head1 (Jvm.Cond.code x code maxLocals ret :: ws) room_1) (fun a U => a = #[(.int i0), (.int i1), (.int i2)] ∧ Z.Warmed39 U.vm ∧ U.heap = h0) (fun _ _ _ _ _ => True) (fun _ U o U' => ∃ v L, o = .returned v ∧ law_4Q Z wRequestState_UNKNOWN wRequestState_IN_PROGRESS wRequestState_REMOVED wRequestState_DONE wRequestState_FAILED wOptional_EMPTY wIntegerCache_cache zCOMPACT_STRINGS clC i0 i1 i2 h0 n0 v U'.heap L ∧ FrameEnd U o U' L room_1.cells room_1.slots) := by
  refine MetFree.of_bodySF (plainFor_of_name pn_com_example_agave_agave_store_RequestStateOfPinLaw) hisR ?_
  intro p e s m args below meth c s₁ Bd hml0 hP hK
  obtain ⟨rfl, hZ, hh⟩ := hP
  have hx := Bd.exec
  have hby := Bd.bytes
  have hml : c.maxLocals = 19 := hml0
  have hown : s.vm.findClass "com/example/agave/agave/store/RequestStateOfPinLaw" = some m.cls := findClass_of_methodNamed Bd.named
  have hnm := (name_of_methodNamed Bd.named Bd.method).1
  have X0 : Stand p l e room_1 s m #[(.int i0), (.int i1), (.int i2)] below meth c s₁ [] 0 0 := Stand.of_body Bd
  have e0 : s₁.heap = h0 := by rw [← hh, Bd.state]; rfl
  have N0 := Fr.nil n0
  have pre0 : ∀ t, Steps p.tables e below (s₁.setTop (mkF m 0 #[iv i0, iv i1, iv i2, .unset, .unset, .unset, .unset, .unset, .unset, .unset, .unset, .unset, .unset, .unset, .unset, .unset, .unset, .unset, .unset] [])) t → Steps p.tables e below (s₁.setTop (entryFrame m #[(.int i0), (.int i1), (.int i2)] maxLocals)) t := fun t k => castTop (law_4e m wRequestState_UNKNOWN wRequestState_IN_PROGRESS wRequestState_REMOVED wRequestState_DONE wRequestState_FAILED wOptional_EMPTY wIntegerCache_cache zCOMPACT_STRINGS clC i0 i1 i2) k
  obtain ⟨T1, L1, X1, e1, N1, st1⟩ := g0_1 i0 i1 i2 X0 hx hZ hw hby hml hown e0 O0 N0 (by decide) (by decide) (by decide) (by decide)
  obtain ⟨T5, h5, L5, b5_0, b5_1, b5_2, b5_3, k5_0, k5_1, X5, e5, N5, K5, lo5_1, lo5_2, lo5_3, lo5_4, nq5_5, nq5_6, nq5_7, nq5_8, nq5_9, nq5_10, f5_11, f5_12, f5_13, f5_14, f5_15, f5_16, f5_17, f5_18, f5_19, f5_20, st5⟩ := g0_2 i0 i1 i2 (1 : Int32) (1 : Int32) (0 : Int32) (0 : Int32) (0 : Int32) (own_b (i0 &&& (32 : Int32))) (own_b (i0 &&& (64 : Int32))) zCOMPACT_STRINGS X1 hx hZ hw hby hml hown e1 O0 N1 (by decide) (by decide) (by decide) (by decide) B.2.2.2.2.2.2.2.2.2.2.2.2.2.2.2.1 B.2.2.2.2.2.2.2.2.2.2.2.2.2.2.2.2.1 hc3 hc4
  have O_K5 : Old Z n0 h5 := O0.keep K5 all0
  have Kp_K5 : Keep h0 h5 [] := (Keep.refl h0 []).trans K5 all0
  obtain ⟨T6, L6, X6, e6, N6, st6⟩ := g0_3 i0 i1 i2 (1 : Int32) (1 : Int32) (0 : Int32) (0 : Int32) (own_b (i0 &&& (32 : Int32))) (own_b (i0 &&& (64 : Int32))) b5_0 b5_1 wOptional_EMPTY X5 hx hZ hw hby hml hown e5 O_K5 N5 (by decide) (by decide) (by decide) (by decide) B.2.2.2.2.2.2.2.2.2.2.1
  obtain ⟨T7, L7, X7, e7, N7, st7⟩ := g0_4 i0 i1 i2 (1 : Int32) (1 : Int32) (0 : Int32) (0 : Int32) (own_b (i0 &&& (32 : Int32))) (own_b (i0 &&& (64 : Int32))) b5_0 b5_1 wOptional_EMPTY wOptional_EMPTY X6 hx hZ hw hby hml hown e6 O_K5 N6 (by decide) (by decide) (by decide) (by decide) B.2.2.2.2.2.2.2.2.2.2.1
  obtain ⟨T8, h8, L8, b8_0, X8, e8, N8, K8, st8⟩ := m0_1 i0 i1 i2 (1 : Int32) (1 : Int32) (0 : Int32) (0 : Int32) (0 : Int32) (own_b (i0 &&& (32 : Int32))) (own_b (i0 &&& (64 : Int32))) b5_0 b5_1 wOptional_EMPTY wOptional_EMPTY wOptional_EMPTY wIntegerCache_cache clC X7 hx hZ hw hby hml hown e7 O_K5 N7 (by decide) (by decide) (by decide) (by decide) B.2.2.2.2.2.2.2.2.2.2.1 B.2.2.2.2.2.2.2.2.2.2.1 B.2.2.2.2.2.2.2.2.2.2.2.2.1 B.2.2.2.2.2.2.2.2.2.2.2.2.2.1 B.2.2.2.2.2.2.2.2.2.2.2.2.2.2.2.2.2.2.2.2.2.2.2.2.2.2.2.2.2.1 B.2.2.2.2.2.2.2.2.2.2.2.2.2.2.2.2.2.2.2.2.2.2.2.2.2.2.2.2.2.2.1 B.2.2.2.2.2.2.2.2.2.2.2.2.2.2.2.2.2.2.2.2.2.2.2.2.2.2.2.2.2.2.2
  have O_K8 : Old Z n0 h8 := O_K5.keep K8 all0
  have Kp_K8 : Keep h0 h8 [] := Kp_K5.trans K8 all0
  obtain ⟨T9, h9, L9, b9_0, b9_1, X9, e9, N9, K9, lo9_1, lo9_2, nq9_3, f9_4, f9_5, f9_6, f9_7, f9_8, f9_9, f9_10, f9_11, st9⟩ := g0_10 i0 i1 i2 (1 : Int32) (0 : Int32) (0 : Int32) (0 : Int32) (own_b (i0 &&& (32 : Int32))) (own_b (i0 &&& (64 : Int32))) b5_0 b5_1 wOptional_EMPTY wOptional_EMPTY b8_0 wOptional_EMPTY X8 hx hZ hw hby hml hown e8 O_K8 N8 (by decide) (by decide) (by decide) (by decide) B.2.2.2.2.2.2.2.2.2.2.1
  have O_K9 : Old Z n0 h9 := O_K8.keep K9 all0
  have Kp_K9 : Keep h0 h9 [] := Kp_K8.trans K9 all0
  obtain ⟨T10, L10, X10, e10, N10, st10⟩ := g0_8 i0 i1 i2 (1 : Int32) (1 : Int32) (0 : Int32) (0 : Int32) (own_b (i0 &&& (32 : Int32))) (own_b (i0 &&& (64 : Int32))) b5_0 b5_1 wOptional_EMPTY wOptional_EMPTY b8_0 b9_0 wOptional_EMPTY X9 hx hZ hw hby hml hown e9 O_K9 N9 (by decide) (by decide) (by decide) (by decide) B.2.2.2.2.2.2.2.2.2.2.1
  obtain ⟨T11, L11, X11, e11, N11, st11⟩ := g0_11 i0 i1 i2 (1 : Int32) (0 : Int32) (own_b (i0 &&& (32 : Int32))) (own_b (i0 &&& (64 : Int32))) b5_0 b5_1 wOptional_EMPTY wOptional_EMPTY b8_0 b9_0 wOptional_EMPTY b9_1 wOptional_EMPTY wRequestState_IN_PROGRESS X10 hx hZ hw hby hml hown e10 O_K9 N10 (by decide) (by decide) (by decide) (by decide) f9_4 f9_5 f9_6 f9_10 B.2.2.2.2.2.2.2.2.2.2.2.1 B.2.2.2.2.2.2.2.2.2.2.2.2.2.2.2.2.2.1 f9_9 B.2.2.1
  obtain ⟨fs, hr, hrun, hended, hW, hsame⟩ := X11.leave (v := some (.int (1 : Int32))) (fun h => by rw [Bd.returns] at h; cases h)
  refine ⟨_, _, pre0 _ ?_, hrun, hended, _, _, rfl, ?_, ⟨_, rfl⟩, hW, hsame.mono (by decide) (by decide)⟩
  · refine st1 _ ?_
    show St p e below T1 m 94 #[iv i0, iv i1, iv i2, iv (own_b (i0 &&& (1 : Int32))), iv (own_b (i0 &&& (2 : Int32))), iv (own_b (i0 &&& (4 : Int32))), iv (own_b (i0 &&& (8 : Int32))), iv (own_b (i0 &&& (16 : Int32))), iv (own_b (i0 &&& (32 : Int32))), iv (own_b (i0 &&& (64 : Int32))), .unset, .unset, .unset, .unset, .unset, .unset, .unset, .unset, .unset] [] _
    rw [pin0]
    rw [pin1]
    rw [pin2]
    rw [pin3]
    rw [pin4]
    refine st5 _ ?_
    refine st6 _ ?_
    refine st7 _ ?_
    refine st8 _ ?_
    refine st9 _ ?_
    refine st10 _ ?_
    refine st11 _ ?_
    show St p e below T11 m 320 #[iv i0, iv i1, iv i2, iv (1 : Int32), iv (1 : Int32), iv (0 : Int32), iv (0 : Int32), iv (0 : Int32), iv (own_b (i0 &&& (32 : Int32))), iv (own_b (i0 &&& (64 : Int32))), rv b5_0, rv b5_1, rv wOptional_EMPTY, rv wOptional_EMPTY, rv b8_0, rv b9_0, rv wOptional_EMPTY, rv wRequestState_IN_PROGRESS, rv wRequestState_IN_PROGRESS] [(.int (1 : Int32))] _
    exact retN X11 hx (t := .boolean) Bd.returns (by simp) (hb hby at_320) hr
  · show law_4Q Z wRequestState_UNKNOWN wRequestState_IN_PROGRESS wRequestState_REMOVED wRequestState_DONE wRequestState_FAILED wOptional_EMPTY wIntegerCache_cache zCOMPACT_STRINGS clC i0 i1 i2 h0 n0 _ T11.heap _
    rw [e11]
    exact ⟨rfl, N11⟩
theorem d20_0 : decode prog_20_method_1_code 0 = .ok (.aload_n 0, 1) := by decide +kernel
theorem d20_1 : decode prog_20_method_1_code 1 = .ok (.invokespecial 1, 3) := by decide +kernel
theorem d20_4 : decode prog_20_method_1_code 4 = .ok (.aload_n 0, 1) := by decide +kernel
theorem d20_5 : decode prog_20_method_1_code 5 = .ok (.aload_n 1, 1) := by decide +kernel
theorem d20_6 : decode prog_20_method_1_code 6 = .ok (.putfield 7, 3) := by decide +kernel
theorem d20_9 : decode prog_20_method_1_code 9 = .ok (.aload_n 0, 1) := by decide +kernel
theorem d20_10 : decode prog_20_method_1_code 10 = .ok (.iload_n 2, 1) := by decide +kernel
theorem d20_11 : decode prog_20_method_1_code 11 = .ok (.putfield 13, 3) := by decide +kernel
theorem d20_14 : decode prog_20_method_1_code 14 = .ok (.aload_n 0, 1) := by decide +kernel
theorem d20_15 : decode prog_20_method_1_code 15 = .ok (.aload_n 3, 1) := by decide +kernel
theorem d20_16 : decode prog_20_method_1_code 16 = .ok (.putfield 17, 3) := by decide +kernel
theorem d20_19 : decode prog_20_method_1_code 19 = .ok (.aload_n 0, 1) := by decide +kernel
theorem d20_20 : decode prog_20_method_1_code 20 = .ok (.aload 4, 2) := by decide +kernel
theorem d20_22 : decode prog_20_method_1_code 22 = .ok (.putfield 21, 3) := by decide +kernel
theorem d20_25 : decode prog_20_method_1_code 25 = .ok (.return_, 1) := by decide +kernel
abbrev y20 : MethodName := ⟨"com/example/agave/agave/store/RequestStore$Removal", "<init>", "(Ljava/lang/String;ZLjava/time/Instant;Ljava/time/Instant;)V"⟩
theorem pn_com_example_agave_agave_store_RequestStore_Removal : plainName "com/example/agave/agave/store/RequestStore$Removal" = true := by first | (simp [plainName, overriddenIn]; done) | decide +kernel
def r20_1Q (Z : State) (a1 : Addr) (a2 : Addr) (p3 : Int32) (h0 : Heap) (n0 : Nat) (v : Option Value) (h : Heap) (L : List Loc) : Prop := v = none ∧ Fr n0 L ∧ Keep h0 h [a1] ∧ Fld Z h a1 "com/example/agave/agave/store/RequestStore$Removal" "route" "Ljava/lang/String;" (.ref a2) ∧ Exa Z h a1 "com/example/agave/agave/store/RequestStore$Removal" ∧ Fld Z h a1 "com/example/agave/agave/store/RequestStore$Removal" "failed" "Z" (.int (nar .boolean p3)) ∧ Fld Z h a1 "com/example/agave/agave/store/RequestStore$Removal" "finishedAt" "Ljava/time/Instant;" .null ∧ Fld Z h a1 "com/example/agave/agave/store/RequestStore$Removal" "removedAt" "Ljava/time/Instant;" .null
theorem r20_1e (m : MethodId) (a1 : Addr) (a2 : Addr) (p3 : Int32) : entryFrame m #[(.ref a1), (.ref a2), (.int p3), .null, .null] 5 = mkF m 0 #[rv a1, rv a2, iv p3, .val .null, .val .null] [] := by first | (simp [entryFrame, mkF, argsToLocals, Value.category]; done) | rfl
set_option maxRecDepth 65536 in
set_option maxHeartbeats 40000000 in
theorem r20_1 (l : Launch) (Z : State) (a0 : Array Value) (hw : HW a0 Z) (ws : List Jvm.Cond) (a1 : Addr) (a2 : Addr) (p3 : Int32) (h0 : Heap) (n0 : Nat) (O0 : Old Z n0 h0) (H5 : Fld Z h0 a1 "com/example/agave/agave/store/RequestStore$Removal" "route" "Ljava/lang/String;" .null) (H6 : Exa Z h0 a1 "com/example/agave/agave/store/RequestStore$Removal") (H8 : n0 ≤ a1) (H11 : Fld Z h0 a1 "com/example/agave/agave/store/RequestStore$Removal" "failed" "Z" (.int (0 : Int32))) (H17 : Fld Z h0 a1 "com/example/agave/agave/store/RequestStore$Removal" "finishedAt" "Ljava/time/Instant;" .null) (H23 : Fld Z h0 a1 "com/example/agave/agave/store/RequestStore$Removal" "removedAt" "Ljava/time/Instant;" .null) :
    MF l y20 prog_20_method_1_code 5 none ws ({ frames := 2, cells := 0, slots := 0, locals := 24 } : Room) Z #[(.ref a1), (.ref a2), (.int p3), .null, .null] h0 (r20_1Q Z a1 a2 p3 h0 n0) := by
  refine MetFree.of_bodySF (plainFor_of_name pn_com_example_agave_agave_store_RequestStore_Removal) hisR ?_
  intro p e s m args below meth c s₁ Bd hml0 hP hK
  obtain ⟨rfl, hZ, hh⟩ := hP
  have hx := Bd.exec
  have hby := Bd.bytes
  have hml : c.maxLocals = 5 := hml0
  have hown : s.vm.findClass "com/example/agave/agave/store/RequestStore$Removal" = some m.cls := findClass_of_methodNamed Bd.named
  have hnm := (name_of_methodNamed Bd.named Bd.method).1
  have X0 : Stand p l e ({ frames := 2, cells := 0, slots := 0, locals := 24 } : Room) s m #[(.ref a1), (.ref a2), (.int p3), .null, .null] below meth c s₁ [] 0 0 := Stand.of_body Bd
  have e0 : s₁.heap = h0 := by rw [← hh, Bd.state]; rfl
  have N0 := Fr.nil n0
  have pre0 : ∀ t, Steps p.tables e below (s₁.setTop (mkF m 0 #[rv a1, rv a2, iv p3, .val .null, .val .null] [])) t → Steps p.tables e below (s₁.setTop (entryFrame m #[(.ref a1), (.ref a2), (.int p3), .null, .null] 5)) t := fun t k => castTop (r20_1e m a1 a2 p3) k
  obtain ⟨_, _, ⟨T4, L4, k4, n4⟩, -, X4, ⟨Lc4, hQ4, l4, y4, z4⟩, st4⟩ := X0.specialBack hx (y := y16) rfl hown (mvT hZ (ow hw 112 rfl)) (mvT hZ (ow hw 57 rfl)) (mvT hZ (ow hw 60 rfl)) (by decide) (backOf (W := 0) (r16_1 l Z a0 hw [] a1 h0 n0 O0) hZ (ow hw 60 rfl) (ow hw 59 rfl) (by decide) (by decide)) (g := (mkF m 1 #[rv a1, rv a2, iv p3, .val .null, .val .null] [(.ref a1)])) rfl (by rw [hml]; rfl) (Steps.refl _) (a := a1) (argsL := []) (rest := []) (lenOf pd___V rfl) rfl (by show 2 * 0 + _ ≤ _; exact Nat.le_of_eq rfl) (hb hby d20_1) (fun _ _ => ⟨rfl, e0, (by decide : 0 + 0 ≤ _), (by decide : 0 + 0 ≤ _)⟩)
  dsimp only [Pt.U, Pt.locs, Pt.cells, Pt.slots] at X4 l4 y4 z4 st4 hQ4
  subst l4 y4 z4
  obtain ⟨rfl, N4q, e4⟩ := hQ4
  have N4 := Fr.app N0 N4q
  obtain ⟨T7, h7, X7, e7, W7, st7⟩ := putF X4 hx hZ hown (host := "") (Or.inl (ow hw 113 rfl)) Via.refl e4 H5 H6 (Or.inr ⟨(ow hw 114 rfl), rfl, hnm⟩) (ow hw 107 rfl) (ty := (.object "java/lang/String")) (by decide) rfl rfl (g := (mkF m 6 #[rv a1, rv a2, iv p3, .val .null, .val .null] [(.ref a2), (.ref a1)])) rfl rfl (hb hby d20_6)
  have O_W7 : Old Z n0 h7 := O0.wr W7 H8
  have Kp_W7 : Keep h0 h7 [a1] := (Keep.refl h0 [a1]).wr W7 (Or.inl (List.mem_of_getElem? (i := 0) rfl))
  have N9 := Fr.snoc X7 N4 H8
  have f10 := H5.same W7
  have f12 := (H6.wr W7)
  have f13 := (H11.other W7 (Or.inr (slot_ne (Or.inr (ow hw 116 rfl)) (Or.inr (ow hw 114 rfl)) (by decide) (t := .boolean) (t' := (.object "java/lang/String")) (by decide) (by decide))))
  obtain ⟨T14, h14, X14, e14, W14, st14⟩ := putFN X7 hx hZ hown (ow hw 115 rfl) Via.refl e7 f13 f12 (Or.inr ⟨(ow hw 116 rfl), rfl, hnm⟩) (ow hw 107 rfl) (ty := .boolean) (v' := (.int (nar .boolean p3))) (by decide) rfl (fits_nar_bool _) (g := (mkF m 11 #[rv a1, rv a2, iv p3, .val .null, .val .null] [(.int p3), (.ref a1)])) rfl rfl (hb hby d20_11)
  have O_W14 : Old Z n0 h14 := O_W7.wr W14 H8
  have Kp_W14 : Keep h0 h14 [a1] := Kp_W7.wr W14 (Or.inl (List.mem_of_getElem? (i := 0) rfl))
  have N15 := Fr.snoc X14 N9 H8
  have f16 := f13.same W14
  have f18 := (f12.wr W14)
  have f19 := ((H17.other W7 (Or.inr (slot_ne (Or.inr (ow hw 118 rfl)) (Or.inr (ow hw 114 rfl)) (by decide) (t := (.object "java/time/Instant")) (t' := (.object "java/lang/String")) (by decide) (by decide)))).other W14 (Or.inr (slot_ne (Or.inr (ow hw 118 rfl)) (Or.inr (ow hw 116 rfl)) (by decide) (t := (.object "java/time/Instant")) (t' := .boolean) (by decide) (by decide))))
  obtain ⟨T20, h20, X20, e20, W20, st20⟩ := putF X14 hx hZ hown (host := "") (Or.inl (ow hw 117 rfl)) Via.refl e14 f19 f18 (Or.inr ⟨(ow hw 118 rfl), rfl, hnm⟩) (ow hw 107 rfl) (ty := (.object "java/time/Instant")) (by decide) rfl rfl (g := (mkF m 16 #[rv a1, rv a2, iv p3, .val .null, .val .null] [.null, (.ref a1)])) rfl rfl (hb hby d20_16)
  have O_W20 : Old Z n0 h20 := O_W14.wr W20 H8
  have Kp_W20 : Keep h0 h20 [a1] := Kp_W14.wr W20 (Or.inl (List.mem_of_getElem? (i := 0) rfl))
  have N21 := Fr.snoc X20 N15 H8
  have f22 := f19.same W20
  have f24 := (f18.wr W20)
  have f25 := (((H23.other W7 (Or.inr (slot_ne (Or.inr (ow hw 120 rfl)) (Or.inr (ow hw 114 rfl)) (by decide) (t := (.object "java/time/Instant")) (t' := (.object "java/lang/String")) (by decide) (by decide)))).other W14 (Or.inr (slot_ne (Or.inr (ow hw 120 rfl)) (Or.inr (ow hw 116 rfl)) (by decide) (t := (.object "java/time/Instant")) (t' := .boolean) (by decide) (by decide)))).other W20 (Or.inr (slot_ne (Or.inr (ow hw 120 rfl)) (Or.inr (ow hw 118 rfl)) (by decide) (t := (.object "java/time/Instant")) (t' := (.object "java/time/Instant")) (by decide) (by decide))))
  obtain ⟨T26, h26, X26, e26, W26, st26⟩ := putF X20 hx hZ hown (host := "") (Or.inl (ow hw 119 rfl)) Via.refl e20 f25 f24 (Or.inr ⟨(ow hw 120 rfl), rfl, hnm⟩) (ow hw 107 rfl) (ty := (.object "java/time/Instant")) (by decide) rfl rfl (g := (mkF m 22 #[rv a1, rv a2, iv p3, .val .null, .val .null] [.null, (.ref a1)])) rfl rfl (hb hby d20_22)
  have O_W26 : Old Z n0 h26 := O_W20.wr W26 H8
  have Kp_W26 : Keep h0 h26 [a1] := Kp_W20.wr W26 (Or.inl (List.mem_of_getElem? (i := 0) rfl))
  have N27 := Fr.snoc X26 N21 H8
  have f28 := f25.same W26
  have f29 := (f24.wr W26)
  have f30 := (((f10.other W14 (Or.inr (slot_ne (Or.inr (ow hw 114 rfl)) (Or.inr (ow hw 116 rfl)) (by decide) (t := (.object "java/lang/String")) (t' := .boolean) (by decide) (by decide)))).other W20 (Or.inr (slot_ne (Or.inr (ow hw 114 rfl)) (Or.inr (ow hw 118 rfl)) (by decide) (t := (.object "java/lang/String")) (t' := (.object "java/time/Instant")) (by decide) (by decide)))).other W26 (Or.inr (slot_ne (Or.inr (ow hw 114 rfl)) (Or.inr (ow hw 120 rfl)) (by decide) (t := (.object "java/lang/String")) (t' := (.object "java/time/Instant")) (by decide) (by decide))))
  have f31 := ((f16.other W20 (Or.inr (slot_ne (Or.inr (ow hw 116 rfl)) (Or.inr (ow hw 118 rfl)) (by decide) (t := .boolean) (t' := (.object "java/time/Instant")) (by decide) (by decide)))).other W26 (Or.inr (slot_ne (Or.inr (ow hw 116 rfl)) (Or.inr (ow hw 120 rfl)) (by decide) (t := .boolean) (t' := (.object "java/time/Instant")) (by decide) (by decide))))
  have f32 := (f22.other W26 (Or.inr (slot_ne (Or.inr (ow hw 118 rfl)) (Or.inr (ow hw 120 rfl)) (by decide) (t := (.object "java/time/Instant")) (t' := (.object "java/time/Instant")) (by decide) (by decide))))
  obtain ⟨fs, hr, hrun, hended, hW, hsame⟩ := X26.leave (v := none) (fun _ => rfl)
  refine ⟨_, _, pre0 _ ?_, hrun, hended, _, _, rfl, ?_, ⟨_, rfl⟩, hW, hsame.mono (by decide) (by decide)⟩
  · show St p e below s₁ m 0 #[rv a1, rv a2, iv p3, .val .null, .val .null] [] _
    refine XS.aloadN X0.here hx rfl (hb hby d20_0) rfl rfl ?_
    show St p e below s₁ m 1 #[rv a1, rv a2, iv p3, .val .null, .val .null] [(.ref a1)] _
    refine st4.trans ?_
    show St p e below T4 m 4 #[rv a1, rv a2, iv p3, .val .null, .val .null] [] _
    refine XS.aloadN X4.here hx rfl (hb hby d20_4) rfl rfl ?_
    show St p e below T4 m 5 #[rv a1, rv a2, iv p3, .val .null, .val .null] [(.ref a1)] _
    refine XS.aloadN X4.here hx rfl (hb hby d20_5) rfl rfl ?_
    show St p e below T4 m 6 #[rv a1, rv a2, iv p3, .val .null, .val .null] [(.ref a2), (.ref a1)] _
    refine st7 _ ?_
    show St p e below T7 m 9 #[rv a1, rv a2, iv p3, .val .null, .val .null] [] _
    refine XS.aloadN X7.here hx rfl (hb hby d20_9) rfl rfl ?_
    show St p e below T7 m 10 #[rv a1, rv a2, iv p3, .val .null, .val .null] [(.ref a1)] _
    refine XS.iloadN X7.here hx rfl (hb hby d20_10) rfl ?_
    show St p e below T7 m 11 #[rv a1, rv a2, iv p3, .val .null, .val .null] [(.int p3), (.ref a1)] _
    refine st14 _ ?_
    show St p e below T14 m 14 #[rv a1, rv a2, iv p3, .val .null, .val .null] [] _
    refine XS.aloadN X14.here hx rfl (hb hby d20_14) rfl rfl ?_
    show St p e below T14 m 15 #[rv a1, rv a2, iv p3, .val .null, .val .null] [(.ref a1)] _
    refine XS.aloadN X14.here hx rfl (hb hby d20_15) rfl rfl ?_
    show St p e below T14 m 16 #[rv a1, rv a2, iv p3, .val .null, .val .null] [.null, (.ref a1)] _
    refine st20 _ ?_
    show St p e below T20 m 19 #[rv a1, rv a2, iv p3, .val .null, .val .null] [] _
    refine XS.aloadN X20.here hx rfl (hb hby d20_19) rfl rfl ?_
    show St p e below T20 m 20 #[rv a1, rv a2, iv p3, .val .null, .val .null] [(.ref a1)] _
    refine XS.aload X20.here hx rfl (hb hby d20_20) rfl rfl ?_
    show St p e below T20 m 22 #[rv a1, rv a2, iv p3, .val .null, .val .null] [.null, (.ref a1)] _
    refine st26 _ ?_
    show St p e below T26 m 25 #[rv a1, rv a2, iv p3, .val .null, .val .null] [] _
    exact X26.returnOut hx Bd.returns (hb hby d20_25) hr
  · show r20_1Q Z a1 a2 p3 h0 n0 _ T26.heap _
    rw [e26]
    exact ⟨rfl, N27, Kp_W26, f30, f29, f31, f32, f28⟩
theorem pd__Ljava_lang_String_ZLjava_time_Instant_Ljava_time_Instant__V : parseMethodDescriptor "(Ljava/lang/String;ZLjava/time/Instant;Ljava/time/Instant;)V" = some ⟨[(.object "java/lang/String"), .boolean, (.object "java/time/Instant"), (.object "java/time/Instant")], none⟩ := by decide +kernel
set_option maxRecDepth 65536 in
set_option maxHeartbeats 40000000 in
theorem g0_13 {p : Program} {l : Launch} {e : Env} {R : Room} {s : State} {m : MethodId} {args : Array Value} {below : List Frame} {meth : Method} {c : Code} {T0 : State} {locs : List Loc} {cells slots : Nat} {Z : State} {a0 : Array Value} {h0 : Heap} {n0 : Nat} (p1 : Int32) (p2 : Int32) (p3 : Int32) (p4 : Int32) (p5 : Int32) (p6 : Int32) (p7 : Int32) (p8 : Int32) (p9 : Int32) (a10 : Addr) (a11 : Addr) (a12 : Addr) (a13 : Addr) (a14 : Addr) (a15 : Addr) (a16 : Addr)
    (X0 : Stand p l e R s m args below meth c T0 locs cells slots) (hx : p.tables.exec = Jvm.exec) (hZ : Z.Warmed39 s.vm) (hw : HW a0 Z) (hby : c.code = code) (hml : c.maxLocals = 19) (hown : s.vm.findClass "com/example/agave/agave/store/RequestStateOfPinLaw" = some m.cls) (e0 : T0.heap = h0) (O0 : Old Z n0 h0) (N0 : Fr n0 locs) (rc : cells + 2 ≤ R.cells) (rs : slots + 5 ≤ R.slots) (rf : 3 ≤ R.frames) (rl : 41 ≤ R.locals) (H17 : Sta Z Z.heap "java/util/Optional" "EMPTY" "Ljava/util/Optional;" (.ref a16)) :
    ∃ (T' : State) (h' : Heap) (L' : List Loc) (b27_0 : Addr) (b19 : Addr), Stand p l e R s m args below meth c T' L' (cells + 2) (slots + 5) ∧ T'.heap = h' ∧ Fr n0 L' ∧ Keep h0 h' [] ∧ h0.size ≤ b27_0 ∧ h0.size ≤ b19 ∧ b27_0 ≠ b19 ∧ Exa Z h' b27_0 "java/util/Optional" ∧ Fld Z h' b27_0 "java/util/Optional" "value" "Ljava/lang/Object;" (.ref b19) ∧ Exa Z h' b19 "com/example/agave/agave/store/RequestStore$Removal" ∧ Fld Z h' b19 "com/example/agave/agave/store/RequestStore$Removal" "route" "Ljava/lang/String;" (.ref a11) ∧ Fld Z h' b19 "com/example/agave/agave/store/RequestStore$Removal" "failed" "Z" (.int (nar .boolean p8)) ∧ Fld Z h' b19 "com/example/agave/agave/store/RequestStore$Removal" "finishedAt" "Ljava/time/Instant;" .null ∧ Fld Z h' b19 "com/example/agave/agave/store/RequestStore$Removal" "removedAt" "Ljava/time/Instant;" .null ∧
      ∀ target, St p e below T' m 228 #[iv p1, iv p2, iv p3, iv p4, iv p5, iv (1 : Int32), iv p6, iv p7, iv p8, iv p9, rv a10, rv a11, rv a12, rv a13, rv a14, rv a15, rv b27_0, .unset, .unset] [] target → St p e below T0 m 200 #[iv p1, iv p2, iv p3, iv p4, iv p5, iv (1 : Int32), iv p6, iv p7, iv p8, iv p9, rv a10, rv a11, rv a12, rv a13, rv a14, rv a15, .unset, .unset, .unset] [] target := by
  obtain ⟨_, _, ⟨T18, L18, k18, n18⟩, -, X18, ⟨Lc18, hQ18, l18, y18, z18⟩, st18⟩ := Jvm.LawKit.callS X0 hx (y := y5) hown (mvT hZ (ow hw 26 rfl)) (mvT hZ (ow hw 27 rfl)) (mvT hZ (ow hw 28 rfl)) (mvT hZ (ow hw 29 rfl)) (by decide) (backOf (W := 0) (r5_1 l Z a0 hw [] a16 h0 n0 O0 H17) hZ (ow hw 29 rfl) (ow hw 28 rfl) (by show 0 + 1 ≤ R.frames; omega) (by show 0 + (1 + 11) + 0 ≤ R.locals; omega)) (g := (mkF m 200 #[iv p1, iv p2, iv p3, iv p4, iv p5, iv (1 : Int32), iv p6, iv p7, iv p8, iv p9, rv a10, rv a11, rv a12, rv a13, rv a14, rv a15, .unset, .unset, .unset] [])) rfl (by rw [hml]; rfl) (argsL := []) (rest := []) (lenOf pd___Ljava_util_Optional_ rfl) rfl (by show 2 * 0 + _ ≤ _; exact Nat.le_of_eq rfl) (hb hby at_200) (fun _ _ => ⟨rfl, e0, (by show cells + 0 + 0 ≤ R.cells; omega), (by show slots + 0 + 0 ≤ R.slots; omega)⟩)
  dsimp only [Pt.U, Pt.locs, Pt.cells, Pt.slots] at X18 l18 y18 z18 st18 hQ18
  subst l18
  rw [y18, z18] at X18
  obtain ⟨rfl, N18q, e18⟩ := hQ18
  have N18 := Fr.app N0 N18q
  replace X18 : Stand p l e R _ m args below meth c T18 _ (cells + 0) (slots + 0) := X18
  obtain ⟨T19, h19, X19, e19, E19, A19, D19, -, st19⟩ := newO X18 hx hZ hown (ow hw 106 rfl) (ow hw 107 rfl) (ow hw 108 rfl) e18 (g := (mkF m 210 #[iv p1, iv p2, iv p3, iv p4, iv p5, iv (1 : Int32), iv p6, iv p7, iv p8, iv p9, rv a10, rv a11, rv a12, rv a13, rv a14, rv a15, rv a16, .unset, .unset] [])) rfl (hb hby at_210) (by omega) (by omega)
  obtain ⟨b19, g19⟩ : ∃ z, z = h0.size := ⟨_, rfl⟩
  rw [← g19] at A19 D19 st19
  have O_E19 : Old Z n0 h19 := O0.ext E19
  have Kp_E19 : Keep h0 h19 [] := (Keep.refl h0 []).ext E19
  have f20 : Fld Z h19 b19 "com/example/agave/agave/store/RequestStore$Removal" "route" "Ljava/lang/String;" .null := D19 (Or.inr (ow hw 114 rfl)) (ty := (.object "java/lang/String")) (by decide)
  have g21 : n0 ≤ b19 := Nat.le_trans (Nat.le_trans (Nat.le_of_eq O0.1.symm) O0.2.1) (Nat.le_of_eq g19.symm)
  have f22 : Fld Z h19 b19 "com/example/agave/agave/store/RequestStore$Removal" "failed" "Z" (.int (0 : Int32)) := D19 (Or.inr (ow hw 116 rfl)) (ty := .boolean) (by decide)
  have f23 : Fld Z h19 b19 "com/example/agave/agave/store/RequestStore$Removal" "finishedAt" "Ljava/time/Instant;" .null := D19 (Or.inr (ow hw 118 rfl)) (ty := (.object "java/time/Instant")) (by decide)
  have f24 : Fld Z h19 b19 "com/example/agave/agave/store/RequestStore$Removal" "removedAt" "Ljava/time/Instant;" .null := D19 (Or.inr (ow hw 120 rfl)) (ty := (.object "java/time/Instant")) (by decide)
  obtain ⟨_, _, ⟨T25, L25, k25, n25⟩, -, X25, ⟨Lc25, hQ25, l25, y25, z25⟩, st25⟩ := X19.specialBack hx (y := y20) rfl hown (mvT hZ (ow hw 109 rfl)) (mvT hZ (ow hw 110 rfl)) (mvT hZ (ow hw 111 rfl)) (by decide) (backOf (W := 1) (r20_1 l Z a0 hw [] b19 a11 p8 h19 n0 O_E19 f20 A19 g21 f22 f23 f24) hZ (ow hw 111 rfl) (ow hw 108 rfl) (by show 2 + 1 ≤ R.frames; omega) (by show 1 + (5 + 11) + 24 ≤ R.locals; omega)) (g := (mkF m 220 #[iv p1, iv p2, iv p3, iv p4, iv p5, iv (1 : Int32), iv p6, iv p7, iv p8, iv p9, rv a10, rv a11, rv a12, rv a13, rv a14, rv a15, rv a16, .unset, .unset] [.null, .null, (.int p8), (.ref a11), (.ref b19), (.ref b19)])) rfl (by rw [hml]; rfl) (Steps.refl _) (a := b19) (argsL := [(.ref a11), (.int p8), .null, .null]) (rest := [(.ref b19)]) (lenOf pd__Ljava_lang_String_ZLjava_time_Instant_Ljava_time_Instant__V rfl) rfl (by show 2 * 0 + _ ≤ _; exact Nat.le_of_eq rfl) (hb hby at_220) (fun _ _ => ⟨rfl, e19, (by show cells + 1 + 0 ≤ R.cells; omega), (by show slots + 4 + 0 ≤ R.slots; omega)⟩)
  dsimp only [Pt.U, Pt.locs, Pt.cells, Pt.slots] at X25 l25 y25 z25 st25 hQ25
  subst l25
  rw [y25, z25] at X25
  obtain ⟨rfl, N25q, K25, f25_1, f25_2, f25_3, f25_4, f25_5⟩ := hQ25
  have N25 := Fr.app N18 N25q
  have z26 : h0.size ≤ b19 := Nat.le_trans (Keep.refl h0 []).1 (Nat.le_of_eq g19.symm)
  have O_K25 : Old Z n0 T25.heap := O_E19.keep K25 (allS g21 all0)
  have Kp_K25 : Keep h0 T25.heap [] := Kp_E19.trans K25 (allS (Or.inr z26) all0)
  replace X25 : Stand p l e R _ m args below meth c T25 _ (cells + 1) (slots + 4) := X25
  obtain ⟨_, _, ⟨T27, L27, k27, n27⟩, -, X27, ⟨Lc27, hQ27, l27, y27, z27⟩, st27⟩ := Jvm.LawKit.callS X25 hx (y := y9) hown (mvT hZ (ow hw 72 rfl)) (mvT hZ (ow hw 73 rfl)) (mvT hZ (ow hw 28 rfl)) (mvT hZ (ow hw 74 rfl)) (by decide) (backOf (W := 0) (r9_1 l Z a0 hw [] b19 T25.heap n0 O_K25) hZ (ow hw 74 rfl) (ow hw 28 rfl) (by show 2 + 1 ≤ R.frames; omega) (by show 0 + (1 + 11) + 26 ≤ R.locals; omega)) (g := (mkF m 223 #[iv p1, iv p2, iv p3, iv p4, iv p5, iv (1 : Int32), iv p6, iv p7, iv p8, iv p9, rv a10, rv a11, rv a12, rv a13, rv a14, rv a15, rv a16, .unset, .unset] [(.ref b19)])) rfl (by rw [hml]; rfl) (argsL := [(.ref b19)]) (rest := []) (lenOf pd__Ljava_lang_Object__Ljava_util_Optional_ rfl) rfl (by show 2 * 0 + _ ≤ _; exact Nat.le_of_eq rfl) (hb hby at_223) (fun _ _ => ⟨rfl, rfl, (by show cells + 1 + 1 ≤ R.cells; omega), (by show slots + 4 + 1 ≤ R.slots; omega)⟩)
  dsimp only [Pt.U, Pt.locs, Pt.cells, Pt.slots] at X27 l27 y27 z27 st27 hQ27
  subst l27
  rw [y27, z27] at X27
  obtain ⟨b27_0, rfl, N27q, K27, lo27_1, f27_2, f27_3⟩ := hQ27
  have N27 := Fr.app N25 N27q
  have O_K27 : Old Z n0 T27.heap := O_K25.keep K27 all0
  have Kp_K27 : Keep h0 T27.heap [] := Kp_K25.trans K27 all0
  replace X27 : Stand p l e R _ m args below meth c T27 _ (cells + 2) (slots + 5) := X27
  have z28 : h0.size ≤ b27_0 := Nat.le_trans Kp_K25.1 lo27_1
  have ne29 : b19 ≠ b27_0 := Nat.ne_of_lt (Nat.lt_of_lt_of_le f25_2.lt lo27_1)
  have f30 := (f25_2.keep K27)
  have f31 := (f25_1.keep K27 nin0)
  have f32 := (f25_3.keep K27 nin0)
  have f33 := (f25_4.keep K27 nin0)
  have f34 := (f25_5.keep K27 nin0)
  refine ⟨T27, _, _, b27_0, b19, X27.more (by omega) (by omega), rfl, N27, Kp_K27, z28, z26, (Ne.symm ne29), f27_2, f27_3, f30, f31, f32, f33, f34, fun target kt => ?_⟩
  show St p e below T0 m 200 #[iv p1, iv p2, iv p3, iv p4, iv p5, iv (1 : Int32), iv p6, iv p7, iv p8, iv p9, rv a10, rv a11, rv a12, rv a13, rv a14, rv a15, .unset, .unset, .unset] [] _
  refine st18 _ ?_
  show St p e below T18 m 203 #[iv p1, iv p2, iv p3, iv p4, iv p5, iv (1 : Int32), iv p6, iv p7, iv p8, iv p9, rv a10, rv a11, rv a12, rv a13, rv a14, rv a15, .unset, .unset, .unset] [(.ref a16)] _
  refine XS.astore X18.here hx rfl (hb hby at_203) rfl rfl (l' := #[iv p1, iv p2, iv p3, iv p4, iv p5, iv (1 : Int32), iv p6, iv p7, iv p8, iv p9, rv a10, rv a11, rv a12, rv a13, rv a14, rv a15, rv a16, .unset, .unset]) rfl ?_
  show St p e below T18 m 205 #[iv p1, iv p2, iv p3, iv p4, iv p5, iv (1 : Int32), iv p6, iv p7, iv p8, iv p9, rv a10, rv a11, rv a12, rv a13, rv a14, rv a15, rv a16, .unset, .unset] [] _
  refine XS.iload X18.here hx rfl (hb hby at_205) rfl ?_
  show St p e below T18 m 207 #[iv p1, iv p2, iv p3, iv p4, iv p5, iv (1 : Int32), iv p6, iv p7, iv p8, iv p9, rv a10, rv a11, rv a12, rv a13, rv a14, rv a15, rv a16, .unset, .unset] [(.int (1 : Int32))] _
  refine XS.ifNo X18.here hx rfl (hb hby at_207) rfl ((if0 _ _).trans (feq (by decide : ¬ ((1 : Int32) = (0 : Int32)))).1) ?_
  show St p e below T18 m 210 #[iv p1, iv p2, iv p3, iv p4, iv p5, iv (1 : Int32), iv p6, iv p7, iv p8, iv p9, rv a10, rv a11, rv a12, rv a13, rv a14, rv a15, rv a16, .unset, .unset] [] _
  refine st19 _ ?_
  show St p e below T19 m 213 #[iv p1, iv p2, iv p3, iv p4, iv p5, iv (1 : Int32), iv p6, iv p7, iv p8, iv p9, rv a10, rv a11, rv a12, rv a13, rv a14, rv a15, rv a16, .unset, .unset] [(.ref b19)] _
  refine XS.dup X19.here hx rfl (hb hby at_213) rfl rfl ?_
  show St p e below T19 m 214 #[iv p1, iv p2, iv p3, iv p4, iv p5, iv (1 : Int32), iv p6, iv p7, iv p8, iv p9, rv a10, rv a11, rv a12, rv a13, rv a14, rv a15, rv a16, .unset, .unset] [(.ref b19), (.ref b19)] _
  refine XS.aload X19.here hx rfl (hb hby at_214) rfl rfl ?_
  show St p e below T19 m 216 #[iv p1, iv p2, iv p3, iv p4, iv p5, iv (1 : Int32), iv p6, iv p7, iv p8, iv p9, rv a10, rv a11, rv a12, rv a13, rv a14, rv a15, rv a16, .unset, .unset] [(.ref a11), (.ref b19), (.ref b19)] _
  refine XS.iload X19.here hx rfl (hb hby at_216) rfl ?_
  show St p e below T19 m 218 #[iv p1, iv p2, iv p3, iv p4, iv p5, iv (1 : Int32), iv p6, iv p7, iv p8, iv p9, rv a10, rv a11, rv a12, rv a13, rv a14, rv a15, rv a16, .unset, .unset] [(.int p8), (.ref a11), (.ref b19), (.ref b19)] _
  refine XS.aconstNull X19.here hx rfl (hb hby at_218) ?_
  show St p e below T19 m 219 #[iv p1, iv p2, iv p3, iv p4, iv p5, iv (1 : Int32), iv p6, iv p7, iv p8, iv p9, rv a10, rv a11, rv a12, rv a13, rv a14, rv a15, rv a16, .unset, .unset] [.null, (.int p8), (.ref a11), (.ref b19), (.ref b19)] _
  refine XS.aconstNull X19.here hx rfl (hb hby at_219) ?_
  show St p e below T19 m 220 #[iv p1, iv p2, iv p3, iv p4, iv p5, iv (1 : Int32), iv p6, iv p7, iv p8, iv p9, rv a10, rv a11, rv a12, rv a13, rv a14, rv a15, rv a16, .unset, .unset] [.null, .null, (.int p8), (.ref a11), (.ref b19), (.ref b19)] _
  refine st25.trans ?_
  show St p e below T25 m 223 #[iv p1, iv p2, iv p3, iv p4, iv p5, iv (1 : Int32), iv p6, iv p7, iv p8, iv p9, rv a10, rv a11, rv a12, rv a13, rv a14, rv a15, rv a16, .unset, .unset] [(.ref b19)] _
  refine st27 _ ?_
  show St p e below T27 m 226 #[iv p1, iv p2, iv p3, iv p4, iv p5, iv (1 : Int32), iv p6, iv p7, iv p8, iv p9, rv a10, rv a11, rv a12, rv a13, rv a14, rv a15, rv a16, .unset, .unset] [(.ref b27_0)] _
  refine XS.astore X27.here hx rfl (hb hby at_226) rfl rfl (l' := #[iv p1, iv p2, iv p3, iv p4, iv p5, iv (1 : Int32), iv p6, iv p7, iv p8, iv p9, rv a10, rv a11, rv a12, rv a13, rv a14, rv a15, rv b27_0, .unset, .unset]) rfl ?_
  exact kt
theorem d14_7 : decode jdk_32_method_6_code 7 = .ok (.iconst 1, 1) := by decide +kernel
theorem d14_8 : decode jdk_32_method_6_code 8 = .ok (.goto 4, 3) := by decide +kernel
def r14_2Q (Z : State) (a1 : Addr) (a2 : Addr) (h0 : Heap) (n0 : Nat) (v : Option Value) (h : Heap) (L : List Loc) : Prop := v = some (.int (1 : Int32)) ∧ Fr n0 L ∧ h = h0
theorem r14_2e (m : MethodId) (a1 : Addr) (a2 : Addr) : entryFrame m #[(.ref a1)] 1 = mkF m 0 #[rv a1] [] := by first | (simp [entryFrame, mkF, argsToLocals, Value.category]; done) | rfl
set_option maxRecDepth 65536 in
set_option maxHeartbeats 40000000 in
theorem r14_2 (l : Launch) (Z : State) (a0 : Array Value) (hw : HW a0 Z) (ws : List Jvm.Cond) (a1 : Addr) (a2 : Addr) (h0 : Heap) (n0 : Nat) (O0 : Old Z n0 h0) (H3 : Fld Z h0 a1 "java/util/Optional" "value" "Ljava/lang/Object;" (.ref a2)) :
    MF l y14 jdk_32_method_6_code 1 (some .boolean) ws ({ frames := 0, cells := 0, slots := 0, locals := 0 } : Room) Z #[(.ref a1)] h0 (r14_2Q Z a1 a2 h0 n0) := by
  refine MetFree.of_bodySF (plainFor_of_name pn_java_util_Optional) hisR ?_
  intro p e s m args below meth c s₁ Bd hml0 hP hK
  obtain ⟨rfl, hZ, hh⟩ := hP
  have hx := Bd.exec
  have hby := Bd.bytes
  have hml : c.maxLocals = 1 := hml0
  have hown : s.vm.findClass "java/util/Optional" = some m.cls := findClass_of_methodNamed Bd.named
  have hnm := (name_of_methodNamed Bd.named Bd.method).1
  have X0 : Stand p l e ({ frames := 0, cells := 0, slots := 0, locals := 0 } : Room) s m #[(.ref a1)] below meth c s₁ [] 0 0 := Stand.of_body Bd
  have e0 : s₁.heap = h0 := by rw [← hh, Bd.state]; rfl
  have N0 := Fr.nil n0
  have pre0 : ∀ t, Steps p.tables e below (s₁.setTop (mkF m 0 #[rv a1] [])) t → Steps p.tables e below (s₁.setTop (entryFrame m #[(.ref a1)] 1)) t := fun t k => castTop (r14_2e m a1 a2) k
  obtain ⟨T4, X4, e4, st4⟩ := getF X0 hx hZ hown (host := "") (Or.inl (ow hw 40 rfl)) Via.refl e0 H3 (g := (mkF m 1 #[rv a1] [(.ref a1)])) rfl rfl (hb hby d14_1)
  obtain ⟨fs, hr, hrun, hended, hW, hsame⟩ := X4.leave (v := some (.int (1 : Int32))) (fun h => by rw [Bd.returns] at h; cases h)
  refine ⟨_, _, pre0 _ ?_, hrun, hended, _, _, rfl, ?_, ⟨_, rfl⟩, hW, hsame.mono (by decide) (by decide)⟩
  · show St p e below s₁ m 0 #[rv a1] [] _
    refine XS.aloadN X0.here hx rfl (hb hby d14_0) rfl rfl ?_
    show St p e below s₁ m 1 #[rv a1] [(.ref a1)] _
    refine st4 _ ?_
    show St p e below T4 m 4 #[rv a1] [(.ref a2)] _
    refine XS.ifnullNo X4.here hx rfl (hb hby d14_4) rfl ?_
    show St p e below T4 m 7 #[rv a1] [] _
    refine XS.iconst X4.here hx rfl (hb hby d14_7) ?_
    show St p e below T4 m 8 #[rv a1] [(.int (1 : Int32))] _
    refine XS.goto X4.here hx rfl (pc0 := 8) (pc' := 12) rfl (hb hby d14_8) (by decide) (by decide) ?_
    show St p e below T4 m 12 #[rv a1] [(.int (1 : Int32))] _
    exact retN X4 hx (t := .boolean) Bd.returns (by simp) (hb hby d14_12) hr
  · show r14_2Q Z a1 a2 h0 n0 _ T4.heap _
    rw [e4]
    exact ⟨rfl, N0, rfl⟩
theorem d12_32 : decode prog_13_method_4_code 32 = .ok (.getstatic 13, 3) := by decide +kernel
theorem d12_35 : decode prog_13_method_4_code 35 = .ok (.astore_n 3, 1) := by decide +kernel
theorem d12_36 : decode prog_13_method_4_code 36 = .ok (.goto 67, 3) := by decide +kernel
def r12_4Q (Z : State) (a1 : Addr) (a2 : Addr) (a8 : Addr) (a11 : Addr) (h0 : Heap) (n0 : Nat) (v : Option Value) (h : Heap) (L : List Loc) : Prop := v = some (.ref a11) ∧ Fr n0 L ∧ h = h0
theorem r12_4e (m : MethodId) (a1 : Addr) (a2 : Addr) (a8 : Addr) (a11 : Addr) : entryFrame m #[(.ref a1), (.int (0 : Int32)), (.ref a2)] 4 = mkF m 0 #[rv a1, iv (0 : Int32), rv a2, .unset] [] := by first | (simp [entryFrame, mkF, argsToLocals, Value.category]; done) | rfl
set_option maxRecDepth 65536 in
set_option maxHeartbeats 40000000 in
theorem r12_4 (l : Launch) (Z : State) (a0 : Array Value) (hw : HW a0 Z) (ws : List Jvm.Cond) (a1 : Addr) (a2 : Addr) (a8 : Addr) (a11 : Addr) (h0 : Heap) (n0 : Nat) (O0 : Old Z n0 h0) (H3 : Exa Z Z.heap a1 "java/util/Optional") (H4 : Fld Z Z.heap a1 "java/util/Optional" "value" "Ljava/lang/Object;" .null) (H7 : Exa Z h0 a2 "java/util/Optional") (H9 : Fld Z h0 a2 "java/util/Optional" "value" "Ljava/lang/Object;" (.ref a8)) (H12 : Sta Z Z.heap "com/example/agave/agave/store/RequestState" "REMOVED" "Lcom/example/agave/agave/store/RequestState;" (.ref a11)) :
    MF l y12 prog_13_method_4_code 4 (some (.object "com/example/agave/agave/store/RequestState")) ws ({ frames := 1, cells := 0, slots := 0, locals := 12 } : Room) Z #[(.ref a1), (.int (0 : Int32)), (.ref a2)] h0 (r12_4Q Z a1 a2 a8 a11 h0 n0) := by
  refine MetFree.of_bodySF (plainFor_of_name pn_com_example_agave_agave_store_RequestState) hisR ?_
  intro p e s m args below meth c s₁ Bd hml0 hP hK
  obtain ⟨rfl, hZ, hh⟩ := hP
  have hx := Bd.exec
  have hby := Bd.bytes
  have hml : c.maxLocals = 4 := hml0
  have hown : s.vm.findClass "com/example/agave/agave/store/RequestState" = some m.cls := findClass_of_methodNamed Bd.named
  have hnm := (name_of_methodNamed Bd.named Bd.method).1
  have X0 : Stand p l e ({ frames := 1, cells := 0, slots := 0, locals := 12 } : Room) s m #[(.ref a1), (.int (0 : Int32)), (.ref a2)] below meth c s₁ [] 0 0 := Stand.of_body Bd
  have e0 : s₁.heap = h0 := by rw [← hh, Bd.state]; rfl
  have N0 := Fr.nil n0
  have pre0 : ∀ t, Steps p.tables e below (s₁.setTop (mkF m 0 #[rv a1, iv (0 : Int32), rv a2, .unset] [])) t → Steps p.tables e below (s₁.setTop (entryFrame m #[(.ref a1), (.int (0 : Int32)), (.ref a2)] 4)) t := fun t k => castTop (r12_4e m a1 a2 a8 a11) k
  obtain ⟨cq5, kq5, q5a, q5b, q5c⟩ := isOf hZ e0 (H3.ext O0.2)
  obtain ⟨_, _, ⟨T5, L5, k5, n5⟩, -, X5, ⟨Lc5, hQ5, l5, y5, z5⟩, st5⟩ := X0.virtualBack hx (y := y13) (z := y13) hown (mvT hZ (ow hw 35 rfl)) (mvT hZ (ow hw 36 rfl)) (notFace_of_selects (args := #[]) (mvT hZ (ow hw 38 rfl))) (mvT hZ (ow hw 38 rfl)) (mvT hZ (ow hw 37 rfl)) (by decide) (backOf (W := 0) (r13_1 l Z a0 hw [] a1 h0 n0 O0 H4) hZ (ow hw 39 rfl) (ow hw 28 rfl) (by decide) (by decide)) q5a q5c (g := (mkF m 1 #[rv a1, iv (0 : Int32), rv a2, .unset] [(.ref a1)])) rfl (by rw [hml]; rfl) (Steps.refl _) (argsL := []) (rest := []) (lenOf pd___Z rfl) rfl (by show 2 * 0 + _ ≤ _; exact Nat.le_of_eq rfl) (hb hby d12_1) (fun _ _ => ⟨rfl, e0, (by decide : 0 + 0 ≤ _), (by decide : 0 + 0 ≤ _)⟩)
  dsimp only [Pt.U, Pt.locs, Pt.cells, Pt.slots] at X5 l5 y5 z5 st5 hQ5
  subst l5 y5 z5
  obtain ⟨rfl, N5q, e5⟩ := hQ5
  have N5 := Fr.app N0 N5q
  obtain ⟨cq6, kq6, q6a, q6b, q6c⟩ := isOf hZ e5 (H3.ext O0.2)
  obtain ⟨_, _, ⟨T6, L6, k6, n6⟩, -, X6, ⟨Lc6, hQ6, l6, y6, z6⟩, st6⟩ := X5.virtualBack hx (y := y13) (z := y13) hown (mvT hZ (ow hw 35 rfl)) (mvT hZ (ow hw 36 rfl)) (notFace_of_selects (args := #[]) (mvT hZ (ow hw 38 rfl))) (mvT hZ (ow hw 38 rfl)) (mvT hZ (ow hw 37 rfl)) (by decide) (backOf (W := 0) (r13_1 l Z a0 hw [] a1 h0 n0 O0 H4) hZ (ow hw 39 rfl) (ow hw 28 rfl) (by decide) (by decide)) q6a q6c (g := (mkF m 19 #[rv a1, iv (0 : Int32), rv a2, .unset] [(.ref a1)])) rfl (by rw [hml]; rfl) (Steps.refl _) (argsL := []) (rest := []) (lenOf pd___Z rfl) rfl (by show 2 * 0 + _ ≤ _; exact Nat.le_of_eq rfl) (hb hby d12_19) (fun _ _ => ⟨rfl, e5, (by decide : 0 + 0 ≤ _), (by decide : 0 + 0 ≤ _)⟩)
  dsimp only [Pt.U, Pt.locs, Pt.cells, Pt.slots] at X6 l6 y6 z6 st6 hQ6
  subst l6 y6 z6
  obtain ⟨rfl, N6q, e6⟩ := hQ6
  have N6 := Fr.app N5 N6q
  obtain ⟨cq10, kq10, q10a, q10b, q10c⟩ := isOf hZ e6 H7
  obtain ⟨_, _, ⟨T10, L10, k10, n10⟩, -, X10, ⟨Lc10, hQ10, l10, y10, z10⟩, st10⟩ := X6.virtualBack hx (y := y14) (z := y14) hown (mvT hZ (ow hw 42 rfl)) (mvT hZ (ow hw 43 rfl)) (notFace_of_selects (args := #[]) (mvT hZ (ow hw 45 rfl))) (mvT hZ (ow hw 45 rfl)) (mvT hZ (ow hw 44 rfl)) (by decide) (backOf (W := 0) (r14_2 l Z a0 hw [] a2 a8 h0 n0 O0 H9) hZ (ow hw 46 rfl) (ow hw 28 rfl) (by decide) (by decide)) q10a q10c (g := (mkF m 26 #[rv a1, iv (0 : Int32), rv a2, .unset] [(.ref a2)])) rfl (by rw [hml]; rfl) (Steps.refl _) (argsL := []) (rest := []) (lenOf pd___Z rfl) rfl (by show 2 * 0 + _ ≤ _; exact Nat.le_of_eq rfl) (hb hby d12_26) (fun _ _ => ⟨rfl, e6, (by decide : 0 + 0 ≤ _), (by decide : 0 + 0 ≤ _)⟩)
  dsimp only [Pt.U, Pt.locs, Pt.cells, Pt.slots] at X10 l10 y10 z10 st10 hQ10
  subst l10 y10 z10
  obtain ⟨rfl, N10q, e10⟩ := hQ10
  have N10 := Fr.app N6 N10q
  obtain ⟨T13, X13, e13, st13⟩ := getS2 X10 hx hZ hown (host := "") (Or.inl (ow hw 121 rfl)) Via.refl e10 (H12.ext O0.2) (g := (mkF m 32 #[rv a1, iv (0 : Int32), rv a2, .unset] [])) rfl (hb hby d12_32)
  obtain ⟨fs, hr, hrun, hended, hW, hsame⟩ := X13.leave (v := some (.ref a11)) (fun h => by rw [Bd.returns] at h; cases h)
  refine ⟨_, _, pre0 _ ?_, hrun, hended, _, _, rfl, ?_, ⟨_, rfl⟩, hW, hsame.mono (by decide) (by decide)⟩
  · show St p e below s₁ m 0 #[rv a1, iv (0 : Int32), rv a2, .unset] [] _
    refine XS.aloadN X0.here hx rfl (hb hby d12_0) rfl rfl ?_
    show St p e below s₁ m 1 #[rv a1, iv (0 : Int32), rv a2, .unset] [(.ref a1)] _
    refine st5.trans ?_
    show St p e below T5 m 4 #[rv a1, iv (0 : Int32), rv a2, .unset] [(.int (1 : Int32))] _
    refine XS.ifNo X5.here hx rfl (hb hby d12_4) rfl ((if0 _ _).trans (feq (by decide : ¬ ((1 : Int32) = (0 : Int32)))).1) ?_
    show St p e below T5 m 7 #[rv a1, iv (0 : Int32), rv a2, .unset] [] _
    refine XS.iloadN X5.here hx rfl (hb hby d12_7) rfl ?_
    show St p e below T5 m 8 #[rv a1, iv (0 : Int32), rv a2, .unset] [(.int (0 : Int32))] _
    refine XS.ifYes X5.here hx rfl (pc0 := 8) (pc' := 18) rfl (hb hby d12_8) rfl ((if0 _ _).trans (teq (rfl : (0 : Int32) = (0 : Int32))).1) (by decide) (by decide) ?_
    show St p e below T5 m 18 #[rv a1, iv (0 : Int32), rv a2, .unset] [] _
    refine XS.aloadN X5.here hx rfl (hb hby d12_18) rfl rfl ?_
    show St p e below T5 m 19 #[rv a1, iv (0 : Int32), rv a2, .unset] [(.ref a1)] _
    refine st6.trans ?_
    show St p e below T6 m 22 #[rv a1, iv (0 : Int32), rv a2, .unset] [(.int (1 : Int32))] _
    refine XS.ifNo X6.here hx rfl (hb hby d12_22) rfl ((if0 _ _).trans (feq (by decide : ¬ ((1 : Int32) = (0 : Int32)))).1) ?_
    show St p e below T6 m 25 #[rv a1, iv (0 : Int32), rv a2, .unset] [] _
    refine XS.aloadN X6.here hx rfl (hb hby d12_25) rfl rfl ?_
    show St p e below T6 m 26 #[rv a1, iv (0 : Int32), rv a2, .unset] [(.ref a2)] _
    refine st10.trans ?_
    show St p e below T10 m 29 #[rv a1, iv (0 : Int32), rv a2, .unset] [(.int (1 : Int32))] _
    refine XS.ifNo X10.here hx rfl (hb hby d12_29) rfl ((if0 _ _).trans (feq (by decide : ¬ ((1 : Int32) = (0 : Int32)))).1) ?_
    show St p e below T10 m 32 #[rv a1, iv (0 : Int32), rv a2, .unset] [] _
    refine st13 _ ?_
    show St p e below T13 m 35 #[rv a1, iv (0 : Int32), rv a2, .unset] [(.ref a11)] _
    refine XS.astoreN X13.here hx rfl (hb hby d12_35) rfl rfl (l' := #[rv a1, iv (0 : Int32), rv a2, rv a11]) rfl ?_
    show St p e below T13 m 36 #[rv a1, iv (0 : Int32), rv a2, rv a11] [] _
    refine XS.goto X13.here hx rfl (pc0 := 36) (pc' := 103) rfl (hb hby d12_36) (by decide) (by decide) ?_
    show St p e below T13 m 103 #[rv a1, iv (0 : Int32), rv a2, rv a11] [] _
    refine XS.aloadN X13.here hx rfl (hb hby d12_103) rfl rfl ?_
    show St p e below T13 m 104 #[rv a1, iv (0 : Int32), rv a2, rv a11] [(.ref a11)] _
    jvm_step X13.here [X13.here.top, hx, (hb hby d12_104), X13.method', Bd.returns, Value.isRef, FieldType.isReference]
    first | (intro acts; rw [hr _ acts rfl rfl rfl]) | rw [hr _ _ rfl rfl rfl]
    exact Steps.refl _
  · show r12_4Q Z a1 a2 a8 a11 h0 n0 _ T13.heap _
    rw [e13]
    exact ⟨rfl, N10, rfl⟩
set_option maxRecDepth 65536 in
set_option maxHeartbeats 40000000 in
theorem g0_14 {p : Program} {l : Launch} {e : Env} {R : Room} {s : State} {m : MethodId} {args : Array Value} {below : List Frame} {meth : Method} {c : Code} {T0 : State} {locs : List Loc} {cells slots : Nat} {Z : State} {a0 : Array Value} {h0 : Heap} {n0 : Nat} (p1 : Int32) (p2 : Int32) (p3 : Int32) (p4 : Int32) (p5 : Int32) (p6 : Int32) (p7 : Int32) (a8 : Addr) (a9 : Addr) (a10 : Addr) (a11 : Addr) (a12 : Addr) (a13 : Addr) (a14 : Addr) (a18 : Addr) (a20 : Addr)
    (X0 : Stand p l e R s m args below meth c T0 locs cells slots) (hx : p.tables.exec = Jvm.exec) (hZ : Z.Warmed39 s.vm) (hw : HW a0 Z) (hby : c.code = code) (hml : c.maxLocals = 19) (hown : s.vm.findClass "com/example/agave/agave/store/RequestStateOfPinLaw" = some m.cls) (e0 : T0.heap = h0) (O0 : Old Z n0 h0) (N0 : Fr n0 locs) (rc : cells + 0 ≤ R.cells) (rs : slots + 0 ≤ R.slots) (rf : 2 ≤ R.frames) (rl : 27 ≤ R.locals) (H15 : Exa Z Z.heap a13 "java/util/Optional") (H16 : Fld Z Z.heap a13 "java/util/Optional" "value" "Ljava/lang/Object;" .null) (H17 : Exa Z h0 a14 "java/util/Optional") (H19 : Fld Z h0 a14 "java/util/Optional" "value" "Ljava/lang/Object;" (.ref a18)) (H21 : Sta Z Z.heap "com/example/agave/agave/store/RequestState" "REMOVED" "Lcom/example/agave/agave/store/RequestState;" (.ref a20)) :
    ∃ (T' : State) (L' : List Loc), Stand p l e R s m args below meth c T' L' (cells + 0) (slots + 0) ∧ T'.heap = h0 ∧ Fr n0 L' ∧
      ∀ target, St p e below T' m 320 #[iv p1, iv p2, iv p3, iv (0 : Int32), iv (0 : Int32), iv (1 : Int32), iv p4, iv p5, iv p6, iv p7, rv a8, rv a9, rv a10, rv a11, rv a12, rv a13, rv a14, rv a20, rv a20] [(.int (1 : Int32))] target → St p e below T0 m 228 #[iv p1, iv p2, iv p3, iv (0 : Int32), iv (0 : Int32), iv (1 : Int32), iv p4, iv p5, iv p6, iv p7, rv a8, rv a9, rv a10, rv a11, rv a12, rv a13, rv a14, .unset, .unset] [] target := by
  obtain ⟨_, _, ⟨T22, L22, k22, n22⟩, -, X22, ⟨Lc22, hQ22, l22, y22, z22⟩, st22⟩ := Jvm.LawKit.callS X0 hx (y := y12) hown (mvT hZ (ow hw 31 rfl)) (mvT hZ (ow hw 32 rfl)) (mvT hZ (ow hw 33 rfl)) (mvT hZ (ow hw 34 rfl)) (by decide) (backOf (W := 0) (r12_4 l Z a0 hw [] a13 a14 a18 a20 h0 n0 O0 H15 H16 H17 H19 H21) hZ (ow hw 34 rfl) (ow hw 33 rfl) (by show 1 + 1 ≤ R.frames; omega) (by show 0 + (4 + 11) + 12 ≤ R.locals; omega)) (g := (mkF m 234 #[iv p1, iv p2, iv p3, iv (0 : Int32), iv (0 : Int32), iv (1 : Int32), iv p4, iv p5, iv p6, iv p7, rv a8, rv a9, rv a10, rv a11, rv a12, rv a13, rv a14, .unset, .unset] [(.ref a14), (.int (0 : Int32)), (.ref a13)])) rfl (by rw [hml]; rfl) (argsL := [(.ref a13), (.int (0 : Int32)), (.ref a14)]) (rest := []) (lenOf pd__Ljava_util_Optional_ZLjava_util_Optional__Lcom_example_agave_agave_store_RequestState_ rfl) rfl (by show 2 * 0 + _ ≤ _; exact Nat.le_of_eq rfl) (hb hby at_234) (fun _ _ => ⟨rfl, e0, (by show cells + 0 + 0 ≤ R.cells; omega), (by show slots + 0 + 0 ≤ R.slots; omega)⟩)
  dsimp only [Pt.U, Pt.locs, Pt.cells, Pt.slots] at X22 l22 y22 z22 st22 hQ22
  subst l22
  rw [y22, z22] at X22
  obtain ⟨rfl, N22q, e22⟩ := hQ22
  have N22 := Fr.app N0 N22q
  replace X22 : Stand p l e R _ m args below meth c T22 _ (cells + 0) (slots + 0) := X22
  obtain ⟨T23, X23, e23, st23⟩ := getS2 X22 hx hZ hown (host := "") (Or.inl (ow hw 123 rfl)) Via.refl e22 (H21.ext O0.2) (g := (mkF m 295 #[iv p1, iv p2, iv p3, iv (0 : Int32), iv (0 : Int32), iv (1 : Int32), iv p4, iv p5, iv p6, iv p7, rv a8, rv a9, rv a10, rv a11, rv a12, rv a13, rv a14, rv a20, .unset] [])) rfl (hb hby at_295)
  refine ⟨T23, _, X23.more (by omega) (by omega), e23, N22, fun target kt => ?_⟩
  show St p e below T0 m 228 #[iv p1, iv p2, iv p3, iv (0 : Int32), iv (0 : Int32), iv (1 : Int32), iv p4, iv p5, iv p6, iv p7, rv a8, rv a9, rv a10, rv a11, rv a12, rv a13, rv a14, .unset, .unset] [] _
  refine XS.aload X0.here hx rfl (hb hby at_228) rfl rfl ?_
  show St p e below T0 m 230 #[iv p1, iv p2, iv p3, iv (0 : Int32), iv (0 : Int32), iv (1 : Int32), iv p4, iv p5, iv p6, iv p7, rv a8, rv a9, rv a10, rv a11, rv a12, rv a13, rv a14, .unset, .unset] [(.ref a13)] _
  refine XS.iload X0.here hx rfl (hb hby at_230) rfl ?_
  show St p e below T0 m 232 #[iv p1, iv p2, iv p3, iv (0 : Int32), iv (0 : Int32), iv (1 : Int32), iv p4, iv p5, iv p6, iv p7, rv a8, rv a9, rv a10, rv a11, rv a12, rv a13, rv a14, .unset, .unset] [(.int (0 : Int32)), (.ref a13)] _
  refine XS.aload X0.here hx rfl (hb hby at_232) rfl rfl ?_
  show St p e below T0 m 234 #[iv p1, iv p2, iv p3, iv (0 : Int32), iv (0 : Int32), iv (1 : Int32), iv p4, iv p5, iv p6, iv p7, rv a8, rv a9, rv a10, rv a11, rv a12, rv a13, rv a14, .unset, .unset] [(.ref a14), (.int (0 : Int32)), (.ref a13)] _
  refine st22 _ ?_
  show St p e below T22 m 237 #[iv p1, iv p2, iv p3, iv (0 : Int32), iv (0 : Int32), iv (1 : Int32), iv p4, iv p5, iv p6, iv p7, rv a8, rv a9, rv a10, rv a11, rv a12, rv a13, rv a14, .unset, .unset] [(.ref a20)] _
  refine XS.astore X22.here hx rfl (hb hby at_237) rfl rfl (l' := #[iv p1, iv p2, iv p3, iv (0 : Int32), iv (0 : Int32), iv (1 : Int32), iv p4, iv p5, iv p6, iv p7, rv a8, rv a9, rv a10, rv a11, rv a12, rv a13, rv a14, rv a20, .unset]) rfl ?_
  show St p e below T22 m 239 #[iv p1, iv p2, iv p3, iv (0 : Int32), iv (0 : Int32), iv (1 : Int32), iv p4, iv p5, iv p6, iv p7, rv a8, rv a9, rv a10, rv a11, rv a12, rv a13, rv a14, rv a20, .unset] [] _
  refine XS.iloadN X22.here hx rfl (hb hby at_239) rfl ?_
  show St p e below T22 m 240 #[iv p1, iv p2, iv p3, iv (0 : Int32), iv (0 : Int32), iv (1 : Int32), iv p4, iv p5, iv p6, iv p7, rv a8, rv a9, rv a10, rv a11, rv a12, rv a13, rv a14, rv a20, .unset] [(.int (0 : Int32))] _
  refine XS.ifYes X22.here hx rfl (pc0 := 240) (pc' := 277) rfl (hb hby at_240) rfl ((if0 _ _).trans (teq (rfl : (0 : Int32) = (0 : Int32))).1) (by decide) (by decide) ?_
  show St p e below T22 m 277 #[iv p1, iv p2, iv p3, iv (0 : Int32), iv (0 : Int32), iv (1 : Int32), iv p4, iv p5, iv p6, iv p7, rv a8, rv a9, rv a10, rv a11, rv a12, rv a13, rv a14, rv a20, .unset] [] _
  refine XS.iload X22.here hx rfl (hb hby at_277) rfl ?_
  show St p e below T22 m 279 #[iv p1, iv p2, iv p3, iv (0 : Int32), iv (0 : Int32), iv (1 : Int32), iv p4, iv p5, iv p6, iv p7, rv a8, rv a9, rv a10, rv a11, rv a12, rv a13, rv a14, rv a20, .unset] [(.int (0 : Int32))] _
  refine XS.ifYes X22.here hx rfl (pc0 := 279) (pc' := 290) rfl (hb hby at_279) rfl ((if0 _ _).trans (teq (rfl : (0 : Int32) = (0 : Int32))).1) (by decide) (by decide) ?_
  show St p e below T22 m 290 #[iv p1, iv p2, iv p3, iv (0 : Int32), iv (0 : Int32), iv (1 : Int32), iv p4, iv p5, iv p6, iv p7, rv a8, rv a9, rv a10, rv a11, rv a12, rv a13, rv a14, rv a20, .unset] [] _
  refine XS.iload X22.here hx rfl (hb hby at_290) rfl ?_
  show St p e below T22 m 292 #[iv p1, iv p2, iv p3, iv (0 : Int32), iv (0 : Int32), iv (1 : Int32), iv p4, iv p5, iv p6, iv p7, rv a8, rv a9, rv a10, rv a11, rv a12, rv a13, rv a14, rv a20, .unset] [(.int (1 : Int32))] _
  refine XS.ifNo X22.here hx rfl (hb hby at_292) rfl ((if0 _ _).trans (feq (by decide : ¬ ((1 : Int32) = (0 : Int32)))).1) ?_
  show St p e below T22 m 295 #[iv p1, iv p2, iv p3, iv (0 : Int32), iv (0 : Int32), iv (1 : Int32), iv p4, iv p5, iv p6, iv p7, rv a8, rv a9, rv a10, rv a11, rv a12, rv a13, rv a14, rv a20, .unset] [] _
  refine st23 _ ?_
  show St p e below T23 m 298 #[iv p1, iv p2, iv p3, iv (0 : Int32), iv (0 : Int32), iv (1 : Int32), iv p4, iv p5, iv p6, iv p7, rv a8, rv a9, rv a10, rv a11, rv a12, rv a13, rv a14, rv a20, .unset] [(.ref a20)] _
  refine XS.astore X23.here hx rfl (hb hby at_298) rfl rfl (l' := #[iv p1, iv p2, iv p3, iv (0 : Int32), iv (0 : Int32), iv (1 : Int32), iv p4, iv p5, iv p6, iv p7, rv a8, rv a9, rv a10, rv a11, rv a12, rv a13, rv a14, rv a20, rv a20]) rfl ?_
  show St p e below T23 m 300 #[iv p1, iv p2, iv p3, iv (0 : Int32), iv (0 : Int32), iv (1 : Int32), iv p4, iv p5, iv p6, iv p7, rv a8, rv a9, rv a10, rv a11, rv a12, rv a13, rv a14, rv a20, rv a20] [] _
  refine XS.goto X23.here hx rfl (pc0 := 300) (pc' := 308) rfl (hb hby at_300) (by decide) (by decide) ?_
  show St p e below T23 m 308 #[iv p1, iv p2, iv p3, iv (0 : Int32), iv (0 : Int32), iv (1 : Int32), iv p4, iv p5, iv p6, iv p7, rv a8, rv a9, rv a10, rv a11, rv a12, rv a13, rv a14, rv a20, rv a20] [] _
  refine XS.aload X23.here hx rfl (hb hby at_308) rfl rfl ?_
  show St p e below T23 m 310 #[iv p1, iv p2, iv p3, iv (0 : Int32), iv (0 : Int32), iv (1 : Int32), iv p4, iv p5, iv p6, iv p7, rv a8, rv a9, rv a10, rv a11, rv a12, rv a13, rv a14, rv a20, rv a20] [(.ref a20)] _
  refine XS.aload X23.here hx rfl (hb hby at_310) rfl rfl ?_
  show St p e below T23 m 312 #[iv p1, iv p2, iv p3, iv (0 : Int32), iv (0 : Int32), iv (1 : Int32), iv p4, iv p5, iv p6, iv p7, rv a8, rv a9, rv a10, rv a11, rv a12, rv a13, rv a14, rv a20, rv a20] [(.ref a20), (.ref a20)] _
  refine Jvm.RoadKit.acmp (g := (mkF m 312 #[iv p1, iv p2, iv p3, iv (0 : Int32), iv (0 : Int32), iv (1 : Int32), iv p4, iv p5, iv p6, iv p7, rv a8, rv a9, rv a10, rv a11, rv a12, rv a13, rv a14, rv a20, rv a20] [(.ref a20), (.ref a20)])) X23 hx rfl rfl rfl (pc0 := 312) (pc' := 315) (same := true) rfl (hb hby at_312) rfl (decide_eq_true rfl) (by decide) (by decide) ?_
  show St p e below T23 m 315 #[iv p1, iv p2, iv p3, iv (0 : Int32), iv (0 : Int32), iv (1 : Int32), iv p4, iv p5, iv p6, iv p7, rv a8, rv a9, rv a10, rv a11, rv a12, rv a13, rv a14, rv a20, rv a20] [] _
  refine XS.iconst X23.here hx rfl (hb hby at_315) ?_
  show St p e below T23 m 316 #[iv p1, iv p2, iv p3, iv (0 : Int32), iv (0 : Int32), iv (1 : Int32), iv p4, iv p5, iv p6, iv p7, rv a8, rv a9, rv a10, rv a11, rv a12, rv a13, rv a14, rv a20, rv a20] [(.int (1 : Int32))] _
  refine XS.goto X23.here hx rfl (pc0 := 316) (pc' := 320) rfl (hb hby at_316) (by decide) (by decide) ?_
  exact kt
def law_5Q (Z : State) (wRequestState_UNKNOWN : Addr) (wRequestState_IN_PROGRESS : Addr) (wRequestState_REMOVED : Addr) (wRequestState_DONE : Addr) (wRequestState_FAILED : Addr) (wOptional_EMPTY : Addr) (wIntegerCache_cache : Addr) (zCOMPACT_STRINGS : Int32) (clC : Cell) (i0 : Int32) (i1 : Int32) (i2 : Int32) (h0 : Heap) (n0 : Nat) (v : Option Value) (h : Heap) (L : List Loc) : Prop := v = some (.int (1 : Int32)) ∧ Fr n0 L
theorem law_5e (m : MethodId) (wRequestState_UNKNOWN : Addr) (wRequestState_IN_PROGRESS : Addr) (wRequestState_REMOVED : Addr) (wRequestState_DONE : Addr) (wRequestState_FAILED : Addr) (wOptional_EMPTY : Addr) (wIntegerCache_cache : Addr) (zCOMPACT_STRINGS : Int32) (clC : Cell) (i0 : Int32) (i1 : Int32) (i2 : Int32) : entryFrame m #[(.int i0), (.int i1), (.int i2)] maxLocals = mkF m 0 #[iv i0, iv i1, iv i2, .unset, .unset, .unset, .unset, .unset, .unset, .unset, .unset, .unset, .unset, .unset, .unset, .unset, .unset, .unset, .unset] [] := by first | (simp [entryFrame, mkF, argsToLocals, Value.category, maxLocals]; done) | rfl
set_option maxRecDepth 65536 in
set_option maxHeartbeats 40000000 in
theorem law_5 (l : Launch) (Z : State) (a0 : Array Value) (hw : HW a0 Z) (ws : List Jvm.Cond) (wRequestState_UNKNOWN : Addr) (wRequestState_IN_PROGRESS : Addr) (wRequestState_REMOVED : Addr) (wRequestState_DONE : Addr) (wRequestState_FAILED : Addr) (wOptional_EMPTY : Addr) (wIntegerCache_cache : Addr) (zCOMPACT_STRINGS : Int32) (clC : Cell) (B : Base Z wRequestState_UNKNOWN wRequestState_IN_PROGRESS wRequestState_REMOVED wRequestState_DONE wRequestState_FAILED wOptional_EMPTY wIntegerCache_cache zCOMPACT_STRINGS clC) (i0 : Int32) (i1 : Int32) (i2 : Int32) (h0 : Heap) (n0 : Nat) (O0 : Old Z n0 h0) (pin0 : (own_b (i0 &&& (1 : Int32))) = (0 : Int32)) (pin1 : (own_b (i0 &&& (2 : Int32))) = (0 : Int32)) (pin2 : (own_b (i0 &&& (4 : Int32))) = (1 : Int32)) (pin3 : (own_b (i0 &&& (8 : Int32))) = (0 : Int32)) (pin4 : (own_b (i0 &&& (16 : Int32))) = (0 : Int32)) (hc3 : ¬ ((255 : Int32) < ((i1 &&& (255 : Int32)).toUInt32.toUInt16.toUInt32.toInt32))) (hc4 : ¬ ((255 : Int32) < ((i2 &&& (255 : Int32)).toUInt32.toUInt16.toUInt32.toInt32))) :
    MetFree l x (head1 (Jvm.Cond.code x code maxLocals ret :: ws) room_1) (fun a U => a = #[(.int i0), (.int i1), (.int i2)] ∧ Z.Warmed39 U.vm ∧ U.heap = h0) (fun _ _ _ _ _ => True) (fun _ U o U' => ∃ v L, o = .returned v ∧ law_5Q Z wRequestState_UNKNOWN wRequestState_IN_PROGRESS wRequestState_REMOVED wRequestState_DONE wRequestState_FAILED wOptional_EMPTY wIntegerCache_cache zCOMPACT_STRINGS clC i0 i1 i2 h0 n0 v U'.heap L ∧ FrameEnd U o U' L room_1.cells room_1.slots) := by
  refine MetFree.of_bodySF (plainFor_of_name pn_com_example_agave_agave_store_RequestStateOfPinLaw) hisR ?_
  intro p e s m args below meth c s₁ Bd hml0 hP hK
  obtain ⟨rfl, hZ, hh⟩ := hP
  have hx := Bd.exec
  have hby := Bd.bytes
  have hml : c.maxLocals = 19 := hml0
  have hown : s.vm.findClass "com/example/agave/agave/store/RequestStateOfPinLaw" = some m.cls := findClass_of_methodNamed Bd.named
  have hnm := (name_of_methodNamed Bd.named Bd.method).1
  have X0 : Stand p l e room_1 s m #[(.int i0), (.int i1), (.int i2)] below meth c s₁ [] 0 0 := Stand.of_body Bd
  have e0 : s₁.heap = h0 := by rw [← hh, Bd.state]; rfl
  have N0 := Fr.nil n0
  have pre0 : ∀ t, Steps p.tables e below (s₁.setTop (mkF m 0 #[iv i0, iv i1, iv i2, .unset, .unset, .unset, .unset, .unset, .unset, .unset, .unset, .unset, .unset, .unset, .unset, .unset, .unset, .unset, .unset] [])) t → Steps p.tables e below (s₁.setTop (entryFrame m #[(.int i0), (.int i1), (.int i2)] maxLocals)) t := fun t k => castTop (law_5e m wRequestState_UNKNOWN wRequestState_IN_PROGRESS wRequestState_REMOVED wRequestState_DONE wRequestState_FAILED wOptional_EMPTY wIntegerCache_cache zCOMPACT_STRINGS clC i0 i1 i2) k
  obtain ⟨T1, L1, X1, e1, N1, st1⟩ := g0_1 i0 i1 i2 X0 hx hZ hw hby hml hown e0 O0 N0 (by decide) (by decide) (by decide) (by decide)
  obtain ⟨T5, h5, L5, b5_0, b5_1, b5_2, b5_3, k5_0, k5_1, X5, e5, N5, K5, lo5_1, lo5_2, lo5_3, lo5_4, nq5_5, nq5_6, nq5_7, nq5_8, nq5_9, nq5_10, f5_11, f5_12, f5_13, f5_14, f5_15, f5_16, f5_17, f5_18, f5_19, f5_20, st5⟩ := g0_2 i0 i1 i2 (0 : Int32) (0 : Int32) (1 : Int32) (0 : Int32) (0 : Int32) (own_b (i0 &&& (32 : Int32))) (own_b (i0 &&& (64 : Int32))) zCOMPACT_STRINGS X1 hx hZ hw hby hml hown e1 O0 N1 (by decide) (by decide) (by decide) (by decide) B.2.2.2.2.2.2.2.2.2.2.2.2.2.2.2.1 B.2.2.2.2.2.2.2.2.2.2.2.2.2.2.2.2.1 hc3 hc4
  have O_K5 : Old Z n0 h5 := O0.keep K5 all0
  have Kp_K5 : Keep h0 h5 [] := (Keep.refl h0 []).trans K5 all0
  obtain ⟨T6, L6, X6, e6, N6, st6⟩ := g0_3 i0 i1 i2 (0 : Int32) (0 : Int32) (1 : Int32) (0 : Int32) (own_b (i0 &&& (32 : Int32))) (own_b (i0 &&& (64 : Int32))) b5_0 b5_1 wOptional_EMPTY X5 hx hZ hw hby hml hown e5 O_K5 N5 (by decide) (by decide) (by decide) (by decide) B.2.2.2.2.2.2.2.2.2.2.1
  obtain ⟨T7, L7, X7, e7, N7, st7⟩ := g0_4 i0 i1 i2 (0 : Int32) (0 : Int32) (1 : Int32) (0 : Int32) (own_b (i0 &&& (32 : Int32))) (own_b (i0 &&& (64 : Int32))) b5_0 b5_1 wOptional_EMPTY wOptional_EMPTY X6 hx hZ hw hby hml hown e6 O_K5 N6 (by decide) (by decide) (by decide) (by decide) B.2.2.2.2.2.2.2.2.2.2.1
  obtain ⟨T8, h8, L8, b8_0, X8, e8, N8, K8, st8⟩ := m0_1 i0 i1 i2 (0 : Int32) (0 : Int32) (1 : Int32) (0 : Int32) (0 : Int32) (own_b (i0 &&& (32 : Int32))) (own_b (i0 &&& (64 : Int32))) b5_0 b5_1 wOptional_EMPTY wOptional_EMPTY wOptional_EMPTY wIntegerCache_cache clC X7 hx hZ hw hby hml hown e7 O_K5 N7 (by decide) (by decide) (by decide) (by decide) B.2.2.2.2.2.2.2.2.2.2.1 B.2.2.2.2.2.2.2.2.2.2.1 B.2.2.2.2.2.2.2.2.2.2.2.2.1 B.2.2.2.2.2.2.2.2.2.2.2.2.2.1 B.2.2.2.2.2.2.2.2.2.2.2.2.2.2.2.2.2.2.2.2.2.2.2.2.2.2.2.2.2.1 B.2.2.2.2.2.2.2.2.2.2.2.2.2.2.2.2.2.2.2.2.2.2.2.2.2.2.2.2.2.2.1 B.2.2.2.2.2.2.2.2.2.2.2.2.2.2.2.2.2.2.2.2.2.2.2.2.2.2.2.2.2.2.2
  have O_K8 : Old Z n0 h8 := O_K5.keep K8 all0
  have Kp_K8 : Keep h0 h8 [] := Kp_K5.trans K8 all0
  obtain ⟨T9, L9, X9, e9, N9, st9⟩ := g0_7 i0 i1 i2 (0 : Int32) (1 : Int32) (0 : Int32) (0 : Int32) (own_b (i0 &&& (32 : Int32))) (own_b (i0 &&& (64 : Int32))) b5_0 b5_1 wOptional_EMPTY wOptional_EMPTY b8_0 wOptional_EMPTY X8 hx hZ hw hby hml hown e8 O_K8 N8 (by decide) (by decide) (by decide) (by decide) B.2.2.2.2.2.2.2.2.2.2.1
  obtain ⟨T10, h10, L10, b10_0, b10_1, X10, e10, N10, K10, lo10_1, lo10_2, nq10_3, f10_4, f10_5, f10_6, f10_7, f10_8, f10_9, f10_10, st10⟩ := g0_13 i0 i1 i2 (0 : Int32) (0 : Int32) (0 : Int32) (0 : Int32) (own_b (i0 &&& (32 : Int32))) (own_b (i0 &&& (64 : Int32))) b5_0 b5_1 wOptional_EMPTY wOptional_EMPTY b8_0 wOptional_EMPTY wOptional_EMPTY X9 hx hZ hw hby hml hown e9 O_K8 N9 (by decide) (by decide) (by decide) (by decide) B.2.2.2.2.2.2.2.2.2.2.1
  have O_K10 : Old Z n0 h10 := O_K8.keep K10 all0
  have Kp_K10 : Keep h0 h10 [] := Kp_K8.trans K10 all0
  obtain ⟨T11, L11, X11, e11, N11, st11⟩ := g0_14 i0 i1 i2 (0 : Int32) (0 : Int32) (own_b (i0 &&& (32 : Int32))) (own_b (i0 &&& (64 : Int32))) b5_0 b5_1 wOptional_EMPTY wOptional_EMPTY b8_0 wOptional_EMPTY b10_0 b10_1 wRequestState_REMOVED X10 hx hZ hw hby hml hown e10 O_K10 N10 (by decide) (by decide) (by decide) (by decide) B.2.2.2.2.2.2.2.2.2.2.2.1 B.2.2.2.2.2.2.2.2.2.2.2.2.2.2.2.2.2.1 f10_4 f10_5 B.2.2.2.2.1
  obtain ⟨fs, hr, hrun, hended, hW, hsame⟩ := X11.leave (v := some (.int (1 : Int32))) (fun h => by rw [Bd.returns] at h; cases h)
  refine ⟨_, _, pre0 _ ?_, hrun, hended, _, _, rfl, ?_, ⟨_, rfl⟩, hW, hsame.mono (by decide) (by decide)⟩
  · refine st1 _ ?_
    show St p e below T1 m 94 #[iv i0, iv i1, iv i2, iv (own_b (i0 &&& (1 : Int32))), iv (own_b (i0 &&& (2 : Int32))), iv (own_b (i0 &&& (4 : Int32))), iv (own_b (i0 &&& (8 : Int32))), iv (own_b (i0 &&& (16 : Int32))), iv (own_b (i0 &&& (32 : Int32))), iv (own_b (i0 &&& (64 : Int32))), .unset, .unset, .unset, .unset, .unset, .unset, .unset, .unset, .unset] [] _
    rw [pin0]
    rw [pin1]
    rw [pin2]
    rw [pin3]
    rw [pin4]
    refine st5 _ ?_
    refine st6 _ ?_
    refine st7 _ ?_
    refine st8 _ ?_
    refine st9 _ ?_
    refine st10 _ ?_
    refine st11 _ ?_
    show St p e below T11 m 320 #[iv i0, iv i1, iv i2, iv (0 : Int32), iv (0 : Int32), iv (1 : Int32), iv (0 : Int32), iv (0 : Int32), iv (own_b (i0 &&& (32 : Int32))), iv (own_b (i0 &&& (64 : Int32))), rv b5_0, rv b5_1, rv wOptional_EMPTY, rv wOptional_EMPTY, rv b8_0, rv wOptional_EMPTY, rv b10_0, rv wRequestState_REMOVED, rv wRequestState_REMOVED] [(.int (1 : Int32))] _
    exact retN X11 hx (t := .boolean) Bd.returns (by simp) (hb hby at_320) hr
  · show law_5Q Z wRequestState_UNKNOWN wRequestState_IN_PROGRESS wRequestState_REMOVED wRequestState_DONE wRequestState_FAILED wOptional_EMPTY wIntegerCache_cache zCOMPACT_STRINGS clC i0 i1 i2 h0 n0 _ T11.heap _
    rw [e11]
    exact ⟨rfl, N11⟩
def law_6Q (Z : State) (wRequestState_UNKNOWN : Addr) (wRequestState_IN_PROGRESS : Addr) (wRequestState_REMOVED : Addr) (wRequestState_DONE : Addr) (wRequestState_FAILED : Addr) (wOptional_EMPTY : Addr) (wIntegerCache_cache : Addr) (zCOMPACT_STRINGS : Int32) (clC : Cell) (i0 : Int32) (i1 : Int32) (i2 : Int32) (h0 : Heap) (n0 : Nat) (v : Option Value) (h : Heap) (L : List Loc) : Prop := v = some (.int (1 : Int32)) ∧ Fr n0 L
theorem law_6e (m : MethodId) (wRequestState_UNKNOWN : Addr) (wRequestState_IN_PROGRESS : Addr) (wRequestState_REMOVED : Addr) (wRequestState_DONE : Addr) (wRequestState_FAILED : Addr) (wOptional_EMPTY : Addr) (wIntegerCache_cache : Addr) (zCOMPACT_STRINGS : Int32) (clC : Cell) (i0 : Int32) (i1 : Int32) (i2 : Int32) : entryFrame m #[(.int i0), (.int i1), (.int i2)] maxLocals = mkF m 0 #[iv i0, iv i1, iv i2, .unset, .unset, .unset, .unset, .unset, .unset, .unset, .unset, .unset, .unset, .unset, .unset, .unset, .unset, .unset, .unset] [] := by first | (simp [entryFrame, mkF, argsToLocals, Value.category, maxLocals]; done) | rfl
set_option maxRecDepth 65536 in
set_option maxHeartbeats 40000000 in
theorem law_6 (l : Launch) (Z : State) (a0 : Array Value) (hw : HW a0 Z) (ws : List Jvm.Cond) (wRequestState_UNKNOWN : Addr) (wRequestState_IN_PROGRESS : Addr) (wRequestState_REMOVED : Addr) (wRequestState_DONE : Addr) (wRequestState_FAILED : Addr) (wOptional_EMPTY : Addr) (wIntegerCache_cache : Addr) (zCOMPACT_STRINGS : Int32) (clC : Cell) (B : Base Z wRequestState_UNKNOWN wRequestState_IN_PROGRESS wRequestState_REMOVED wRequestState_DONE wRequestState_FAILED wOptional_EMPTY wIntegerCache_cache zCOMPACT_STRINGS clC) (i0 : Int32) (i1 : Int32) (i2 : Int32) (h0 : Heap) (n0 : Nat) (O0 : Old Z n0 h0) (pin0 : (own_b (i0 &&& (1 : Int32))) = (1 : Int32)) (pin1 : (own_b (i0 &&& (2 : Int32))) = (0 : Int32)) (pin2 : (own_b (i0 &&& (4 : Int32))) = (1 : Int32)) (pin3 : (own_b (i0 &&& (8 : Int32))) = (0 : Int32)) (pin4 : (own_b (i0 &&& (16 : Int32))) = (0 : Int32)) (hc3 : ¬ ((255 : Int32) < ((i1 &&& (255 : Int32)).toUInt32.toUInt16.toUInt32.toInt32))) (hc4 : ¬ ((255 : Int32) < ((i2 &&& (255 : Int32)).toUInt32.toUInt16.toUInt32.toInt32))) :
    MetFree l x (head1 (Jvm.Cond.code x code maxLocals ret :: ws) room_1) (fun a U => a = #[(.int i0), (.int i1), (.int i2)] ∧ Z.Warmed39 U.vm ∧ U.heap = h0) (fun _ _ _ _ _ => True) (fun _ U o U' => ∃ v L, o = .returned v ∧ law_6Q Z wRequestState_UNKNOWN wRequestState_IN_PROGRESS wRequestState_REMOVED wRequestState_DONE wRequestState_FAILED wOptional_EMPTY wIntegerCache_cache zCOMPACT_STRINGS clC i0 i1 i2 h0 n0 v U'.heap L ∧ FrameEnd U o U' L room_1.cells room_1.slots) := by
  refine MetFree.of_bodySF (plainFor_of_name pn_com_example_agave_agave_store_RequestStateOfPinLaw) hisR ?_
  intro p e s m args below meth c s₁ Bd hml0 hP hK
  obtain ⟨rfl, hZ, hh⟩ := hP
  have hx := Bd.exec
  have hby := Bd.bytes
  have hml : c.maxLocals = 19 := hml0
  have hown : s.vm.findClass "com/example/agave/agave/store/RequestStateOfPinLaw" = some m.cls := findClass_of_methodNamed Bd.named
  have hnm := (name_of_methodNamed Bd.named Bd.method).1
  have X0 : Stand p l e room_1 s m #[(.int i0), (.int i1), (.int i2)] below meth c s₁ [] 0 0 := Stand.of_body Bd
  have e0 : s₁.heap = h0 := by rw [← hh, Bd.state]; rfl
  have N0 := Fr.nil n0
  have pre0 : ∀ t, Steps p.tables e below (s₁.setTop (mkF m 0 #[iv i0, iv i1, iv i2, .unset, .unset, .unset, .unset, .unset, .unset, .unset, .unset, .unset, .unset, .unset, .unset, .unset, .unset, .unset, .unset] [])) t → Steps p.tables e below (s₁.setTop (entryFrame m #[(.int i0), (.int i1), (.int i2)] maxLocals)) t := fun t k => castTop (law_6e m wRequestState_UNKNOWN wRequestState_IN_PROGRESS wRequestState_REMOVED wRequestState_DONE wRequestState_FAILED wOptional_EMPTY wIntegerCache_cache zCOMPACT_STRINGS clC i0 i1 i2) k
  obtain ⟨T1, L1, X1, e1, N1, st1⟩ := g0_1 i0 i1 i2 X0 hx hZ hw hby hml hown e0 O0 N0 (by decide) (by decide) (by decide) (by decide)
  obtain ⟨T5, h5, L5, b5_0, b5_1, b5_2, b5_3, k5_0, k5_1, X5, e5, N5, K5, lo5_1, lo5_2, lo5_3, lo5_4, nq5_5, nq5_6, nq5_7, nq5_8, nq5_9, nq5_10, f5_11, f5_12, f5_13, f5_14, f5_15, f5_16, f5_17, f5_18, f5_19, f5_20, st5⟩ := g0_2 i0 i1 i2 (1 : Int32) (0 : Int32) (1 : Int32) (0 : Int32) (0 : Int32) (own_b (i0 &&& (32 : Int32))) (own_b (i0 &&& (64 : Int32))) zCOMPACT_STRINGS X1 hx hZ hw hby hml hown e1 O0 N1 (by decide) (by decide) (by decide) (by decide) B.2.2.2.2.2.2.2.2.2.2.2.2.2.2.2.1 B.2.2.2.2.2.2.2.2.2.2.2.2.2.2.2.2.1 hc3 hc4
  have O_K5 : Old Z n0 h5 := O0.keep K5 all0
  have Kp_K5 : Keep h0 h5 [] := (Keep.refl h0 []).trans K5 all0
  obtain ⟨T6, L6, X6, e6, N6, st6⟩ := g0_3 i0 i1 i2 (1 : Int32) (0 : Int32) (1 : Int32) (0 : Int32) (own_b (i0 &&& (32 : Int32))) (own_b (i0 &&& (64 : Int32))) b5_0 b5_1 wOptional_EMPTY X5 hx hZ hw hby hml hown e5 O_K5 N5 (by decide) (by decide) (by decide) (by decide) B.2.2.2.2.2.2.2.2.2.2.1
  obtain ⟨T7, L7, X7, e7, N7, st7⟩ := g0_4 i0 i1 i2 (1 : Int32) (0 : Int32) (1 : Int32) (0 : Int32) (own_b (i0 &&& (32 : Int32))) (own_b (i0 &&& (64 : Int32))) b5_0 b5_1 wOptional_EMPTY wOptional_EMPTY X6 hx hZ hw hby hml hown e6 O_K5 N6 (by decide) (by decide) (by decide) (by decide) B.2.2.2.2.2.2.2.2.2.2.1
  obtain ⟨T8, h8, L8, b8_0, X8, e8, N8, K8, st8⟩ := m0_1 i0 i1 i2 (1 : Int32) (0 : Int32) (1 : Int32) (0 : Int32) (0 : Int32) (own_b (i0 &&& (32 : Int32))) (own_b (i0 &&& (64 : Int32))) b5_0 b5_1 wOptional_EMPTY wOptional_EMPTY wOptional_EMPTY wIntegerCache_cache clC X7 hx hZ hw hby hml hown e7 O_K5 N7 (by decide) (by decide) (by decide) (by decide) B.2.2.2.2.2.2.2.2.2.2.1 B.2.2.2.2.2.2.2.2.2.2.1 B.2.2.2.2.2.2.2.2.2.2.2.2.1 B.2.2.2.2.2.2.2.2.2.2.2.2.2.1 B.2.2.2.2.2.2.2.2.2.2.2.2.2.2.2.2.2.2.2.2.2.2.2.2.2.2.2.2.2.1 B.2.2.2.2.2.2.2.2.2.2.2.2.2.2.2.2.2.2.2.2.2.2.2.2.2.2.2.2.2.2.1 B.2.2.2.2.2.2.2.2.2.2.2.2.2.2.2.2.2.2.2.2.2.2.2.2.2.2.2.2.2.2.2
  have O_K8 : Old Z n0 h8 := O_K5.keep K8 all0
  have Kp_K8 : Keep h0 h8 [] := Kp_K5.trans K8 all0
  obtain ⟨T9, h9, L9, b9_0, b9_1, X9, e9, N9, K9, lo9_1, lo9_2, nq9_3, f9_4, f9_5, f9_6, f9_7, f9_8, f9_9, f9_10, f9_11, st9⟩ := g0_10 i0 i1 i2 (0 : Int32) (1 : Int32) (0 : Int32) (0 : Int32) (own_b (i0 &&& (32 : Int32))) (own_b (i0 &&& (64 : Int32))) b5_0 b5_1 wOptional_EMPTY wOptional_EMPTY b8_0 wOptional_EMPTY X8 hx hZ hw hby hml hown e8 O_K8 N8 (by decide) (by decide) (by decide) (by decide) B.2.2.2.2.2.2.2.2.2.2.1
  have O_K9 : Old Z n0 h9 := O_K8.keep K9 all0
  have Kp_K9 : Keep h0 h9 [] := Kp_K8.trans K9 all0
  obtain ⟨T10, h10, L10, b10_0, b10_1, X10, e10, N10, K10, lo10_1, lo10_2, nq10_3, f10_4, f10_5, f10_6, f10_7, f10_8, f10_9, f10_10, st10⟩ := g0_13 i0 i1 i2 (1 : Int32) (0 : Int32) (0 : Int32) (0 : Int32) (own_b (i0 &&& (32 : Int32))) (own_b (i0 &&& (64 : Int32))) b5_0 b5_1 wOptional_EMPTY wOptional_EMPTY b8_0 b9_0 wOptional_EMPTY X9 hx hZ hw hby hml hown e9 O_K9 N9 (by decide) (by decide) (by decide) (by decide) B.2.2.2.2.2.2.2.2.2.2.1
  have O_K10 : Old Z n0 h10 := O_K9.keep K10 all0
  have Kp_K10 : Keep h0 h10 [] := Kp_K9.trans K10 all0
  have f11 := (f9_4.keep K10)
  have f12 := (f9_5.keep K10 nin0)
  have f13 := (f9_6.keep K10)
  have f14 := (f9_10.keep K10 nin0)
  have f15 := (f9_9.keep K10 nin0)
  obtain ⟨T16, L16, X16, e16, N16, st16⟩ := g0_11 i0 i1 i2 (0 : Int32) (1 : Int32) (own_b (i0 &&& (32 : Int32))) (own_b (i0 &&& (64 : Int32))) b5_0 b5_1 wOptional_EMPTY wOptional_EMPTY b8_0 b9_0 b10_0 b9_1 wOptional_EMPTY wRequestState_IN_PROGRESS X10 hx hZ hw hby hml hown e10 O_K10 N10 (by decide) (by decide) (by decide) (by decide) f11 f12 f13 f14 B.2.2.2.2.2.2.2.2.2.2.2.1 B.2.2.2.2.2.2.2.2.2.2.2.2.2.2.2.2.2.1 f15 B.2.2.1
  obtain ⟨fs, hr, hrun, hended, hW, hsame⟩ := X16.leave (v := some (.int (1 : Int32))) (fun h => by rw [Bd.returns] at h; cases h)
  refine ⟨_, _, pre0 _ ?_, hrun, hended, _, _, rfl, ?_, ⟨_, rfl⟩, hW, hsame.mono (by decide) (by decide)⟩
  · refine st1 _ ?_
    show St p e below T1 m 94 #[iv i0, iv i1, iv i2, iv (own_b (i0 &&& (1 : Int32))), iv (own_b (i0 &&& (2 : Int32))), iv (own_b (i0 &&& (4 : Int32))), iv (own_b (i0 &&& (8 : Int32))), iv (own_b (i0 &&& (16 : Int32))), iv (own_b (i0 &&& (32 : Int32))), iv (own_b (i0 &&& (64 : Int32))), .unset, .unset, .unset, .unset, .unset, .unset, .unset, .unset, .unset] [] _
    rw [pin0]
    rw [pin1]
    rw [pin2]
    rw [pin3]
    rw [pin4]
    refine st5 _ ?_
    refine st6 _ ?_
    refine st7 _ ?_
    refine st8 _ ?_
    refine st9 _ ?_
    refine st10 _ ?_
    refine st16 _ ?_
    show St p e below T16 m 320 #[iv i0, iv i1, iv i2, iv (1 : Int32), iv (0 : Int32), iv (1 : Int32), iv (0 : Int32), iv (0 : Int32), iv (own_b (i0 &&& (32 : Int32))), iv (own_b (i0 &&& (64 : Int32))), rv b5_0, rv b5_1, rv wOptional_EMPTY, rv wOptional_EMPTY, rv b8_0, rv b9_0, rv b10_0, rv wRequestState_IN_PROGRESS, rv wRequestState_IN_PROGRESS] [(.int (1 : Int32))] _
    exact retN X16 hx (t := .boolean) Bd.returns (by simp) (hb hby at_320) hr
  · show law_6Q Z wRequestState_UNKNOWN wRequestState_IN_PROGRESS wRequestState_REMOVED wRequestState_DONE wRequestState_FAILED wOptional_EMPTY wIntegerCache_cache zCOMPACT_STRINGS clC i0 i1 i2 h0 n0 _ T16.heap _
    rw [e16]
    exact ⟨rfl, N16⟩
def law_7Q (Z : State) (wRequestState_UNKNOWN : Addr) (wRequestState_IN_PROGRESS : Addr) (wRequestState_REMOVED : Addr) (wRequestState_DONE : Addr) (wRequestState_FAILED : Addr) (wOptional_EMPTY : Addr) (wIntegerCache_cache : Addr) (zCOMPACT_STRINGS : Int32) (clC : Cell) (i0 : Int32) (i1 : Int32) (i2 : Int32) (h0 : Heap) (n0 : Nat) (v : Option Value) (h : Heap) (L : List Loc) : Prop := v = some (.int (1 : Int32)) ∧ Fr n0 L
theorem law_7e (m : MethodId) (wRequestState_UNKNOWN : Addr) (wRequestState_IN_PROGRESS : Addr) (wRequestState_REMOVED : Addr) (wRequestState_DONE : Addr) (wRequestState_FAILED : Addr) (wOptional_EMPTY : Addr) (wIntegerCache_cache : Addr) (zCOMPACT_STRINGS : Int32) (clC : Cell) (i0 : Int32) (i1 : Int32) (i2 : Int32) : entryFrame m #[(.int i0), (.int i1), (.int i2)] maxLocals = mkF m 0 #[iv i0, iv i1, iv i2, .unset, .unset, .unset, .unset, .unset, .unset, .unset, .unset, .unset, .unset, .unset, .unset, .unset, .unset, .unset, .unset] [] := by first | (simp [entryFrame, mkF, argsToLocals, Value.category, maxLocals]; done) | rfl
set_option maxRecDepth 65536 in
set_option maxHeartbeats 40000000 in
theorem law_7 (l : Launch) (Z : State) (a0 : Array Value) (hw : HW a0 Z) (ws : List Jvm.Cond) (wRequestState_UNKNOWN : Addr) (wRequestState_IN_PROGRESS : Addr) (wRequestState_REMOVED : Addr) (wRequestState_DONE : Addr) (wRequestState_FAILED : Addr) (wOptional_EMPTY : Addr) (wIntegerCache_cache : Addr) (zCOMPACT_STRINGS : Int32) (clC : Cell) (B : Base Z wRequestState_UNKNOWN wRequestState_IN_PROGRESS wRequestState_REMOVED wRequestState_DONE wRequestState_FAILED wOptional_EMPTY wIntegerCache_cache zCOMPACT_STRINGS clC) (i0 : Int32) (i1 : Int32) (i2 : Int32) (h0 : Heap) (n0 : Nat) (O0 : Old Z n0 h0) (pin0 : (own_b (i0 &&& (1 : Int32))) = (0 : Int32)) (pin1 : (own_b (i0 &&& (2 : Int32))) = (1 : Int32)) (pin2 : (own_b (i0 &&& (4 : Int32))) = (1 : Int32)) (pin3 : (own_b (i0 &&& (8 : Int32))) = (0 : Int32)) (pin4 : (own_b (i0 &&& (16 : Int32))) = (0 : Int32)) (hc3 : ¬ ((255 : Int32) < ((i1 &&& (255 : Int32)).toUInt32.toUInt16.toUInt32.toInt32))) (hc4 : ¬ ((255 : Int32) < ((i2 &&& (255 : Int32)).toUInt32.toUInt16.toUInt32.toInt32))) :
    MetFree l x (head1 (Jvm.Cond.code x code maxLocals ret :: ws) room_1) (fun a U => a = #[(.int i0), (.int i1), (.int i2)] ∧ Z.Warmed39 U.vm ∧ U.heap = h0) (fun _ _ _ _ _ => True) (fun _ U o U' => ∃ v L, o = .returned v ∧ law_7Q Z wRequestState_UNKNOWN wRequestState_IN_PROGRESS wRequestState_REMOVED wRequestState_DONE wRequestState_FAILED wOptional_EMPTY wIntegerCache_cache zCOMPACT_STRINGS clC i0 i1 i2 h0 n0 v U'.heap L ∧ FrameEnd U o U' L room_1.cells room_1.slots) := by
  refine MetFree.of_bodySF (plainFor_of_name pn_com_example_agave_agave_store_RequestStateOfPinLaw) hisR ?_
  intro p e s m args below meth c s₁ Bd hml0 hP hK
  obtain ⟨rfl, hZ, hh⟩ := hP
  have hx := Bd.exec
  have hby := Bd.bytes
  have hml : c.maxLocals = 19 := hml0
  have hown : s.vm.findClass "com/example/agave/agave/store/RequestStateOfPinLaw" = some m.cls := findClass_of_methodNamed Bd.named
  have hnm := (name_of_methodNamed Bd.named Bd.method).1
  have X0 : Stand p l e room_1 s m #[(.int i0), (.int i1), (.int i2)] below meth c s₁ [] 0 0 := Stand.of_body Bd
  have e0 : s₁.heap = h0 := by rw [← hh, Bd.state]; rfl
  have N0 := Fr.nil n0
  have pre0 : ∀ t, Steps p.tables e below (s₁.setTop (mkF m 0 #[iv i0, iv i1, iv i2, .unset, .unset, .unset, .unset, .unset, .unset, .unset, .unset, .unset, .unset, .unset, .unset, .unset, .unset, .unset, .unset] [])) t → Steps p.tables e below (s₁.setTop (entryFrame m #[(.int i0), (.int i1), (.int i2)] maxLocals)) t := fun t k => castTop (law_7e m wRequestState_UNKNOWN wRequestState_IN_PROGRESS wRequestState_REMOVED wRequestState_DONE wRequestState_FAILED wOptional_EMPTY wIntegerCache_cache zCOMPACT_STRINGS clC i0 i1 i2) k
  obtain ⟨T1, L1, X1, e1, N1, st1⟩ := g0_1 i0 i1 i2 X0 hx hZ hw hby hml hown e0 O0 N0 (by decide) (by decide) (by decide) (by decide)
  obtain ⟨T5, h5, L5, b5_0, b5_1, b5_2, b5_3, k5_0, k5_1, X5, e5, N5, K5, lo5_1, lo5_2, lo5_3, lo5_4, nq5_5, nq5_6, nq5_7, nq5_8, nq5_9, nq5_10, f5_11, f5_12, f5_13, f5_14, f5_15, f5_16, f5_17, f5_18, f5_19, f5_20, st5⟩ := g0_2 i0 i1 i2 (0 : Int32) (1 : Int32) (1 : Int32) (0 : Int32) (0 : Int32) (own_b (i0 &&& (32 : Int32))) (own_b (i0 &&& (64 : Int32))) zCOMPACT_STRINGS X1 hx hZ hw hby hml hown e1 O0 N1 (by decide) (by decide) (by decide) (by decide) B.2.2.2.2.2.2.2.2.2.2.2.2.2.2.2.1 B.2.2.2.2.2.2.2.2.2.2.2.2.2.2.2.2.1 hc3 hc4
  have O_K5 : Old Z n0 h5 := O0.keep K5 all0
  have Kp_K5 : Keep h0 h5 [] := (Keep.refl h0 []).trans K5 all0
  obtain ⟨T6, L6, X6, e6, N6, st6⟩ := g0_3 i0 i1 i2 (0 : Int32) (1 : Int32) (1 : Int32) (0 : Int32) (own_b (i0 &&& (32 : Int32))) (own_b (i0 &&& (64 : Int32))) b5_0 b5_1 wOptional_EMPTY X5 hx hZ hw hby hml hown e5 O_K5 N5 (by decide) (by decide) (by decide) (by decide) B.2.2.2.2.2.2.2.2.2.2.1
  obtain ⟨T7, L7, X7, e7, N7, st7⟩ := g0_4 i0 i1 i2 (0 : Int32) (1 : Int32) (1 : Int32) (0 : Int32) (own_b (i0 &&& (32 : Int32))) (own_b (i0 &&& (64 : Int32))) b5_0 b5_1 wOptional_EMPTY wOptional_EMPTY X6 hx hZ hw hby hml hown e6 O_K5 N6 (by decide) (by decide) (by decide) (by decide) B.2.2.2.2.2.2.2.2.2.2.1
  obtain ⟨T8, h8, L8, b8_0, X8, e8, N8, K8, st8⟩ := m0_1 i0 i1 i2 (0 : Int32) (1 : Int32) (1 : Int32) (0 : Int32) (0 : Int32) (own_b (i0 &&& (32 : Int32))) (own_b (i0 &&& (64 : Int32))) b5_0 b5_1 wOptional_EMPTY wOptional_EMPTY wOptional_EMPTY wIntegerCache_cache clC X7 hx hZ hw hby hml hown e7 O_K5 N7 (by decide) (by decide) (by decide) (by decide) B.2.2.2.2.2.2.2.2.2.2.1 B.2.2.2.2.2.2.2.2.2.2.1 B.2.2.2.2.2.2.2.2.2.2.2.2.1 B.2.2.2.2.2.2.2.2.2.2.2.2.2.1 B.2.2.2.2.2.2.2.2.2.2.2.2.2.2.2.2.2.2.2.2.2.2.2.2.2.2.2.2.2.1 B.2.2.2.2.2.2.2.2.2.2.2.2.2.2.2.2.2.2.2.2.2.2.2.2.2.2.2.2.2.2.1 B.2.2.2.2.2.2.2.2.2.2.2.2.2.2.2.2.2.2.2.2.2.2.2.2.2.2.2.2.2.2.2
  have O_K8 : Old Z n0 h8 := O_K5.keep K8 all0
  have Kp_K8 : Keep h0 h8 [] := Kp_K5.trans K8 all0
  obtain ⟨T9, L9, X9, e9, N9, st9⟩ := g0_7 i0 i1 i2 (1 : Int32) (1 : Int32) (0 : Int32) (0 : Int32) (own_b (i0 &&& (32 : Int32))) (own_b (i0 &&& (64 : Int32))) b5_0 b5_1 wOptional_EMPTY wOptional_EMPTY b8_0 wOptional_EMPTY X8 hx hZ hw hby hml hown e8 O_K8 N8 (by decide) (by decide) (by decide) (by decide) B.2.2.2.2.2.2.2.2.2.2.1
  obtain ⟨T10, h10, L10, b10_0, b10_1, X10, e10, N10, K10, lo10_1, lo10_2, nq10_3, f10_4, f10_5, f10_6, f10_7, f10_8, f10_9, f10_10, st10⟩ := g0_13 i0 i1 i2 (0 : Int32) (1 : Int32) (0 : Int32) (0 : Int32) (own_b (i0 &&& (32 : Int32))) (own_b (i0 &&& (64 : Int32))) b5_0 b5_1 wOptional_EMPTY wOptional_EMPTY b8_0 wOptional_EMPTY wOptional_EMPTY X9 hx hZ hw hby hml hown e9 O_K8 N9 (by decide) (by decide) (by decide) (by decide) B.2.2.2.2.2.2.2.2.2.2.1
  have O_K10 : Old Z n0 h10 := O_K8.keep K10 all0
  have Kp_K10 : Keep h0 h10 [] := Kp_K8.trans K10 all0
  obtain ⟨T11, L11, X11, e11, N11, st11⟩ := g0_12 i0 i1 i2 (1 : Int32) (0 : Int32) (0 : Int32) (own_b (i0 &&& (32 : Int32))) (own_b (i0 &&& (64 : Int32))) b5_0 b5_1 wOptional_EMPTY wOptional_EMPTY b8_0 wOptional_EMPTY b10_0 wRequestState_IN_PROGRESS X10 hx hZ hw hby hml hown e10 O_K10 N10 (by decide) (by decide) (by decide) (by decide) B.2.2.2.2.2.2.2.2.2.2.2.1 B.2.2.2.2.2.2.2.2.2.2.2.2.2.2.2.2.2.1 B.2.2.1
  obtain ⟨fs, hr, hrun, hended, hW, hsame⟩ := X11.leave (v := some (.int (1 : Int32))) (fun h => by rw [Bd.returns] at h; cases h)
  refine ⟨_, _, pre0 _ ?_, hrun, hended, _, _, rfl, ?_, ⟨_, rfl⟩, hW, hsame.mono (by decide) (by decide)⟩
  · refine st1 _ ?_
    show St p e below T1 m 94 #[iv i0, iv i1, iv i2, iv (own_b (i0 &&& (1 : Int32))), iv (own_b (i0 &&& (2 : Int32))), iv (own_b (i0 &&& (4 : Int32))), iv (own_b (i0 &&& (8 : Int32))), iv (own_b (i0 &&& (16 : Int32))), iv (own_b (i0 &&& (32 : Int32))), iv (own_b (i0 &&& (64 : Int32))), .unset, .unset, .unset, .unset, .unset, .unset, .unset, .unset, .unset] [] _
    rw [pin0]
    rw [pin1]
    rw [pin2]
    rw [pin3]
    rw [pin4]
    refine st5 _ ?_
    refine st6 _ ?_
    refine st7 _ ?_
    refine st8 _ ?_
    refine st9 _ ?_
    refine st10 _ ?_
    refine st11 _ ?_
    show St p e below T11 m 320 #[iv i0, iv i1, iv i2, iv (0 : Int32), iv (1 : Int32), iv (1 : Int32), iv (0 : Int32), iv (0 : Int32), iv (own_b (i0 &&& (32 : Int32))), iv (own_b (i0 &&& (64 : Int32))), rv b5_0, rv b5_1, rv wOptional_EMPTY, rv wOptional_EMPTY, rv b8_0, rv wOptional_EMPTY, rv b10_0, rv wRequestState_IN_PROGRESS, rv wRequestState_IN_PROGRESS] [(.int (1 : Int32))] _
    exact retN X11 hx (t := .boolean) Bd.returns (by simp) (hb hby at_320) hr
  · show law_7Q Z wRequestState_UNKNOWN wRequestState_IN_PROGRESS wRequestState_REMOVED wRequestState_DONE wRequestState_FAILED wOptional_EMPTY wIntegerCache_cache zCOMPACT_STRINGS clC i0 i1 i2 h0 n0 _ T11.heap _
    rw [e11]
    exact ⟨rfl, N11⟩
def law_8Q (Z : State) (wRequestState_UNKNOWN : Addr) (wRequestState_IN_PROGRESS : Addr) (wRequestState_REMOVED : Addr) (wRequestState_DONE : Addr) (wRequestState_FAILED : Addr) (wOptional_EMPTY : Addr) (wIntegerCache_cache : Addr) (zCOMPACT_STRINGS : Int32) (clC : Cell) (i0 : Int32) (i1 : Int32) (i2 : Int32) (h0 : Heap) (n0 : Nat) (v : Option Value) (h : Heap) (L : List Loc) : Prop := v = some (.int (1 : Int32)) ∧ Fr n0 L
theorem law_8e (m : MethodId) (wRequestState_UNKNOWN : Addr) (wRequestState_IN_PROGRESS : Addr) (wRequestState_REMOVED : Addr) (wRequestState_DONE : Addr) (wRequestState_FAILED : Addr) (wOptional_EMPTY : Addr) (wIntegerCache_cache : Addr) (zCOMPACT_STRINGS : Int32) (clC : Cell) (i0 : Int32) (i1 : Int32) (i2 : Int32) : entryFrame m #[(.int i0), (.int i1), (.int i2)] maxLocals = mkF m 0 #[iv i0, iv i1, iv i2, .unset, .unset, .unset, .unset, .unset, .unset, .unset, .unset, .unset, .unset, .unset, .unset, .unset, .unset, .unset, .unset] [] := by first | (simp [entryFrame, mkF, argsToLocals, Value.category, maxLocals]; done) | rfl
set_option maxRecDepth 65536 in
set_option maxHeartbeats 40000000 in
theorem law_8 (l : Launch) (Z : State) (a0 : Array Value) (hw : HW a0 Z) (ws : List Jvm.Cond) (wRequestState_UNKNOWN : Addr) (wRequestState_IN_PROGRESS : Addr) (wRequestState_REMOVED : Addr) (wRequestState_DONE : Addr) (wRequestState_FAILED : Addr) (wOptional_EMPTY : Addr) (wIntegerCache_cache : Addr) (zCOMPACT_STRINGS : Int32) (clC : Cell) (B : Base Z wRequestState_UNKNOWN wRequestState_IN_PROGRESS wRequestState_REMOVED wRequestState_DONE wRequestState_FAILED wOptional_EMPTY wIntegerCache_cache zCOMPACT_STRINGS clC) (i0 : Int32) (i1 : Int32) (i2 : Int32) (h0 : Heap) (n0 : Nat) (O0 : Old Z n0 h0) (pin0 : (own_b (i0 &&& (1 : Int32))) = (1 : Int32)) (pin1 : (own_b (i0 &&& (2 : Int32))) = (1 : Int32)) (pin2 : (own_b (i0 &&& (4 : Int32))) = (1 : Int32)) (pin3 : (own_b (i0 &&& (8 : Int32))) = (0 : Int32)) (pin4 : (own_b (i0 &&& (16 : Int32))) = (0 : Int32)) (hc3 : ¬ ((255 : Int32) < ((i1 &&& (255 : Int32)).toUInt32.toUInt16.toUInt32.toInt32))) (hc4 : ¬ ((255 : Int32) < ((i2 &&& (255 : Int32)).toUInt32.toUInt16.toUInt32.toInt32))) :
    MetFree l x (head1 (Jvm.Cond.code x code maxLocals ret :: ws) room_1) (fun a U => a = #[(.int i0), (.int i1), (.int i2)] ∧ Z.Warmed39 U.vm ∧ U.heap = h0) (fun _ _ _ _ _ => True) (fun _ U o U' => ∃ v L, o = .returned v ∧ law_8Q Z wRequestState_UNKNOWN wRequestState_IN_PROGRESS wRequestState_REMOVED wRequestState_DONE wRequestState_FAILED wOptional_EMPTY wIntegerCache_cache zCOMPACT_STRINGS clC i0 i1 i2 h0 n0 v U'.heap L ∧ FrameEnd U o U' L room_1.cells room_1.slots) := by
  refine MetFree.of_bodySF (plainFor_of_name pn_com_example_agave_agave_store_RequestStateOfPinLaw) hisR ?_
  intro p e s m args below meth c s₁ Bd hml0 hP hK
  obtain ⟨rfl, hZ, hh⟩ := hP
  have hx := Bd.exec
  have hby := Bd.bytes
  have hml : c.maxLocals = 19 := hml0
  have hown : s.vm.findClass "com/example/agave/agave/store/RequestStateOfPinLaw" = some m.cls := findClass_of_methodNamed Bd.named
  have hnm := (name_of_methodNamed Bd.named Bd.method).1
  have X0 : Stand p l e room_1 s m #[(.int i0), (.int i1), (.int i2)] below meth c s₁ [] 0 0 := Stand.of_body Bd
  have e0 : s₁.heap = h0 := by rw [← hh, Bd.state]; rfl
  have N0 := Fr.nil n0
  have pre0 : ∀ t, Steps p.tables e below (s₁.setTop (mkF m 0 #[iv i0, iv i1, iv i2, .unset, .unset, .unset, .unset, .unset, .unset, .unset, .unset, .unset, .unset, .unset, .unset, .unset, .unset, .unset, .unset] [])) t → Steps p.tables e below (s₁.setTop (entryFrame m #[(.int i0), (.int i1), (.int i2)] maxLocals)) t := fun t k => castTop (law_8e m wRequestState_UNKNOWN wRequestState_IN_PROGRESS wRequestState_REMOVED wRequestState_DONE wRequestState_FAILED wOptional_EMPTY wIntegerCache_cache zCOMPACT_STRINGS clC i0 i1 i2) k
  obtain ⟨T1, L1, X1, e1, N1, st1⟩ := g0_1 i0 i1 i2 X0 hx hZ hw hby hml hown e0 O0 N0 (by decide) (by decide) (by decide) (by decide)
  obtain ⟨T5, h5, L5, b5_0, b5_1, b5_2, b5_3, k5_0, k5_1, X5, e5, N5, K5, lo5_1, lo5_2, lo5_3, lo5_4, nq5_5, nq5_6, nq5_7, nq5_8, nq5_9, nq5_10, f5_11, f5_12, f5_13, f5_14, f5_15, f5_16, f5_17, f5_18, f5_19, f5_20, st5⟩ := g0_2 i0 i1 i2 (1 : Int32) (1 : Int32) (1 : Int32) (0 : Int32) (0 : Int32) (own_b (i0 &&& (32 : Int32))) (own_b (i0 &&& (64 : Int32))) zCOMPACT_STRINGS X1 hx hZ hw hby hml hown e1 O0 N1 (by decide) (by decide) (by decide) (by decide) B.2.2.2.2.2.2.2.2.2.2.2.2.2.2.2.1 B.2.2.2.2.2.2.2.2.2.2.2.2.2.2.2.2.1 hc3 hc4
  have O_K5 : Old Z n0 h5 := O0.keep K5 all0
  have Kp_K5 : Keep h0 h5 [] := (Keep.refl h0 []).trans K5 all0
  obtain ⟨T6, L6, X6, e6, N6, st6⟩ := g0_3 i0 i1 i2 (1 : Int32) (1 : Int32) (1 : Int32) (0 : Int32) (own_b (i0 &&& (32 : Int32))) (own_b (i0 &&& (64 : Int32))) b5_0 b5_1 wOptional_EMPTY X5 hx hZ hw hby hml hown e5 O_K5 N5 (by decide) (by decide) (by decide) (by decide) B.2.2.2.2.2.2.2.2.2.2.1
  obtain ⟨T7, L7, X7, e7, N7, st7⟩ := g0_4 i0 i1 i2 (1 : Int32) (1 : Int32) (1 : Int32) (0 : Int32) (own_b (i0 &&& (32 : Int32))) (own_b (i0 &&& (64 : Int32))) b5_0 b5_1 wOptional_EMPTY wOptional_EMPTY X6 hx hZ hw hby hml hown e6 O_K5 N6 (by decide) (by decide) (by decide) (by decide) B.2.2.2.2.2.2.2.2.2.2.1
  obtain ⟨T8, h8, L8, b8_0, X8, e8, N8, K8, st8⟩ := m0_1 i0 i1 i2 (1 : Int32) (1 : Int32) (1 : Int32) (0 : Int32) (0 : Int32) (own_b (i0 &&& (32 : Int32))) (own_b (i0 &&& (64 : Int32))) b5_0 b5_1 wOptional_EMPTY wOptional_EMPTY wOptional_EMPTY wIntegerCache_cache clC X7 hx hZ hw hby hml hown e7 O_K5 N7 (by decide) (by decide) (by decide) (by decide) B.2.2.2.2.2.2.2.2.2.2.1 B.2.2.2.2.2.2.2.2.2.2.1 B.2.2.2.2.2.2.2.2.2.2.2.2.1 B.2.2.2.2.2.2.2.2.2.2.2.2.2.1 B.2.2.2.2.2.2.2.2.2.2.2.2.2.2.2.2.2.2.2.2.2.2.2.2.2.2.2.2.2.1 B.2.2.2.2.2.2.2.2.2.2.2.2.2.2.2.2.2.2.2.2.2.2.2.2.2.2.2.2.2.2.1 B.2.2.2.2.2.2.2.2.2.2.2.2.2.2.2.2.2.2.2.2.2.2.2.2.2.2.2.2.2.2.2
  have O_K8 : Old Z n0 h8 := O_K5.keep K8 all0
  have Kp_K8 : Keep h0 h8 [] := Kp_K5.trans K8 all0
  obtain ⟨T9, h9, L9, b9_0, b9_1, X9, e9, N9, K9, lo9_1, lo9_2, nq9_3, f9_4, f9_5, f9_6, f9_7, f9_8, f9_9, f9_10, f9_11, st9⟩ := g0_10 i0 i1 i2 (1 : Int32) (1 : Int32) (0 : Int32) (0 : Int32) (own_b (i0 &&& (32 : Int32))) (own_b (i0 &&& (64 : Int32))) b5_0 b5_1 wOptional_EMPTY wOptional_EMPTY b8_0 wOptional_EMPTY X8 hx hZ hw hby hml hown e8 O_K8 N8 (by decide) (by decide) (by decide) (by decide) B.2.2.2.2.2.2.2.2.2.2.1
  have O_K9 : Old Z n0 h9 := O_K8.keep K9 all0
  have Kp_K9 : Keep h0 h9 [] := Kp_K8.trans K9 all0
  obtain ⟨T10, h10, L10, b10_0, b10_1, X10, e10, N10, K10, lo10_1, lo10_2, nq10_3, f10_4, f10_5, f10_6, f10_7, f10_8, f10_9, f10_10, st10⟩ := g0_13 i0 i1 i2 (1 : Int32) (1 : Int32) (0 : Int32) (0 : Int32) (own_b (i0 &&& (32 : Int32))) (own_b (i0 &&& (64 : Int32))) b5_0 b5_1 wOptional_EMPTY wOptional_EMPTY b8_0 b9_0 wOptional_EMPTY X9 hx hZ hw hby hml hown e9 O_K9 N9 (by decide) (by decide) (by decide) (by decide) B.2.2.2.2.2.2.2.2.2.2.1
  have O_K10 : Old Z n0 h10 := O_K9.keep K10 all0
  have Kp_K10 : Keep h0 h10 [] := Kp_K9.trans K10 all0
  have f11 := (f9_4.keep K10)
  have f12 := (f9_5.keep K10 nin0)
  have f13 := (f9_6.keep K10)
  have f14 := (f9_10.keep K10 nin0)
  have f15 := (f9_9.keep K10 nin0)
  obtain ⟨T16, L16, X16, e16, N16, st16⟩ := g0_11 i0 i1 i2 (1 : Int32) (1 : Int32) (own_b (i0 &&& (32 : Int32))) (own_b (i0 &&& (64 : Int32))) b5_0 b5_1 wOptional_EMPTY wOptional_EMPTY b8_0 b9_0 b10_0 b9_1 wOptional_EMPTY wRequestState_IN_PROGRESS X10 hx hZ hw hby hml hown e10 O_K10 N10 (by decide) (by decide) (by decide) (by decide) f11 f12 f13 f14 B.2.2.2.2.2.2.2.2.2.2.2.1 B.2.2.2.2.2.2.2.2.2.2.2.2.2.2.2.2.2.1 f15 B.2.2.1
  obtain ⟨fs, hr, hrun, hended, hW, hsame⟩ := X16.leave (v := some (.int (1 : Int32))) (fun h => by rw [Bd.returns] at h; cases h)
  refine ⟨_, _, pre0 _ ?_, hrun, hended, _, _, rfl, ?_, ⟨_, rfl⟩, hW, hsame.mono (by decide) (by decide)⟩
  · refine st1 _ ?_
    show St p e below T1 m 94 #[iv i0, iv i1, iv i2, iv (own_b (i0 &&& (1 : Int32))), iv (own_b (i0 &&& (2 : Int32))), iv (own_b (i0 &&& (4 : Int32))), iv (own_b (i0 &&& (8 : Int32))), iv (own_b (i0 &&& (16 : Int32))), iv (own_b (i0 &&& (32 : Int32))), iv (own_b (i0 &&& (64 : Int32))), .unset, .unset, .unset, .unset, .unset, .unset, .unset, .unset, .unset] [] _
    rw [pin0]
    rw [pin1]
    rw [pin2]
    rw [pin3]
    rw [pin4]
    refine st5 _ ?_
    refine st6 _ ?_
    refine st7 _ ?_
    refine st8 _ ?_
    refine st9 _ ?_
    refine st10 _ ?_
    refine st16 _ ?_
    show St p e below T16 m 320 #[iv i0, iv i1, iv i2, iv (1 : Int32), iv (1 : Int32), iv (1 : Int32), iv (0 : Int32), iv (0 : Int32), iv (own_b (i0 &&& (32 : Int32))), iv (own_b (i0 &&& (64 : Int32))), rv b5_0, rv b5_1, rv wOptional_EMPTY, rv wOptional_EMPTY, rv b8_0, rv b9_0, rv b10_0, rv wRequestState_IN_PROGRESS, rv wRequestState_IN_PROGRESS] [(.int (1 : Int32))] _
    exact retN X16 hx (t := .boolean) Bd.returns (by simp) (hb hby at_320) hr
  · show law_8Q Z wRequestState_UNKNOWN wRequestState_IN_PROGRESS wRequestState_REMOVED wRequestState_DONE wRequestState_FAILED wOptional_EMPTY wIntegerCache_cache zCOMPACT_STRINGS clC i0 i1 i2 h0 n0 _ T16.heap _
    rw [e16]
    exact ⟨rfl, N16⟩
set_option maxRecDepth 65536 in
set_option maxHeartbeats 40000000 in
theorem g0_15 {p : Program} {l : Launch} {e : Env} {R : Room} {s : State} {m : MethodId} {args : Array Value} {below : List Frame} {meth : Method} {c : Code} {T0 : State} {locs : List Loc} {cells slots : Nat} {Z : State} {a0 : Array Value} {h0 : Heap} {n0 : Nat} (p1 : Int32) (p2 : Int32) (p3 : Int32) (p4 : Int32) (p5 : Int32) (p6 : Int32) (p7 : Int32) (p8 : Int32) (p9 : Int32) (a10 : Addr) (a11 : Addr) (a12 : Addr)
    (X0 : Stand p l e R s m args below meth c T0 locs cells slots) (hx : p.tables.exec = Jvm.exec) (hZ : Z.Warmed39 s.vm) (hw : HW a0 Z) (hby : c.code = code) (hml : c.maxLocals = 19) (hown : s.vm.findClass "com/example/agave/agave/store/RequestStateOfPinLaw" = some m.cls) (e0 : T0.heap = h0) (O0 : Old Z n0 h0) (N0 : Fr n0 locs) (rc : cells + 1 ≤ R.cells) (rs : slots + 1 ≤ R.slots) (rf : 3 ≤ R.frames) (rl : 38 ≤ R.locals) (H13 : Sta Z Z.heap "java/util/Optional" "EMPTY" "Ljava/util/Optional;" (.ref a12)) :
    ∃ (T' : State) (h' : Heap) (L' : List Loc) (b15_0 : Addr), Stand p l e R s m args below meth c T' L' (cells + 1) (slots + 1) ∧ T'.heap = h' ∧ Fr n0 L' ∧ Keep h0 h' [] ∧ h0.size ≤ b15_0 ∧ Exa Z h' b15_0 "java/util/Optional" ∧ Fld Z h' b15_0 "java/util/Optional" "value" "Ljava/lang/Object;" (.ref a10) ∧
      ∀ target, St p e below T' m 133 #[iv p1, iv p2, iv p3, iv p4, iv p5, iv p6, iv (1 : Int32), iv p7, iv p8, iv p9, rv a10, rv a11, rv b15_0, .unset, .unset, .unset, .unset, .unset, .unset] [] target → St p e below T0 m 116 #[iv p1, iv p2, iv p3, iv p4, iv p5, iv p6, iv (1 : Int32), iv p7, iv p8, iv p9, rv a10, rv a11, .unset, .unset, .unset, .unset, .unset, .unset, .unset] [] target := by
  obtain ⟨_, _, ⟨T14, L14, k14, n14⟩, -, X14, ⟨Lc14, hQ14, l14, y14, z14⟩, st14⟩ := Jvm.LawKit.callS X0 hx (y := y5) hown (mvT hZ (ow hw 26 rfl)) (mvT hZ (ow hw 27 rfl)) (mvT hZ (ow hw 28 rfl)) (mvT hZ (ow hw 29 rfl)) (by decide) (backOf (W := 0) (r5_1 l Z a0 hw [] a12 h0 n0 O0 H13) hZ (ow hw 29 rfl) (ow hw 28 rfl) (by show 0 + 1 ≤ R.frames; omega) (by show 0 + (1 + 11) + 0 ≤ R.locals; omega)) (g := (mkF m 116 #[iv p1, iv p2, iv p3, iv p4, iv p5, iv p6, iv (1 : Int32), iv p7, iv p8, iv p9, rv a10, rv a11, .unset, .unset, .unset, .unset, .unset, .unset, .unset] [])) rfl (by rw [hml]; rfl) (argsL := []) (rest := []) (lenOf pd___Ljava_util_Optional_ rfl) rfl (by show 2 * 0 + _ ≤ _; exact Nat.le_of_eq rfl) (hb hby at_116) (fun _ _ => ⟨rfl, e0, (by show cells + 0 + 0 ≤ R.cells; omega), (by show slots + 0 + 0 ≤ R.slots; omega)⟩)
  dsimp only [Pt.U, Pt.locs, Pt.cells, Pt.slots] at X14 l14 y14 z14 st14 hQ14
  subst l14
  rw [y14, z14] at X14
  obtain ⟨rfl, N14q, e14⟩ := hQ14
  have N14 := Fr.app N0 N14q
  replace X14 : Stand p l e R _ m args below meth c T14 _ (cells + 0) (slots + 0) := X14
  obtain ⟨_, _, ⟨T15, L15, k15, n15⟩, -, X15, ⟨Lc15, hQ15, l15, y15, z15⟩, st15⟩ := Jvm.LawKit.callS X14 hx (y := y9) hown (mvT hZ (ow hw 72 rfl)) (mvT hZ (ow hw 73 rfl)) (mvT hZ (ow hw 28 rfl)) (mvT hZ (ow hw 74 rfl)) (by decide) (backOf (W := 0) (r9_1 l Z a0 hw [] a10 h0 n0 O0) hZ (ow hw 74 rfl) (ow hw 28 rfl) (by show 2 + 1 ≤ R.frames; omega) (by show 0 + (1 + 11) + 26 ≤ R.locals; omega)) (g := (mkF m 128 #[iv p1, iv p2, iv p3, iv p4, iv p5, iv p6, iv (1 : Int32), iv p7, iv p8, iv p9, rv a10, rv a11, rv a12, .unset, .unset, .unset, .unset, .unset, .unset] [(.ref a10)])) rfl (by rw [hml]; rfl) (argsL := [(.ref a10)]) (rest := []) (lenOf pd__Ljava_lang_Object__Ljava_util_Optional_ rfl) rfl (by show 2 * 0 + _ ≤ _; exact Nat.le_of_eq rfl) (hb hby at_128) (fun _ _ => ⟨rfl, e14, (by show cells + 0 + 1 ≤ R.cells; omega), (by show slots + 0 + 1 ≤ R.slots; omega)⟩)
  dsimp only [Pt.U, Pt.locs, Pt.cells, Pt.slots] at X15 l15 y15 z15 st15 hQ15
  subst l15
  rw [y15, z15] at X15
  obtain ⟨b15_0, rfl, N15q, K15, lo15_1, f15_2, f15_3⟩ := hQ15
  have N15 := Fr.app N14 N15q
  have O_K15 : Old Z n0 T15.heap := O0.keep K15 all0
  have Kp_K15 : Keep h0 T15.heap [] := (Keep.refl h0 []).trans K15 all0
  replace X15 : Stand p l e R _ m args below meth c T15 _ (cells + 1) (slots + 1) := X15
  have z16 : h0.size ≤ b15_0 := Nat.le_trans (Keep.refl h0 []).1 lo15_1
  refine ⟨T15, _, _, b15_0, X15.more (by omega) (by omega), rfl, N15, Kp_K15, z16, f15_2, f15_3, fun target kt => ?_⟩
  show St p e below T0 m 116 #[iv p1, iv p2, iv p3, iv p4, iv p5, iv p6, iv (1 : Int32), iv p7, iv p8, iv p9, rv a10, rv a11, .unset, .unset, .unset, .unset, .unset, .unset, .unset] [] _
  refine st14 _ ?_
  show St p e below T14 m 119 #[iv p1, iv p2, iv p3, iv p4, iv p5, iv p6, iv (1 : Int32), iv p7, iv p8, iv p9, rv a10, rv a11, .unset, .unset, .unset, .unset, .unset, .unset, .unset] [(.ref a12)] _
  refine XS.astore X14.here hx rfl (hb hby at_119) rfl rfl (l' := #[iv p1, iv p2, iv p3, iv p4, iv p5, iv p6, iv (1 : Int32), iv p7, iv p8, iv p9, rv a10, rv a11, rv a12, .unset, .unset, .unset, .unset, .unset, .unset]) rfl ?_
  show St p e below T14 m 121 #[iv p1, iv p2, iv p3, iv p4, iv p5, iv p6, iv (1 : Int32), iv p7, iv p8, iv p9, rv a10, rv a11, rv a12, .unset, .unset, .unset, .unset, .unset, .unset] [] _
  refine XS.iload X14.here hx rfl (hb hby at_121) rfl ?_
  show St p e below T14 m 123 #[iv p1, iv p2, iv p3, iv p4, iv p5, iv p6, iv (1 : Int32), iv p7, iv p8, iv p9, rv a10, rv a11, rv a12, .unset, .unset, .unset, .unset, .unset, .unset] [(.int (1 : Int32))] _
  refine XS.ifNo X14.here hx rfl (hb hby at_123) rfl ((if0 _ _).trans (feq (by decide : ¬ ((1 : Int32) = (0 : Int32)))).1) ?_
  show St p e below T14 m 126 #[iv p1, iv p2, iv p3, iv p4, iv p5, iv p6, iv (1 : Int32), iv p7, iv p8, iv p9, rv a10, rv a11, rv a12, .unset, .unset, .unset, .unset, .unset, .unset] [] _
  refine XS.aload X14.here hx rfl (hb hby at_126) rfl rfl ?_
  show St p e below T14 m 128 #[iv p1, iv p2, iv p3, iv p4, iv p5, iv p6, iv (1 : Int32), iv p7, iv p8, iv p9, rv a10, rv a11, rv a12, .unset, .unset, .unset, .unset, .unset, .unset] [(.ref a10)] _
  refine st15 _ ?_
  show St p e below T15 m 131 #[iv p1, iv p2, iv p3, iv p4, iv p5, iv p6, iv (1 : Int32), iv p7, iv p8, iv p9, rv a10, rv a11, rv a12, .unset, .unset, .unset, .unset, .unset, .unset] [(.ref b15_0)] _
  refine XS.astore X15.here hx rfl (hb hby at_131) rfl rfl (l' := #[iv p1, iv p2, iv p3, iv p4, iv p5, iv p6, iv (1 : Int32), iv p7, iv p8, iv p9, rv a10, rv a11, rv b15_0, .unset, .unset, .unset, .unset, .unset, .unset]) rfl ?_
  exact kt
def law_9Q (Z : State) (wRequestState_UNKNOWN : Addr) (wRequestState_IN_PROGRESS : Addr) (wRequestState_REMOVED : Addr) (wRequestState_DONE : Addr) (wRequestState_FAILED : Addr) (wOptional_EMPTY : Addr) (wIntegerCache_cache : Addr) (zCOMPACT_STRINGS : Int32) (clC : Cell) (i0 : Int32) (i1 : Int32) (i2 : Int32) (h0 : Heap) (n0 : Nat) (v : Option Value) (h : Heap) (L : List Loc) : Prop := v = some (.int (1 : Int32)) ∧ Fr n0 L
theorem law_9e (m : MethodId) (wRequestState_UNKNOWN : Addr) (wRequestState_IN_PROGRESS : Addr) (wRequestState_REMOVED : Addr) (wRequestState_DONE : Addr) (wRequestState_FAILED : Addr) (wOptional_EMPTY : Addr) (wIntegerCache_cache : Addr) (zCOMPACT_STRINGS : Int32) (clC : Cell) (i0 : Int32) (i1 : Int32) (i2 : Int32) : entryFrame m #[(.int i0), (.int i1), (.int i2)] maxLocals = mkF m 0 #[iv i0, iv i1, iv i2, .unset, .unset, .unset, .unset, .unset, .unset, .unset, .unset, .unset, .unset, .unset, .unset, .unset, .unset, .unset, .unset] [] := by first | (simp [entryFrame, mkF, argsToLocals, Value.category, maxLocals]; done) | rfl
set_option maxRecDepth 65536 in
set_option maxHeartbeats 40000000 in
theorem law_9 (l : Launch) (Z : State) (a0 : Array Value) (hw : HW a0 Z) (ws : List Jvm.Cond) (wRequestState_UNKNOWN : Addr) (wRequestState_IN_PROGRESS : Addr) (wRequestState_REMOVED : Addr) (wRequestState_DONE : Addr) (wRequestState_FAILED : Addr) (wOptional_EMPTY : Addr) (wIntegerCache_cache : Addr) (zCOMPACT_STRINGS : Int32) (clC : Cell) (B : Base Z wRequestState_UNKNOWN wRequestState_IN_PROGRESS wRequestState_REMOVED wRequestState_DONE wRequestState_FAILED wOptional_EMPTY wIntegerCache_cache zCOMPACT_STRINGS clC) (i0 : Int32) (i1 : Int32) (i2 : Int32) (h0 : Heap) (n0 : Nat) (O0 : Old Z n0 h0) (pin0 : (own_b (i0 &&& (1 : Int32))) = (0 : Int32)) (pin1 : (own_b (i0 &&& (2 : Int32))) = (0 : Int32)) (pin2 : (own_b (i0 &&& (4 : Int32))) = (0 : Int32)) (pin3 : (own_b (i0 &&& (8 : Int32))) = (1 : Int32)) (pin4 : (own_b (i0 &&& (16 : Int32))) = (0 : Int32)) (hc3 : ¬ ((255 : Int32) < ((i1 &&& (255 : Int32)).toUInt32.toUInt16.toUInt32.toInt32))) (hc4 : ¬ ((255 : Int32) < ((i2 &&& (255 : Int32)).toUInt32.toUInt16.toUInt32.toInt32))) :
    MetFree l x (head1 (Jvm.Cond.code x code maxLocals ret :: ws) room_1) (fun a U => a = #[(.int i0), (.int i1), (.int i2)] ∧ Z.Warmed39 U.vm ∧ U.heap = h0) (fun _ _ _ _ _ => True) (fun _ U o U' => ∃ v L, o = .returned v ∧ law_9Q Z wRequestState_UNKNOWN wRequestState_IN_PROGRESS wRequestState_REMOVED wRequestState_DONE wRequestState_FAILED wOptional_EMPTY wIntegerCache_cache zCOMPACT_STRINGS clC i0 i1 i2 h0 n0 v U'.heap L ∧ FrameEnd U o U' L room_1.cells room_1.slots) := by
  refine MetFree.of_bodySF (plainFor_of_name pn_com_example_agave_agave_store_RequestStateOfPinLaw) hisR ?_
  intro p e s m args below meth c s₁ Bd hml0 hP hK
  obtain ⟨rfl, hZ, hh⟩ := hP
  have hx := Bd.exec
  have hby := Bd.bytes
  have hml : c.maxLocals = 19 := hml0
  have hown : s.vm.findClass "com/example/agave/agave/store/RequestStateOfPinLaw" = some m.cls := findClass_of_methodNamed Bd.named
  have hnm := (name_of_methodNamed Bd.named Bd.method).1
  have X0 : Stand p l e room_1 s m #[(.int i0), (.int i1), (.int i2)] below meth c s₁ [] 0 0 := Stand.of_body Bd
  have e0 : s₁.heap = h0 := by rw [← hh, Bd.state]; rfl
  have N0 := Fr.nil n0
  have pre0 : ∀ t, Steps p.tables e below (s₁.setTop (mkF m 0 #[iv i0, iv i1, iv i2, .unset, .unset, .unset, .unset, .unset, .unset, .unset, .unset, .unset, .unset, .unset, .unset, .unset, .unset, .unset, .unset] [])) t → Steps p.tables e below (s₁.setTop (entryFrame m #[(.int i0), (.int i1), (.int i2)] maxLocals)) t := fun t k => castTop (law_9e m wRequestState_UNKNOWN wRequestState_IN_PROGRESS wRequestState_REMOVED wRequestState_DONE wRequestState_FAILED wOptional_EMPTY wIntegerCache_cache zCOMPACT_STRINGS clC i0 i1 i2) k
  obtain ⟨T1, L1, X1, e1, N1, st1⟩ := g0_1 i0 i1 i2 X0 hx hZ hw hby hml hown e0 O0 N0 (by decide) (by decide) (by decide) (by decide)
  obtain ⟨T5, h5, L5, b5_0, b5_1, b5_2, b5_3, k5_0, k5_1, X5, e5, N5, K5, lo5_1, lo5_2, lo5_3, lo5_4, nq5_5, nq5_6, nq5_7, nq5_8, nq5_9, nq5_10, f5_11, f5_12, f5_13, f5_14, f5_15, f5_16, f5_17, f5_18, f5_19, f5_20, st5⟩ := g0_2 i0 i1 i2 (0 : Int32) (0 : Int32) (0 : Int32) (1 : Int32) (0 : Int32) (own_b (i0 &&& (32 : Int32))) (own_b (i0 &&& (64 : Int32))) zCOMPACT_STRINGS X1 hx hZ hw hby hml hown e1 O0 N1 (by decide) (by decide) (by decide) (by decide) B.2.2.2.2.2.2.2.2.2.2.2.2.2.2.2.1 B.2.2.2.2.2.2.2.2.2.2.2.2.2.2.2.2.1 hc3 hc4
  have O_K5 : Old Z n0 h5 := O0.keep K5 all0
  have Kp_K5 : Keep h0 h5 [] := (Keep.refl h0 []).trans K5 all0
  obtain ⟨T6, h6, L6, b6_0, X6, e6, N6, K6, lo6_1, f6_2, f6_3, st6⟩ := g0_15 i0 i1 i2 (0 : Int32) (0 : Int32) (0 : Int32) (0 : Int32) (own_b (i0 &&& (32 : Int32))) (own_b (i0 &&& (64 : Int32))) b5_0 b5_1 wOptional_EMPTY X5 hx hZ hw hby hml hown e5 O_K5 N5 (by decide) (by decide) (by decide) (by decide) B.2.2.2.2.2.2.2.2.2.2.1
  have O_K6 : Old Z n0 h6 := O_K5.keep K6 all0
  have Kp_K6 : Keep h0 h6 [] := Kp_K5.trans K6 all0
  obtain ⟨T7, L7, X7, e7, N7, st7⟩ := g0_4 i0 i1 i2 (0 : Int32) (0 : Int32) (0 : Int32) (1 : Int32) (own_b (i0 &&& (32 : Int32))) (own_b (i0 &&& (64 : Int32))) b5_0 b5_1 b6_0 wOptional_EMPTY X6 hx hZ hw hby hml hown e6 O_K6 N6 (by decide) (by decide) (by decide) (by decide) B.2.2.2.2.2.2.2.2.2.2.1
  obtain ⟨T8, h8, L8, b8_0, X8, e8, N8, K8, st8⟩ := m0_1 i0 i1 i2 (0 : Int32) (0 : Int32) (0 : Int32) (1 : Int32) (0 : Int32) (own_b (i0 &&& (32 : Int32))) (own_b (i0 &&& (64 : Int32))) b5_0 b5_1 b6_0 wOptional_EMPTY wOptional_EMPTY wIntegerCache_cache clC X7 hx hZ hw hby hml hown e7 O_K6 N7 (by decide) (by decide) (by decide) (by decide) B.2.2.2.2.2.2.2.2.2.2.1 B.2.2.2.2.2.2.2.2.2.2.1 B.2.2.2.2.2.2.2.2.2.2.2.2.1 B.2.2.2.2.2.2.2.2.2.2.2.2.2.1 B.2.2.2.2.2.2.2.2.2.2.2.2.2.2.2.2.2.2.2.2.2.2.2.2.2.2.2.2.2.1 B.2.2.2.2.2.2.2.2.2.2.2.2.2.2.2.2.2.2.2.2.2.2.2.2.2.2.2.2.2.2.1 B.2.2.2.2.2.2.2.2.2.2.2.2.2.2.2.2.2.2.2.2.2.2.2.2.2.2.2.2.2.2.2
  have O_K8 : Old Z n0 h8 := O_K6.keep K8 all0
  have Kp_K8 : Keep h0 h8 [] := Kp_K6.trans K8 all0
  obtain ⟨T9, L9, X9, e9, N9, st9⟩ := g0_7 i0 i1 i2 (0 : Int32) (0 : Int32) (1 : Int32) (0 : Int32) (own_b (i0 &&& (32 : Int32))) (own_b (i0 &&& (64 : Int32))) b5_0 b5_1 b6_0 wOptional_EMPTY b8_0 wOptional_EMPTY X8 hx hZ hw hby hml hown e8 O_K8 N8 (by decide) (by decide) (by decide) (by decide) B.2.2.2.2.2.2.2.2.2.2.1
  obtain ⟨T10, L10, X10, e10, N10, st10⟩ := g0_8 i0 i1 i2 (0 : Int32) (0 : Int32) (1 : Int32) (0 : Int32) (own_b (i0 &&& (32 : Int32))) (own_b (i0 &&& (64 : Int32))) b5_0 b5_1 b6_0 wOptional_EMPTY b8_0 wOptional_EMPTY wOptional_EMPTY X9 hx hZ hw hby hml hown e9 O_K8 N9 (by decide) (by decide) (by decide) (by decide) B.2.2.2.2.2.2.2.2.2.2.1
  obtain ⟨T11, L11, X11, e11, N11, st11⟩ := g0_9 i0 i1 i2 (1 : Int32) (0 : Int32) (own_b (i0 &&& (32 : Int32))) (own_b (i0 &&& (64 : Int32))) b5_0 b5_1 b6_0 wOptional_EMPTY b8_0 wOptional_EMPTY wRequestState_UNKNOWN X10 hx hZ hw hby hml hown e10 O_K8 N10 (by decide) (by decide) (by decide) (by decide) B.2.2.2.2.2.2.2.2.2.2.2.1 B.2.2.2.2.2.2.2.2.2.2.2.2.2.2.2.2.2.1 B.1
  obtain ⟨fs, hr, hrun, hended, hW, hsame⟩ := X11.leave (v := some (.int (1 : Int32))) (fun h => by rw [Bd.returns] at h; cases h)
  refine ⟨_, _, pre0 _ ?_, hrun, hended, _, _, rfl, ?_, ⟨_, rfl⟩, hW, hsame.mono (by decide) (by decide)⟩
  · refine st1 _ ?_
    show St p e below T1 m 94 #[iv i0, iv i1, iv i2, iv (own_b (i0 &&& (1 : Int32))), iv (own_b (i0 &&& (2 : Int32))), iv (own_b (i0 &&& (4 : Int32))), iv (own_b (i0 &&& (8 : Int32))), iv (own_b (i0 &&& (16 : Int32))), iv (own_b (i0 &&& (32 : Int32))), iv (own_b (i0 &&& (64 : Int32))), .unset, .unset, .unset, .unset, .unset, .unset, .unset, .unset, .unset] [] _
    rw [pin0]
    rw [pin1]
    rw [pin2]
    rw [pin3]
    rw [pin4]
    refine st5 _ ?_
    refine st6 _ ?_
    refine st7 _ ?_
    refine st8 _ ?_
    refine st9 _ ?_
    refine st10 _ ?_
    refine st11 _ ?_
    show St p e below T11 m 320 #[iv i0, iv i1, iv i2, iv (0 : Int32), iv (0 : Int32), iv (0 : Int32), iv (1 : Int32), iv (0 : Int32), iv (own_b (i0 &&& (32 : Int32))), iv (own_b (i0 &&& (64 : Int32))), rv b5_0, rv b5_1, rv b6_0, rv wOptional_EMPTY, rv b8_0, rv wOptional_EMPTY, rv wOptional_EMPTY, rv wRequestState_UNKNOWN, rv wRequestState_UNKNOWN] [(.int (1 : Int32))] _
    exact retN X11 hx (t := .boolean) Bd.returns (by simp) (hb hby at_320) hr
  · show law_9Q Z wRequestState_UNKNOWN wRequestState_IN_PROGRESS wRequestState_REMOVED wRequestState_DONE wRequestState_FAILED wOptional_EMPTY wIntegerCache_cache zCOMPACT_STRINGS clC i0 i1 i2 h0 n0 _ T11.heap _
    rw [e11]
    exact ⟨rfl, N11⟩
theorem d12_99 : decode prog_13_method_4_code 99 = .ok (.getstatic 3, 3) := by decide +kernel
theorem d12_102 : decode prog_13_method_4_code 102 = .ok (.astore_n 3, 1) := by decide +kernel
def r12_5Q (Z : State) (a1 : Addr) (p2 : Int32) (a3 : Addr) (a5 : Addr) (a13 : Addr) (a21 : Addr) (a25 : Addr) (a28 : Addr) (h0 : Heap) (n0 : Nat) (v : Option Value) (h : Heap) (L : List Loc) : Prop := v = some (.ref a28) ∧ Fr n0 L ∧ h = h0
theorem r12_5e (m : MethodId) (a1 : Addr) (p2 : Int32) (a3 : Addr) (a5 : Addr) (a13 : Addr) (a21 : Addr) (a25 : Addr) (a28 : Addr) : entryFrame m #[(.ref a1), (.int p2), (.ref a3)] 4 = mkF m 0 #[rv a1, iv p2, rv a3, .unset] [] := by first | (simp [entryFrame, mkF, argsToLocals, Value.category]; done) | rfl
set_option maxRecDepth 65536 in
set_option maxHeartbeats 40000000 in
theorem r12_5 (l : Launch) (Z : State) (a0 : Array Value) (hw : HW a0 Z) (ws : List Jvm.Cond) (a1 : Addr) (p2 : Int32) (a3 : Addr) (a5 : Addr) (a13 : Addr) (a21 : Addr) (a25 : Addr) (a28 : Addr) (h0 : Heap) (n0 : Nat) (O0 : Old Z n0 h0) (H4 : Exa Z h0 a1 "java/util/Optional") (H6 : Fld Z h0 a1 "java/util/Optional" "value" "Ljava/lang/Object;" (.ref a5)) (H12 : Exa Z h0 a5 "com/example/agave/agave/store/RequestStore$StoredRequest") (H14 : Fld Z h0 a5 "com/example/agave/agave/store/RequestStore$StoredRequest" "failure" "Ljava/util/Optional;" (.ref a13)) (H16 : Exa Z Z.heap a13 "java/util/Optional") (H17 : Fld Z Z.heap a13 "java/util/Optional" "value" "Ljava/lang/Object;" .null) (H22 : Fld Z h0 a5 "com/example/agave/agave/store/RequestStore$StoredRequest" "result" "Ljava/util/Optional;" (.ref a21)) (H24 : Exa Z h0 a21 "java/util/Optional") (H26 : Fld Z h0 a21 "java/util/Optional" "value" "Ljava/lang/Object;" (.ref a25)) (H29 : Sta Z Z.heap "com/example/agave/agave/store/RequestState" "DONE" "Lcom/example/agave/agave/store/RequestState;" (.ref a28)) :
    MF l y12 prog_13_method_4_code 4 (some (.object "com/example/agave/agave/store/RequestState")) ws ({ frames := 1, cells := 0, slots := 0, locals := 12 } : Room) Z #[(.ref a1), (.int p2), (.ref a3)] h0 (r12_5Q Z a1 p2 a3 a5 a13 a21 a25 a28 h0 n0) := by
  refine MetFree.of_bodySF (plainFor_of_name pn_com_example_agave_agave_store_RequestState) hisR ?_
  intro p e s m args below meth c s₁ Bd hml0 hP hK
  obtain ⟨rfl, hZ, hh⟩ := hP
  have hx := Bd.exec
  have hby := Bd.bytes
  have hml : c.maxLocals = 4 := hml0
  have hown : s.vm.findClass "com/example/agave/agave/store/RequestState" = some m.cls := findClass_of_methodNamed Bd.named
  have hnm := (name_of_methodNamed Bd.named Bd.method).1
  have X0 : Stand p l e ({ frames := 1, cells := 0, slots := 0, locals := 12 } : Room) s m #[(.ref a1), (.int p2), (.ref a3)] below meth c s₁ [] 0 0 := Stand.of_body Bd
  have e0 : s₁.heap = h0 := by rw [← hh, Bd.state]; rfl
  have N0 := Fr.nil n0
  have pre0 : ∀ t, Steps p.tables e below (s₁.setTop (mkF m 0 #[rv a1, iv p2, rv a3, .unset] [])) t → Steps p.tables e below (s₁.setTop (entryFrame m #[(.ref a1), (.int p2), (.ref a3)] 4)) t := fun t k => castTop (r12_5e m a1 p2 a3 a5 a13 a21 a25 a28) k
  obtain ⟨cq7, kq7, q7a, q7b, q7c⟩ := isOf hZ e0 H4
  obtain ⟨_, _, ⟨T7, L7, k7, n7⟩, -, X7, ⟨Lc7, hQ7, l7, y7, z7⟩, st7⟩ := X0.virtualBack hx (y := y13) (z := y13) hown (mvT hZ (ow hw 35 rfl)) (mvT hZ (ow hw 36 rfl)) (notFace_of_selects (args := #[]) (mvT hZ (ow hw 38 rfl))) (mvT hZ (ow hw 38 rfl)) (mvT hZ (ow hw 37 rfl)) (by decide) (backOf (W := 0) (r13_2 l Z a0 hw [] a1 a5 h0 n0 O0 H6) hZ (ow hw 39 rfl) (ow hw 28 rfl) (by decide) (by decide)) q7a q7c (g := (mkF m 1 #[rv a1, iv p2, rv a3, .unset] [(.ref a1)])) rfl (by rw [hml]; rfl) (Steps.refl _) (argsL := []) (rest := []) (lenOf pd___Z rfl) rfl (by show 2 * 0 + _ ≤ _; exact Nat.le_of_eq rfl) (hb hby d12_1) (fun _ _ => ⟨rfl, e0, (by decide : 0 + 0 ≤ _), (by decide : 0 + 0 ≤ _)⟩)
  dsimp only [Pt.U, Pt.locs, Pt.cells, Pt.slots] at X7 l7 y7 z7 st7 hQ7
  subst l7 y7 z7
  obtain ⟨rfl, N7q, e7⟩ := hQ7
  have N7 := Fr.app N0 N7q
  obtain ⟨cq8, kq8, q8a, q8b, q8c⟩ := isOf hZ e7 H4
  obtain ⟨_, _, ⟨T8, L8, k8, n8⟩, -, X8, ⟨Lc8, hQ8, l8, y8, z8⟩, st8⟩ := X7.virtualBack hx (y := y13) (z := y13) hown (mvT hZ (ow hw 35 rfl)) (mvT hZ (ow hw 36 rfl)) (notFace_of_selects (args := #[]) (mvT hZ (ow hw 38 rfl))) (mvT hZ (ow hw 38 rfl)) (mvT hZ (ow hw 37 rfl)) (by decide) (backOf (W := 0) (r13_2 l Z a0 hw [] a1 a5 h0 n0 O0 H6) hZ (ow hw 39 rfl) (ow hw 28 rfl) (by decide) (by decide)) q8a q8c (g := (mkF m 19 #[rv a1, iv p2, rv a3, .unset] [(.ref a1)])) rfl (by rw [hml]; rfl) (Steps.refl _) (argsL := []) (rest := []) (lenOf pd___Z rfl) rfl (by show 2 * 0 + _ ≤ _; exact Nat.le_of_eq rfl) (hb hby d12_19) (fun _ _ => ⟨rfl, e7, (by decide : 0 + 0 ≤ _), (by decide : 0 + 0 ≤ _)⟩)
  dsimp only [Pt.U, Pt.locs, Pt.cells, Pt.slots] at X8 l8 y8 z8 st8 hQ8
  subst l8 y8 z8
  obtain ⟨rfl, N8q, e8⟩ := hQ8
  have N8 := Fr.app N7 N8q
  obtain ⟨cq9, kq9, q9a, q9b, q9c⟩ := isOf hZ e8 H4
  obtain ⟨_, _, ⟨T9, L9, k9, n9⟩, -, X9, ⟨Lc9, hQ9, l9, y9, z9⟩, st9⟩ := X8.virtualBack hx (y := y13) (z := y13) hown (mvT hZ (ow hw 35 rfl)) (mvT hZ (ow hw 36 rfl)) (notFace_of_selects (args := #[]) (mvT hZ (ow hw 38 rfl))) (mvT hZ (ow hw 38 rfl)) (mvT hZ (ow hw 37 rfl)) (by decide) (backOf (W := 0) (r13_2 l Z a0 hw [] a1 a5 h0 n0 O0 H6) hZ (ow hw 39 rfl) (ow hw 28 rfl) (by decide) (by decide)) q9a q9c (g := (mkF m 40 #[rv a1, iv p2, rv a3, .unset] [(.ref a1)])) rfl (by rw [hml]; rfl) (Steps.refl _) (argsL := []) (rest := []) (lenOf pd___Z rfl) rfl (by show 2 * 0 + _ ≤ _; exact Nat.le_of_eq rfl) (hb hby d12_40) (fun _ _ => ⟨rfl, e8, (by decide : 0 + 0 ≤ _), (by decide : 0 + 0 ≤ _)⟩)
  dsimp only [Pt.U, Pt.locs, Pt.cells, Pt.slots] at X9 l9 y9 z9 st9 hQ9
  subst l9 y9 z9
  obtain ⟨rfl, N9q, e9⟩ := hQ9
  have N9 := Fr.app N8 N9q
  obtain ⟨cq10, kq10, q10a, q10b, q10c⟩ := isOf hZ e9 H4
  obtain ⟨_, _, ⟨T10, L10, k10, n10⟩, -, X10, ⟨Lc10, hQ10, l10, y10, z10⟩, st10⟩ := X9.virtualBack hx (y := y17) (z := y17) hown (mvT hZ (ow hw 86 rfl)) (mvT hZ (ow hw 87 rfl)) (notFace_of_selects (args := #[]) (mvT hZ (ow hw 89 rfl))) (mvT hZ (ow hw 89 rfl)) (mvT hZ (ow hw 88 rfl)) (by decide) (backOf (W := 0) (r17_1 l Z a0 hw [] a1 a5 h0 n0 O0 H6) hZ (ow hw 90 rfl) (ow hw 28 rfl) (by decide) (by decide)) q10a q10c (g := (mkF m 54 #[rv a1, iv p2, rv a3, .unset] [(.ref a1)])) rfl (by rw [hml]; rfl) (Steps.refl _) (argsL := []) (rest := []) (lenOf pd___Ljava_lang_Object_ rfl) rfl (by show 2 * 0 + _ ≤ _; exact Nat.le_of_eq rfl) (hb hby d12_54) (fun _ _ => ⟨rfl, e9, (by decide : 0 + 0 ≤ _), (by decide : 0 + 0 ≤ _)⟩)
  dsimp only [Pt.U, Pt.locs, Pt.cells, Pt.slots] at X10 l10 y10 z10 st10 hQ10
  subst l10 y10 z10
  obtain ⟨rfl, N10q, e10⟩ := hQ10
  have N10 := Fr.app N9 N10q
  obtain ⟨T11, X11, e11, st11⟩ := castY X10 hx hZ hown (ow hw 91 rfl) e10 (Ins.self H12) (g := (mkF m 57 #[rv a1, iv p2, rv a3, .unset] [(.ref a5)])) rfl rfl (hb hby d12_57)
  obtain ⟨cq15, kq15, q15a, q15b, q15c⟩ := isOf hZ e11 H12
  obtain ⟨_, _, ⟨T15, L15, k15, n15⟩, -, X15, ⟨Lc15, hQ15, l15, y15, z15⟩, st15⟩ := X11.virtualBack hx (y := y18) (z := y18) hown (mvT hZ (ow hw 93 rfl)) (mvT hZ (ow hw 94 rfl)) (notFace_of_selects (args := #[]) (mvT hZ (ow hw 96 rfl))) (mvT hZ (ow hw 96 rfl)) (mvT hZ (ow hw 95 rfl)) (by decide) (backOf (W := 0) (r18_1 l Z a0 hw [] a5 a13 h0 n0 O0 H14) hZ (ow hw 97 rfl) (ow hw 52 rfl) (by decide) (by decide)) q15a q15c (g := (mkF m 60 #[rv a1, iv p2, rv a3, .unset] [(.ref a5)])) rfl (by rw [hml]; rfl) (Steps.refl _) (argsL := []) (rest := []) (lenOf pd___Ljava_util_Optional_ rfl) rfl (by show 2 * 0 + _ ≤ _; exact Nat.le_of_eq rfl) (hb hby d12_60) (fun _ _ => ⟨rfl, e11, (by decide : 0 + 0 ≤ _), (by decide : 0 + 0 ≤ _)⟩)
  dsimp only [Pt.U, Pt.locs, Pt.cells, Pt.slots] at X15 l15 y15 z15 st15 hQ15
  subst l15 y15 z15
  obtain ⟨rfl, N15q, e15⟩ := hQ15
  have N15 := Fr.app N10 N15q
  obtain ⟨cq18, kq18, q18a, q18b, q18c⟩ := isOf hZ e15 (H16.ext O0.2)
  obtain ⟨_, _, ⟨T18, L18, k18, n18⟩, -, X18, ⟨Lc18, hQ18, l18, y18, z18⟩, st18⟩ := X15.virtualBack hx (y := y14) (z := y14) hown (mvT hZ (ow hw 42 rfl)) (mvT hZ (ow hw 43 rfl)) (notFace_of_selects (args := #[]) (mvT hZ (ow hw 45 rfl))) (mvT hZ (ow hw 45 rfl)) (mvT hZ (ow hw 44 rfl)) (by decide) (backOf (W := 0) (r14_1 l Z a0 hw [] a13 h0 n0 O0 H17) hZ (ow hw 46 rfl) (ow hw 28 rfl) (by decide) (by decide)) q18a q18c (g := (mkF m 63 #[rv a1, iv p2, rv a3, .unset] [(.ref a13)])) rfl (by rw [hml]; rfl) (Steps.refl _) (argsL := []) (rest := []) (lenOf pd___Z rfl) rfl (by show 2 * 0 + _ ≤ _; exact Nat.le_of_eq rfl) (hb hby d12_63) (fun _ _ => ⟨rfl, e15, (by decide : 0 + 0 ≤ _), (by decide : 0 + 0 ≤ _)⟩)
  dsimp only [Pt.U, Pt.locs, Pt.cells, Pt.slots] at X18 l18 y18 z18 st18 hQ18
  subst l18 y18 z18
  obtain ⟨rfl, N18q, e18⟩ := hQ18
  have N18 := Fr.app N15 N18q
  obtain ⟨cq19, kq19, q19a, q19b, q19c⟩ := isOf hZ e18 H4
  obtain ⟨_, _, ⟨T19, L19, k19, n19⟩, -, X19, ⟨Lc19, hQ19, l19, y19, z19⟩, st19⟩ := X18.virtualBack hx (y := y17) (z := y17) hown (mvT hZ (ow hw 86 rfl)) (mvT hZ (ow hw 87 rfl)) (notFace_of_selects (args := #[]) (mvT hZ (ow hw 89 rfl))) (mvT hZ (ow hw 89 rfl)) (mvT hZ (ow hw 88 rfl)) (by decide) (backOf (W := 0) (r17_1 l Z a0 hw [] a1 a5 h0 n0 O0 H6) hZ (ow hw 90 rfl) (ow hw 28 rfl) (by decide) (by decide)) q19a q19c (g := (mkF m 77 #[rv a1, iv p2, rv a3, .unset] [(.ref a1)])) rfl (by rw [hml]; rfl) (Steps.refl _) (argsL := []) (rest := []) (lenOf pd___Ljava_lang_Object_ rfl) rfl (by show 2 * 0 + _ ≤ _; exact Nat.le_of_eq rfl) (hb hby d12_77) (fun _ _ => ⟨rfl, e18, (by decide : 0 + 0 ≤ _), (by decide : 0 + 0 ≤ _)⟩)
  dsimp only [Pt.U, Pt.locs, Pt.cells, Pt.slots] at X19 l19 y19 z19 st19 hQ19
  subst l19 y19 z19
  obtain ⟨rfl, N19q, e19⟩ := hQ19
  have N19 := Fr.app N18 N19q
  obtain ⟨T20, X20, e20, st20⟩ := castY X19 hx hZ hown (ow hw 91 rfl) e19 (Ins.self H12) (g := (mkF m 80 #[rv a1, iv p2, rv a3, .unset] [(.ref a5)])) rfl rfl (hb hby d12_80)
  obtain ⟨cq23, kq23, q23a, q23b, q23c⟩ := isOf hZ e20 H12
  obtain ⟨_, _, ⟨T23, L23, k23, n23⟩, -, X23, ⟨Lc23, hQ23, l23, y23, z23⟩, st23⟩ := X20.virtualBack hx (y := y19) (z := y19) hown (mvT hZ (ow hw 98 rfl)) (mvT hZ (ow hw 99 rfl)) (notFace_of_selects (args := #[]) (mvT hZ (ow hw 101 rfl))) (mvT hZ (ow hw 101 rfl)) (mvT hZ (ow hw 100 rfl)) (by decide) (backOf (W := 0) (r19_1 l Z a0 hw [] a5 a21 h0 n0 O0 H22) hZ (ow hw 102 rfl) (ow hw 52 rfl) (by decide) (by decide)) q23a q23c (g := (mkF m 83 #[rv a1, iv p2, rv a3, .unset] [(.ref a5)])) rfl (by rw [hml]; rfl) (Steps.refl _) (argsL := []) (rest := []) (lenOf pd___Ljava_util_Optional_ rfl) rfl (by show 2 * 0 + _ ≤ _; exact Nat.le_of_eq rfl) (hb hby d12_83) (fun _ _ => ⟨rfl, e20, (by decide : 0 + 0 ≤ _), (by decide : 0 + 0 ≤ _)⟩)
  dsimp only [Pt.U, Pt.locs, Pt.cells, Pt.slots] at X23 l23 y23 z23 st23 hQ23
  subst l23 y23 z23
  obtain ⟨rfl, N23q, e23⟩ := hQ23
  have N23 := Fr.app N19 N23q
  obtain ⟨cq27, kq27, q27a, q27b, q27c⟩ := isOf hZ e23 H24
  obtain ⟨_, _, ⟨T27, L27, k27, n27⟩, -, X27, ⟨Lc27, hQ27, l27, y27, z27⟩, st27⟩ := X23.virtualBack hx (y := y13) (z := y13) hown (mvT hZ (ow hw 35 rfl)) (mvT hZ (ow hw 36 rfl)) (notFace_of_selects (args := #[]) (mvT hZ (ow hw 38 rfl))) (mvT hZ (ow hw 38 rfl)) (mvT hZ (ow hw 37 rfl)) (by decide) (backOf (W := 0) (r13_2 l Z a0 hw [] a21 a25 h0 n0 O0 H26) hZ (ow hw 39 rfl) (ow hw 28 rfl) (by decide) (by decide)) q27a q27c (g := (mkF m 86 #[rv a1, iv p2, rv a3, .unset] [(.ref a21)])) rfl (by rw [hml]; rfl) (Steps.refl _) (argsL := []) (rest := []) (lenOf pd___Z rfl) rfl (by show 2 * 0 + _ ≤ _; exact Nat.le_of_eq rfl) (hb hby d12_86) (fun _ _ => ⟨rfl, e23, (by decide : 0 + 0 ≤ _), (by decide : 0 + 0 ≤ _)⟩)
  dsimp only [Pt.U, Pt.locs, Pt.cells, Pt.slots] at X27 l27 y27 z27 st27 hQ27
  subst l27 y27 z27
  obtain ⟨rfl, N27q, e27⟩ := hQ27
  have N27 := Fr.app N23 N27q
  obtain ⟨T30, X30, e30, st30⟩ := getS2 X27 hx hZ hown (host := "") (Or.inl (ow hw 124 rfl)) Via.refl e27 (H29.ext O0.2) (g := (mkF m 99 #[rv a1, iv p2, rv a3, .unset] [])) rfl (hb hby d12_99)
  obtain ⟨fs, hr, hrun, hended, hW, hsame⟩ := X30.leave (v := some (.ref a28)) (fun h => by rw [Bd.returns] at h; cases h)
  refine ⟨_, _, pre0 _ ?_, hrun, hended, _, _, rfl, ?_, ⟨_, rfl⟩, hW, hsame.mono (by decide) (by decide)⟩
  · show St p e below s₁ m 0 #[rv a1, iv p2, rv a3, .unset] [] _
    refine XS.aloadN X0.here hx rfl (hb hby d12_0) rfl rfl ?_
    show St p e below s₁ m 1 #[rv a1, iv p2, rv a3, .unset] [(.ref a1)] _
    refine st7.trans ?_
    show St p e below T7 m 4 #[rv a1, iv p2, rv a3, .unset] [(.int (0 : Int32))] _
    refine XS.ifYes X7.here hx rfl (pc0 := 4) (pc' := 18) rfl (hb hby d12_4) rfl ((if0 _ _).trans (teq (rfl : (0 : Int32) = (0 : Int32))).1) (by decide) (by decide) ?_
    show St p e below T7 m 18 #[rv a1, iv p2, rv a3, .unset] [] _
    refine XS.aloadN X7.here hx rfl (hb hby d12_18) rfl rfl ?_
    show St p e below T7 m 19 #[rv a1, iv p2, rv a3, .unset] [(.ref a1)] _
    refine st8.trans ?_
    show St p e below T8 m 22 #[rv a1, iv p2, rv a3, .unset] [(.int (0 : Int32))] _
    refine XS.ifYes X8.here hx rfl (pc0 := 22) (pc' := 39) rfl (hb hby d12_22) rfl ((if0 _ _).trans (teq (rfl : (0 : Int32) = (0 : Int32))).1) (by decide) (by decide) ?_
    show St p e below T8 m 39 #[rv a1, iv p2, rv a3, .unset] [] _
    refine XS.aloadN X8.here hx rfl (hb hby d12_39) rfl rfl ?_
    show St p e below T8 m 40 #[rv a1, iv p2, rv a3, .unset] [(.ref a1)] _
    refine st9.trans ?_
    show St p e below T9 m 43 #[rv a1, iv p2, rv a3, .unset] [(.int (0 : Int32))] _
    refine XS.ifYes X9.here hx rfl (pc0 := 43) (pc' := 53) rfl (hb hby d12_43) rfl ((if0 _ _).trans (teq (rfl : (0 : Int32) = (0 : Int32))).1) (by decide) (by decide) ?_
    show St p e below T9 m 53 #[rv a1, iv p2, rv a3, .unset] [] _
    refine XS.aloadN X9.here hx rfl (hb hby d12_53) rfl rfl ?_
    show St p e below T9 m 54 #[rv a1, iv p2, rv a3, .unset] [(.ref a1)] _
    refine st10.trans ?_
    show St p e below T10 m 57 #[rv a1, iv p2, rv a3, .unset] [(.ref a5)] _
    refine st11 _ ?_
    show St p e below T11 m 60 #[rv a1, iv p2, rv a3, .unset] [(.ref a5)] _
    refine st15.trans ?_
    show St p e below T15 m 63 #[rv a1, iv p2, rv a3, .unset] [(.ref a13)] _
    refine st18.trans ?_
    show St p e below T18 m 66 #[rv a1, iv p2, rv a3, .unset] [(.int (0 : Int32))] _
    refine XS.ifYes X18.here hx rfl (pc0 := 66) (pc' := 76) rfl (hb hby d12_66) rfl ((if0 _ _).trans (teq (rfl : (0 : Int32) = (0 : Int32))).1) (by decide) (by decide) ?_
    show St p e below T18 m 76 #[rv a1, iv p2, rv a3, .unset] [] _
    refine XS.aloadN X18.here hx rfl (hb hby d12_76) rfl rfl ?_
    show St p e below T18 m 77 #[rv a1, iv p2, rv a3, .unset] [(.ref a1)] _
    refine st19.trans ?_
    show St p e below T19 m 80 #[rv a1, iv p2, rv a3, .unset] [(.ref a5)] _
    refine st20 _ ?_
    show St p e below T20 m 83 #[rv a1, iv p2, rv a3, .unset] [(.ref a5)] _
    refine st23.trans ?_
    show St p e below T23 m 86 #[rv a1, iv p2, rv a3, .unset] [(.ref a21)] _
    refine st27.trans ?_
    show St p e below T27 m 89 #[rv a1, iv p2, rv a3, .unset] [(.int (0 : Int32))] _
    refine XS.ifYes X27.here hx rfl (pc0 := 89) (pc' := 99) rfl (hb hby d12_89) rfl ((if0 _ _).trans (teq (rfl : (0 : Int32) = (0 : Int32))).1) (by decide) (by decide) ?_
    show St p e below T27 m 99 #[rv a1, iv p2, rv a3, .unset] [] _
    refine st30 _ ?_
    show St p e below T30 m 102 #[rv a1, iv p2, rv a3, .unset] [(.ref a28)] _
    refine XS.astoreN X30.here hx rfl (hb hby d12_102) rfl rfl (l' := #[rv a1, iv p2, rv a3, rv a28]) rfl ?_
    show St p e below T30 m 103 #[rv a1, iv p2, rv a3, rv a28] [] _
    refine XS.aloadN X30.here hx rfl (hb hby d12_103) rfl rfl ?_
    show St p e below T30 m 104 #[rv a1, iv p2, rv a3, rv a28] [(.ref a28)] _
    jvm_step X30.here [X30.here.top, hx, (hb hby d12_104), X30.method', Bd.returns, Value.isRef, FieldType.isReference]
    first | (intro acts; rw [hr _ acts rfl rfl rfl]) | rw [hr _ _ rfl rfl rfl]
    exact Steps.refl _
  · show r12_5Q Z a1 p2 a3 a5 a13 a21 a25 a28 h0 n0 _ T30.heap _
    rw [e30]
    exact ⟨rfl, N27, rfl⟩
set_option maxRecDepth 65536 in
set_option maxHeartbeats 40000000 in
theorem g0_16 {p : Program} {l : Launch} {e : Env} {R : Room} {s : State} {m : MethodId} {args : Array Value} {below : List Frame} {meth : Method} {c : Code} {T0 : State} {locs : List Loc} {cells slots : Nat} {Z : State} {a0 : Array Value} {h0 : Heap} {n0 : Nat} (p1 : Int32) (p2 : Int32) (p3 : Int32) (p4 : Int32) (p5 : Int32) (p6 : Int32) (p7 : Int32) (a8 : Addr) (a9 : Addr) (a10 : Addr) (a11 : Addr) (a12 : Addr) (a13 : Addr) (a14 : Addr) (a16 : Addr) (a19 : Addr) (a23 : Addr) (a26 : Addr) (a28 : Addr)
    (X0 : Stand p l e R s m args below meth c T0 locs cells slots) (hx : p.tables.exec = Jvm.exec) (hZ : Z.Warmed39 s.vm) (hw : HW a0 Z) (hby : c.code = code) (hml : c.maxLocals = 19) (hown : s.vm.findClass "com/example/agave/agave/store/RequestStateOfPinLaw" = some m.cls) (e0 : T0.heap = h0) (O0 : Old Z n0 h0) (N0 : Fr n0 locs) (rc : cells + 0 ≤ R.cells) (rs : slots + 0 ≤ R.slots) (rf : 2 ≤ R.frames) (rl : 27 ≤ R.locals) (H15 : Exa Z h0 a13 "java/util/Optional") (H17 : Fld Z h0 a13 "java/util/Optional" "value" "Ljava/lang/Object;" (.ref a16)) (H18 : Exa Z h0 a16 "com/example/agave/agave/store/RequestStore$StoredRequest") (H20 : Fld Z h0 a16 "com/example/agave/agave/store/RequestStore$StoredRequest" "failure" "Ljava/util/Optional;" (.ref a19)) (H21 : Exa Z Z.heap a19 "java/util/Optional") (H22 : Fld Z Z.heap a19 "java/util/Optional" "value" "Ljava/lang/Object;" .null) (H24 : Fld Z h0 a16 "com/example/agave/agave/store/RequestStore$StoredRequest" "result" "Ljava/util/Optional;" (.ref a23)) (H25 : Exa Z h0 a23 "java/util/Optional") (H27 : Fld Z h0 a23 "java/util/Optional" "value" "Ljava/lang/Object;" (.ref a26)) (H29 : Sta Z Z.heap "com/example/agave/agave/store/RequestState" "DONE" "Lcom/example/agave/agave/store/RequestState;" (.ref a28)) :
    ∃ (T' : State) (L' : List Loc), Stand p l e R s m args below meth c T' L' (cells + 0) (slots + 0) ∧ T'.heap = h0 ∧ Fr n0 L' ∧
      ∀ target, St p e below T' m 320 #[iv p1, iv p2, iv p3, iv (1 : Int32), iv p4, iv p5, iv (1 : Int32), iv (0 : Int32), iv p6, iv p7, rv a8, rv a9, rv a10, rv a11, rv a12, rv a13, rv a14, rv a28, rv a28] [(.int (1 : Int32))] target → St p e below T0 m 228 #[iv p1, iv p2, iv p3, iv (1 : Int32), iv p4, iv p5, iv (1 : Int32), iv (0 : Int32), iv p6, iv p7, rv a8, rv a9, rv a10, rv a11, rv a12, rv a13, rv a14, .unset, .unset] [] target := by
  obtain ⟨_, _, ⟨T30, L30, k30, n30⟩, -, X30, ⟨Lc30, hQ30, l30, y30, z30⟩, st30⟩ := Jvm.LawKit.callS X0 hx (y := y12) hown (mvT hZ (ow hw 31 rfl)) (mvT hZ (ow hw 32 rfl)) (mvT hZ (ow hw 33 rfl)) (mvT hZ (ow hw 34 rfl)) (by decide) (backOf (W := 0) (r12_5 l Z a0 hw [] a13 p4 a14 a16 a19 a23 a26 a28 h0 n0 O0 H15 H17 H18 H20 H21 H22 H24 H25 H27 H29) hZ (ow hw 34 rfl) (ow hw 33 rfl) (by show 1 + 1 ≤ R.frames; omega) (by show 0 + (4 + 11) + 12 ≤ R.locals; omega)) (g := (mkF m 234 #[iv p1, iv p2, iv p3, iv (1 : Int32), iv p4, iv p5, iv (1 : Int32), iv (0 : Int32), iv p6, iv p7, rv a8, rv a9, rv a10, rv a11, rv a12, rv a13, rv a14, .unset, .unset] [(.ref a14), (.int p4), (.ref a13)])) rfl (by rw [hml]; rfl) (argsL := [(.ref a13), (.int p4), (.ref a14)]) (rest := []) (lenOf pd__Ljava_util_Optional_ZLjava_util_Optional__Lcom_example_agave_agave_store_RequestState_ rfl) rfl (by show 2 * 0 + _ ≤ _; exact Nat.le_of_eq rfl) (hb hby at_234) (fun _ _ => ⟨rfl, e0, (by show cells + 0 + 0 ≤ R.cells; omega), (by show slots + 0 + 0 ≤ R.slots; omega)⟩)
  dsimp only [Pt.U, Pt.locs, Pt.cells, Pt.slots] at X30 l30 y30 z30 st30 hQ30
  subst l30
  rw [y30, z30] at X30
  obtain ⟨rfl, N30q, e30⟩ := hQ30
  have N30 := Fr.app N0 N30q
  replace X30 : Stand p l e R _ m args below meth c T30 _ (cells + 0) (slots + 0) := X30
  obtain ⟨T31, X31, e31, st31⟩ := getS2 X30 hx hZ hown (host := "") (Or.inl (ow hw 126 rfl)) Via.refl e30 (H29.ext O0.2) (g := (mkF m 261 #[iv p1, iv p2, iv p3, iv (1 : Int32), iv p4, iv p5, iv (1 : Int32), iv (0 : Int32), iv p6, iv p7, rv a8, rv a9, rv a10, rv a11, rv a12, rv a13, rv a14, rv a28, .unset] [])) rfl (hb hby at_261)
  refine ⟨T31, _, X31.more (by omega) (by omega), e31, N30, fun target kt => ?_⟩
  show St p e below T0 m 228 #[iv p1, iv p2, iv p3, iv (1 : Int32), iv p4, iv p5, iv (1 : Int32), iv (0 : Int32), iv p6, iv p7, rv a8, rv a9, rv a10, rv a11, rv a12, rv a13, rv a14, .unset, .unset] [] _
  refine XS.aload X0.here hx rfl (hb hby at_228) rfl rfl ?_
  show St p e below T0 m 230 #[iv p1, iv p2, iv p3, iv (1 : Int32), iv p4, iv p5, iv (1 : Int32), iv (0 : Int32), iv p6, iv p7, rv a8, rv a9, rv a10, rv a11, rv a12, rv a13, rv a14, .unset, .unset] [(.ref a13)] _
  refine XS.iload X0.here hx rfl (hb hby at_230) rfl ?_
  show St p e below T0 m 232 #[iv p1, iv p2, iv p3, iv (1 : Int32), iv p4, iv p5, iv (1 : Int32), iv (0 : Int32), iv p6, iv p7, rv a8, rv a9, rv a10, rv a11, rv a12, rv a13, rv a14, .unset, .unset] [(.int p4), (.ref a13)] _
  refine XS.aload X0.here hx rfl (hb hby at_232) rfl rfl ?_
  show St p e below T0 m 234 #[iv p1, iv p2, iv p3, iv (1 : Int32), iv p4, iv p5, iv (1 : Int32), iv (0 : Int32), iv p6, iv p7, rv a8, rv a9, rv a10, rv a11, rv a12, rv a13, rv a14, .unset, .unset] [(.ref a14), (.int p4), (.ref a13)] _
  refine st30 _ ?_
  show St p e below T30 m 237 #[iv p1, iv p2, iv p3, iv (1 : Int32), iv p4, iv p5, iv (1 : Int32), iv (0 : Int32), iv p6, iv p7, rv a8, rv a9, rv a10, rv a11, rv a12, rv a13, rv a14, .unset, .unset] [(.ref a28)] _
  refine XS.astore X30.here hx rfl (hb hby at_237) rfl rfl (l' := #[iv p1, iv p2, iv p3, iv (1 : Int32), iv p4, iv p5, iv (1 : Int32), iv (0 : Int32), iv p6, iv p7, rv a8, rv a9, rv a10, rv a11, rv a12, rv a13, rv a14, rv a28, .unset]) rfl ?_
  show St p e below T30 m 239 #[iv p1, iv p2, iv p3, iv (1 : Int32), iv p4, iv p5, iv (1 : Int32), iv (0 : Int32), iv p6, iv p7, rv a8, rv a9, rv a10, rv a11, rv a12, rv a13, rv a14, rv a28, .unset] [] _
  refine XS.iloadN X30.here hx rfl (hb hby at_239) rfl ?_
  show St p e below T30 m 240 #[iv p1, iv p2, iv p3, iv (1 : Int32), iv p4, iv p5, iv (1 : Int32), iv (0 : Int32), iv p6, iv p7, rv a8, rv a9, rv a10, rv a11, rv a12, rv a13, rv a14, rv a28, .unset] [(.int (1 : Int32))] _
  refine XS.ifNo X30.here hx rfl (hb hby at_240) rfl ((if0 _ _).trans (feq (by decide : ¬ ((1 : Int32) = (0 : Int32)))).1) ?_
  show St p e below T30 m 243 #[iv p1, iv p2, iv p3, iv (1 : Int32), iv p4, iv p5, iv (1 : Int32), iv (0 : Int32), iv p6, iv p7, rv a8, rv a9, rv a10, rv a11, rv a12, rv a13, rv a14, rv a28, .unset] [] _
  refine XS.iload X30.here hx rfl (hb hby at_243) rfl ?_
  show St p e below T30 m 245 #[iv p1, iv p2, iv p3, iv (1 : Int32), iv p4, iv p5, iv (1 : Int32), iv (0 : Int32), iv p6, iv p7, rv a8, rv a9, rv a10, rv a11, rv a12, rv a13, rv a14, rv a28, .unset] [(.int (0 : Int32))] _
  refine XS.ifYes X30.here hx rfl (pc0 := 245) (pc' := 256) rfl (hb hby at_245) rfl ((if0 _ _).trans (teq (rfl : (0 : Int32) = (0 : Int32))).1) (by decide) (by decide) ?_
  show St p e below T30 m 256 #[iv p1, iv p2, iv p3, iv (1 : Int32), iv p4, iv p5, iv (1 : Int32), iv (0 : Int32), iv p6, iv p7, rv a8, rv a9, rv a10, rv a11, rv a12, rv a13, rv a14, rv a28, .unset] [] _
  refine XS.iload X30.here hx rfl (hb hby at_256) rfl ?_
  show St p e below T30 m 258 #[iv p1, iv p2, iv p3, iv (1 : Int32), iv p4, iv p5, iv (1 : Int32), iv (0 : Int32), iv p6, iv p7, rv a8, rv a9, rv a10, rv a11, rv a12, rv a13, rv a14, rv a28, .unset] [(.int (1 : Int32))] _
  refine XS.ifNo X30.here hx rfl (hb hby at_258) rfl ((if0 _ _).trans (feq (by decide : ¬ ((1 : Int32) = (0 : Int32)))).1) ?_
  show St p e below T30 m 261 #[iv p1, iv p2, iv p3, iv (1 : Int32), iv p4, iv p5, iv (1 : Int32), iv (0 : Int32), iv p6, iv p7, rv a8, rv a9, rv a10, rv a11, rv a12, rv a13, rv a14, rv a28, .unset] [] _
  refine st31 _ ?_
  show St p e below T31 m 264 #[iv p1, iv p2, iv p3, iv (1 : Int32), iv p4, iv p5, iv (1 : Int32), iv (0 : Int32), iv p6, iv p7, rv a8, rv a9, rv a10, rv a11, rv a12, rv a13, rv a14, rv a28, .unset] [(.ref a28)] _
  refine XS.astore X31.here hx rfl (hb hby at_264) rfl rfl (l' := #[iv p1, iv p2, iv p3, iv (1 : Int32), iv p4, iv p5, iv (1 : Int32), iv (0 : Int32), iv p6, iv p7, rv a8, rv a9, rv a10, rv a11, rv a12, rv a13, rv a14, rv a28, rv a28]) rfl ?_
  show St p e below T31 m 266 #[iv p1, iv p2, iv p3, iv (1 : Int32), iv p4, iv p5, iv (1 : Int32), iv (0 : Int32), iv p6, iv p7, rv a8, rv a9, rv a10, rv a11, rv a12, rv a13, rv a14, rv a28, rv a28] [] _
  refine XS.goto X31.here hx rfl (pc0 := 266) (pc' := 308) rfl (hb hby at_266) (by decide) (by decide) ?_
  show St p e below T31 m 308 #[iv p1, iv p2, iv p3, iv (1 : Int32), iv p4, iv p5, iv (1 : Int32), iv (0 : Int32), iv p6, iv p7, rv a8, rv a9, rv a10, rv a11, rv a12, rv a13, rv a14, rv a28, rv a28] [] _
  refine XS.aload X31.here hx rfl (hb hby at_308) rfl rfl ?_
  show St p e below T31 m 310 #[iv p1, iv p2, iv p3, iv (1 : Int32), iv p4, iv p5, iv (1 : Int32), iv (0 : Int32), iv p6, iv p7, rv a8, rv a9, rv a10, rv a11, rv a12, rv a13, rv a14, rv a28, rv a28] [(.ref a28)] _
  refine XS.aload X31.here hx rfl (hb hby at_310) rfl rfl ?_
  show St p e below T31 m 312 #[iv p1, iv p2, iv p3, iv (1 : Int32), iv p4, iv p5, iv (1 : Int32), iv (0 : Int32), iv p6, iv p7, rv a8, rv a9, rv a10, rv a11, rv a12, rv a13, rv a14, rv a28, rv a28] [(.ref a28), (.ref a28)] _
  refine Jvm.RoadKit.acmp (g := (mkF m 312 #[iv p1, iv p2, iv p3, iv (1 : Int32), iv p4, iv p5, iv (1 : Int32), iv (0 : Int32), iv p6, iv p7, rv a8, rv a9, rv a10, rv a11, rv a12, rv a13, rv a14, rv a28, rv a28] [(.ref a28), (.ref a28)])) X31 hx rfl rfl rfl (pc0 := 312) (pc' := 315) (same := true) rfl (hb hby at_312) rfl (decide_eq_true rfl) (by decide) (by decide) ?_
  show St p e below T31 m 315 #[iv p1, iv p2, iv p3, iv (1 : Int32), iv p4, iv p5, iv (1 : Int32), iv (0 : Int32), iv p6, iv p7, rv a8, rv a9, rv a10, rv a11, rv a12, rv a13, rv a14, rv a28, rv a28] [] _
  refine XS.iconst X31.here hx rfl (hb hby at_315) ?_
  show St p e below T31 m 316 #[iv p1, iv p2, iv p3, iv (1 : Int32), iv p4, iv p5, iv (1 : Int32), iv (0 : Int32), iv p6, iv p7, rv a8, rv a9, rv a10, rv a11, rv a12, rv a13, rv a14, rv a28, rv a28] [(.int (1 : Int32))] _
  refine XS.goto X31.here hx rfl (pc0 := 316) (pc' := 320) rfl (hb hby at_316) (by decide) (by decide) ?_
  exact kt
def law_10Q (Z : State) (wRequestState_UNKNOWN : Addr) (wRequestState_IN_PROGRESS : Addr) (wRequestState_REMOVED : Addr) (wRequestState_DONE : Addr) (wRequestState_FAILED : Addr) (wOptional_EMPTY : Addr) (wIntegerCache_cache : Addr) (zCOMPACT_STRINGS : Int32) (clC : Cell) (i0 : Int32) (i1 : Int32) (i2 : Int32) (h0 : Heap) (n0 : Nat) (v : Option Value) (h : Heap) (L : List Loc) : Prop := v = some (.int (1 : Int32)) ∧ Fr n0 L
theorem law_10e (m : MethodId) (wRequestState_UNKNOWN : Addr) (wRequestState_IN_PROGRESS : Addr) (wRequestState_REMOVED : Addr) (wRequestState_DONE : Addr) (wRequestState_FAILED : Addr) (wOptional_EMPTY : Addr) (wIntegerCache_cache : Addr) (zCOMPACT_STRINGS : Int32) (clC : Cell) (i0 : Int32) (i1 : Int32) (i2 : Int32) : entryFrame m #[(.int i0), (.int i1), (.int i2)] maxLocals = mkF m 0 #[iv i0, iv i1, iv i2, .unset, .unset, .unset, .unset, .unset, .unset, .unset, .unset, .unset, .unset, .unset, .unset, .unset, .unset, .unset, .unset] [] := by first | (simp [entryFrame, mkF, argsToLocals, Value.category, maxLocals]; done) | rfl
set_option maxRecDepth 65536 in
set_option maxHeartbeats 40000000 in
theorem law_10 (l : Launch) (Z : State) (a0 : Array Value) (hw : HW a0 Z) (ws : List Jvm.Cond) (wRequestState_UNKNOWN : Addr) (wRequestState_IN_PROGRESS : Addr) (wRequestState_REMOVED : Addr) (wRequestState_DONE : Addr) (wRequestState_FAILED : Addr) (wOptional_EMPTY : Addr) (wIntegerCache_cache : Addr) (zCOMPACT_STRINGS : Int32) (clC : Cell) (B : Base Z wRequestState_UNKNOWN wRequestState_IN_PROGRESS wRequestState_REMOVED wRequestState_DONE wRequestState_FAILED wOptional_EMPTY wIntegerCache_cache zCOMPACT_STRINGS clC) (i0 : Int32) (i1 : Int32) (i2 : Int32) (h0 : Heap) (n0 : Nat) (O0 : Old Z n0 h0) (pin0 : (own_b (i0 &&& (1 : Int32))) = (1 : Int32)) (pin1 : (own_b (i0 &&& (2 : Int32))) = (0 : Int32)) (pin2 : (own_b (i0 &&& (4 : Int32))) = (0 : Int32)) (pin3 : (own_b (i0 &&& (8 : Int32))) = (1 : Int32)) (pin4 : (own_b (i0 &&& (16 : Int32))) = (0 : Int32)) (hc3 : ¬ ((255 : Int32) < ((i1 &&& (255 : Int32)).toUInt32.toUInt16.toUInt32.toInt32))) (hc4 : ¬ ((255 : Int32) < ((i2 &&& (255 : Int32)).toUInt32.toUInt16.toUInt32.toInt32))) :
    MetFree l x (head1 (Jvm.Cond.code x code maxLocals ret :: ws) room_1) (fun a U => a = #[(.int i0), (.int i1), (.int i2)] ∧ Z.Warmed39 U.vm ∧ U.heap = h0) (fun _ _ _ _ _ => True) (fun _ U o U' => ∃ v L, o = .returned v ∧ law_10Q Z wRequestState_UNKNOWN wRequestState_IN_PROGRESS wRequestState_REMOVED wRequestState_DONE wRequestState_FAILED wOptional_EMPTY wIntegerCache_cache zCOMPACT_STRINGS clC i0 i1 i2 h0 n0 v U'.heap L ∧ FrameEnd U o U' L room_1.cells room_1.slots) := by
  refine MetFree.of_bodySF (plainFor_of_name pn_com_example_agave_agave_store_RequestStateOfPinLaw) hisR ?_
  intro p e s m args below meth c s₁ Bd hml0 hP hK
  obtain ⟨rfl, hZ, hh⟩ := hP
  have hx := Bd.exec
  have hby := Bd.bytes
  have hml : c.maxLocals = 19 := hml0
  have hown : s.vm.findClass "com/example/agave/agave/store/RequestStateOfPinLaw" = some m.cls := findClass_of_methodNamed Bd.named
  have hnm := (name_of_methodNamed Bd.named Bd.method).1
  have X0 : Stand p l e room_1 s m #[(.int i0), (.int i1), (.int i2)] below meth c s₁ [] 0 0 := Stand.of_body Bd
  have e0 : s₁.heap = h0 := by rw [← hh, Bd.state]; rfl
  have N0 := Fr.nil n0
  have pre0 : ∀ t, Steps p.tables e below (s₁.setTop (mkF m 0 #[iv i0, iv i1, iv i2, .unset, .unset, .unset, .unset, .unset, .unset, .unset, .unset, .unset, .unset, .unset, .unset, .unset, .unset, .unset, .unset] [])) t → Steps p.tables e below (s₁.setTop (entryFrame m #[(.int i0), (.int i1), (.int i2)] maxLocals)) t := fun t k => castTop (law_10e m wRequestState_UNKNOWN wRequestState_IN_PROGRESS wRequestState_REMOVED wRequestState_DONE wRequestState_FAILED wOptional_EMPTY wIntegerCache_cache zCOMPACT_STRINGS clC i0 i1 i2) k
  obtain ⟨T1, L1, X1, e1, N1, st1⟩ := g0_1 i0 i1 i2 X0 hx hZ hw hby hml hown e0 O0 N0 (by decide) (by decide) (by decide) (by decide)
  obtain ⟨T5, h5, L5, b5_0, b5_1, b5_2, b5_3, k5_0, k5_1, X5, e5, N5, K5, lo5_1, lo5_2, lo5_3, lo5_4, nq5_5, nq5_6, nq5_7, nq5_8, nq5_9, nq5_10, f5_11, f5_12, f5_13, f5_14, f5_15, f5_16, f5_17, f5_18, f5_19, f5_20, st5⟩ := g0_2 i0 i1 i2 (1 : Int32) (0 : Int32) (0 : Int32) (1 : Int32) (0 : Int32) (own_b (i0 &&& (32 : Int32))) (own_b (i0 &&& (64 : Int32))) zCOMPACT_STRINGS X1 hx hZ hw hby hml hown e1 O0 N1 (by decide) (by decide) (by decide) (by decide) B.2.2.2.2.2.2.2.2.2.2.2.2.2.2.2.1 B.2.2.2.2.2.2.2.2.2.2.2.2.2.2.2.2.1 hc3 hc4
  have O_K5 : Old Z n0 h5 := O0.keep K5 all0
  have Kp_K5 : Keep h0 h5 [] := (Keep.refl h0 []).trans K5 all0
  obtain ⟨T6, h6, L6, b6_0, X6, e6, N6, K6, lo6_1, f6_2, f6_3, st6⟩ := g0_15 i0 i1 i2 (1 : Int32) (0 : Int32) (0 : Int32) (0 : Int32) (own_b (i0 &&& (32 : Int32))) (own_b (i0 &&& (64 : Int32))) b5_0 b5_1 wOptional_EMPTY X5 hx hZ hw hby hml hown e5 O_K5 N5 (by decide) (by decide) (by decide) (by decide) B.2.2.2.2.2.2.2.2.2.2.1
  have O_K6 : Old Z n0 h6 := O_K5.keep K6 all0
  have Kp_K6 : Keep h0 h6 [] := Kp_K5.trans K6 all0
  obtain ⟨T7, L7, X7, e7, N7, st7⟩ := g0_4 i0 i1 i2 (1 : Int32) (0 : Int32) (0 : Int32) (1 : Int32) (own_b (i0 &&& (32 : Int32))) (own_b (i0 &&& (64 : Int32))) b5_0 b5_1 b6_0 wOptional_EMPTY X6 hx hZ hw hby hml hown e6 O_K6 N6 (by decide) (by decide) (by decide) (by decide) B.2.2.2.2.2.2.2.2.2.2.1
  obtain ⟨T8, h8, L8, b8_0, X8, e8, N8, K8, st8⟩ := m0_1 i0 i1 i2 (1 : Int32) (0 : Int32) (0 : Int32) (1 : Int32) (0 : Int32) (own_b (i0 &&& (32 : Int32))) (own_b (i0 &&& (64 : Int32))) b5_0 b5_1 b6_0 wOptional_EMPTY wOptional_EMPTY wIntegerCache_cache clC X7 hx hZ hw hby hml hown e7 O_K6 N7 (by decide) (by decide) (by decide) (by decide) B.2.2.2.2.2.2.2.2.2.2.1 B.2.2.2.2.2.2.2.2.2.2.1 B.2.2.2.2.2.2.2.2.2.2.2.2.1 B.2.2.2.2.2.2.2.2.2.2.2.2.2.1 B.2.2.2.2.2.2.2.2.2.2.2.2.2.2.2.2.2.2.2.2.2.2.2.2.2.2.2.2.2.1 B.2.2.2.2.2.2.2.2.2.2.2.2.2.2.2.2.2.2.2.2.2.2.2.2.2.2.2.2.2.2.1 B.2.2.2.2.2.2.2.2.2.2.2.2.2.2.2.2.2.2.2.2.2.2.2.2.2.2.2.2.2.2.2
  have O_K8 : Old Z n0 h8 := O_K6.keep K8 all0
  have Kp_K8 : Keep h0 h8 [] := Kp_K6.trans K8 all0
  obtain ⟨T9, h9, L9, b9_0, b9_1, X9, e9, N9, K9, lo9_1, lo9_2, nq9_3, f9_4, f9_5, f9_6, f9_7, f9_8, f9_9, f9_10, f9_11, st9⟩ := g0_10 i0 i1 i2 (0 : Int32) (0 : Int32) (1 : Int32) (0 : Int32) (own_b (i0 &&& (32 : Int32))) (own_b (i0 &&& (64 : Int32))) b5_0 b5_1 b6_0 wOptional_EMPTY b8_0 wOptional_EMPTY X8 hx hZ hw hby hml hown e8 O_K8 N8 (by decide) (by decide) (by decide) (by decide) B.2.2.2.2.2.2.2.2.2.2.1
  have O_K9 : Old Z n0 h9 := O_K8.keep K9 all0
  have Kp_K9 : Keep h0 h9 [] := Kp_K8.trans K9 all0
  obtain ⟨T10, L10, X10, e10, N10, st10⟩ := g0_8 i0 i1 i2 (1 : Int32) (0 : Int32) (1 : Int32) (0 : Int32) (own_b (i0 &&& (32 : Int32))) (own_b (i0 &&& (64 : Int32))) b5_0 b5_1 b6_0 wOptional_EMPTY b8_0 b9_0 wOptional_EMPTY X9 hx hZ hw hby hml hown e9 O_K9 N9 (by decide) (by decide) (by decide) (by decide) B.2.2.2.2.2.2.2.2.2.2.1
  have f11 := ((f6_2.keep K8).keep K9)
  have f12 := ((f6_3.keep K8 nin0).keep K9 nin0)
  obtain ⟨T13, L13, X13, e13, N13, st13⟩ := g0_16 i0 i1 i2 (0 : Int32) (0 : Int32) (own_b (i0 &&& (32 : Int32))) (own_b (i0 &&& (64 : Int32))) b5_0 b5_1 b6_0 wOptional_EMPTY b8_0 b9_0 wOptional_EMPTY b9_1 wOptional_EMPTY b6_0 b5_0 wRequestState_DONE X10 hx hZ hw hby hml hown e10 O_K9 N10 (by decide) (by decide) (by decide) (by decide) f9_4 f9_5 f9_6 f9_10 B.2.2.2.2.2.2.2.2.2.2.2.1 B.2.2.2.2.2.2.2.2.2.2.2.2.2.2.2.2.2.1 f9_9 f11 f12 B.2.2.2.2.2.2.1
  obtain ⟨fs, hr, hrun, hended, hW, hsame⟩ := X13.leave (v := some (.int (1 : Int32))) (fun h => by rw [Bd.returns] at h; cases h)
  refine ⟨_, _, pre0 _ ?_, hrun, hended, _, _, rfl, ?_, ⟨_, rfl⟩, hW, hsame.mono (by decide) (by decide)⟩
  · refine st1 _ ?_
    show St p e below T1 m 94 #[iv i0, iv i1, iv i2, iv (own_b (i0 &&& (1 : Int32))), iv (own_b (i0 &&& (2 : Int32))), iv (own_b (i0 &&& (4 : Int32))), iv (own_b (i0 &&& (8 : Int32))), iv (own_b (i0 &&& (16 : Int32))), iv (own_b (i0 &&& (32 : Int32))), iv (own_b (i0 &&& (64 : Int32))), .unset, .unset, .unset, .unset, .unset, .unset, .unset, .unset, .unset] [] _
    rw [pin0]
    rw [pin1]
    rw [pin2]
    rw [pin3]
    rw [pin4]
    refine st5 _ ?_
    refine st6 _ ?_
    refine st7 _ ?_
    refine st8 _ ?_
    refine st9 _ ?_
    refine st10 _ ?_
    refine st13 _ ?_
    show St p e below T13 m 320 #[iv i0, iv i1, iv i2, iv (1 : Int32), iv (0 : Int32), iv (0 : Int32), iv (1 : Int32), iv (0 : Int32), iv (own_b (i0 &&& (32 : Int32))), iv (own_b (i0 &&& (64 : Int32))), rv b5_0, rv b5_1, rv b6_0, rv wOptional_EMPTY, rv b8_0, rv b9_0, rv wOptional_EMPTY, rv wRequestState_DONE, rv wRequestState_DONE] [(.int (1 : Int32))] _
    exact retN X13 hx (t := .boolean) Bd.returns (by simp) (hb hby at_320) hr
  · show law_10Q Z wRequestState_UNKNOWN wRequestState_IN_PROGRESS wRequestState_REMOVED wRequestState_DONE wRequestState_FAILED wOptional_EMPTY wIntegerCache_cache zCOMPACT_STRINGS clC i0 i1 i2 h0 n0 _ T13.heap _
    rw [e13]
    exact ⟨rfl, N13⟩
def law_11Q (Z : State) (wRequestState_UNKNOWN : Addr) (wRequestState_IN_PROGRESS : Addr) (wRequestState_REMOVED : Addr) (wRequestState_DONE : Addr) (wRequestState_FAILED : Addr) (wOptional_EMPTY : Addr) (wIntegerCache_cache : Addr) (zCOMPACT_STRINGS : Int32) (clC : Cell) (i0 : Int32) (i1 : Int32) (i2 : Int32) (h0 : Heap) (n0 : Nat) (v : Option Value) (h : Heap) (L : List Loc) : Prop := v = some (.int (1 : Int32)) ∧ Fr n0 L
theorem law_11e (m : MethodId) (wRequestState_UNKNOWN : Addr) (wRequestState_IN_PROGRESS : Addr) (wRequestState_REMOVED : Addr) (wRequestState_DONE : Addr) (wRequestState_FAILED : Addr) (wOptional_EMPTY : Addr) (wIntegerCache_cache : Addr) (zCOMPACT_STRINGS : Int32) (clC : Cell) (i0 : Int32) (i1 : Int32) (i2 : Int32) : entryFrame m #[(.int i0), (.int i1), (.int i2)] maxLocals = mkF m 0 #[iv i0, iv i1, iv i2, .unset, .unset, .unset, .unset, .unset, .unset, .unset, .unset, .unset, .unset, .unset, .unset, .unset, .unset, .unset, .unset] [] := by first | (simp [entryFrame, mkF, argsToLocals, Value.category, maxLocals]; done) | rfl
set_option maxRecDepth 65536 in
set_option maxHeartbeats 40000000 in
theorem law_11 (l : Launch) (Z : State) (a0 : Array Value) (hw : HW a0 Z) (ws : List Jvm.Cond) (wRequestState_UNKNOWN : Addr) (wRequestState_IN_PROGRESS : Addr) (wRequestState_REMOVED : Addr) (wRequestState_DONE : Addr) (wRequestState_FAILED : Addr) (wOptional_EMPTY : Addr) (wIntegerCache_cache : Addr) (zCOMPACT_STRINGS : Int32) (clC : Cell) (B : Base Z wRequestState_UNKNOWN wRequestState_IN_PROGRESS wRequestState_REMOVED wRequestState_DONE wRequestState_FAILED wOptional_EMPTY wIntegerCache_cache zCOMPACT_STRINGS clC) (i0 : Int32) (i1 : Int32) (i2 : Int32) (h0 : Heap) (n0 : Nat) (O0 : Old Z n0 h0) (pin0 : (own_b (i0 &&& (1 : Int32))) = (0 : Int32)) (pin1 : (own_b (i0 &&& (2 : Int32))) = (1 : Int32)) (pin2 : (own_b (i0 &&& (4 : Int32))) = (0 : Int32)) (pin3 : (own_b (i0 &&& (8 : Int32))) = (1 : Int32)) (pin4 : (own_b (i0 &&& (16 : Int32))) = (0 : Int32)) (hc3 : ¬ ((255 : Int32) < ((i1 &&& (255 : Int32)).toUInt32.toUInt16.toUInt32.toInt32))) (hc4 : ¬ ((255 : Int32) < ((i2 &&& (255 : Int32)).toUInt32.toUInt16.toUInt32.toInt32))) :
    MetFree l x (head1 (Jvm.Cond.code x code maxLocals ret :: ws) room_1) (fun a U => a = #[(.int i0), (.int i1), (.int i2)] ∧ Z.Warmed39 U.vm ∧ U.heap = h0) (fun _ _ _ _ _ => True) (fun _ U o U' => ∃ v L, o = .returned v ∧ law_11Q Z wRequestState_UNKNOWN wRequestState_IN_PROGRESS wRequestState_REMOVED wRequestState_DONE wRequestState_FAILED wOptional_EMPTY wIntegerCache_cache zCOMPACT_STRINGS clC i0 i1 i2 h0 n0 v U'.heap L ∧ FrameEnd U o U' L room_1.cells room_1.slots) := by
  refine MetFree.of_bodySF (plainFor_of_name pn_com_example_agave_agave_store_RequestStateOfPinLaw) hisR ?_
  intro p e s m args below meth c s₁ Bd hml0 hP hK
  obtain ⟨rfl, hZ, hh⟩ := hP
  have hx := Bd.exec
  have hby := Bd.bytes
  have hml : c.maxLocals = 19 := hml0
  have hown : s.vm.findClass "com/example/agave/agave/store/RequestStateOfPinLaw" = some m.cls := findClass_of_methodNamed Bd.named
  have hnm := (name_of_methodNamed Bd.named Bd.method).1
  have X0 : Stand p l e room_1 s m #[(.int i0), (.int i1), (.int i2)] below meth c s₁ [] 0 0 := Stand.of_body Bd
  have e0 : s₁.heap = h0 := by rw [← hh, Bd.state]; rfl
  have N0 := Fr.nil n0
  have pre0 : ∀ t, Steps p.tables e below (s₁.setTop (mkF m 0 #[iv i0, iv i1, iv i2, .unset, .unset, .unset, .unset, .unset, .unset, .unset, .unset, .unset, .unset, .unset, .unset, .unset, .unset, .unset, .unset] [])) t → Steps p.tables e below (s₁.setTop (entryFrame m #[(.int i0), (.int i1), (.int i2)] maxLocals)) t := fun t k => castTop (law_11e m wRequestState_UNKNOWN wRequestState_IN_PROGRESS wRequestState_REMOVED wRequestState_DONE wRequestState_FAILED wOptional_EMPTY wIntegerCache_cache zCOMPACT_STRINGS clC i0 i1 i2) k
  obtain ⟨T1, L1, X1, e1, N1, st1⟩ := g0_1 i0 i1 i2 X0 hx hZ hw hby hml hown e0 O0 N0 (by decide) (by decide) (by decide) (by decide)
  obtain ⟨T5, h5, L5, b5_0, b5_1, b5_2, b5_3, k5_0, k5_1, X5, e5, N5, K5, lo5_1, lo5_2, lo5_3, lo5_4, nq5_5, nq5_6, nq5_7, nq5_8, nq5_9, nq5_10, f5_11, f5_12, f5_13, f5_14, f5_15, f5_16, f5_17, f5_18, f5_19, f5_20, st5⟩ := g0_2 i0 i1 i2 (0 : Int32) (1 : Int32) (0 : Int32) (1 : Int32) (0 : Int32) (own_b (i0 &&& (32 : Int32))) (own_b (i0 &&& (64 : Int32))) zCOMPACT_STRINGS X1 hx hZ hw hby hml hown e1 O0 N1 (by decide) (by decide) (by decide) (by decide) B.2.2.2.2.2.2.2.2.2.2.2.2.2.2.2.1 B.2.2.2.2.2.2.2.2.2.2.2.2.2.2.2.2.1 hc3 hc4
  have O_K5 : Old Z n0 h5 := O0.keep K5 all0
  have Kp_K5 : Keep h0 h5 [] := (Keep.refl h0 []).trans K5 all0
  obtain ⟨T6, h6, L6, b6_0, X6, e6, N6, K6, lo6_1, f6_2, f6_3, st6⟩ := g0_15 i0 i1 i2 (0 : Int32) (1 : Int32) (0 : Int32) (0 : Int32) (own_b (i0 &&& (32 : Int32))) (own_b (i0 &&& (64 : Int32))) b5_0 b5_1 wOptional_EMPTY X5 hx hZ hw hby hml hown e5 O_K5 N5 (by decide) (by decide) (by decide) (by decide) B.2.2.2.2.2.2.2.2.2.2.1
  have O_K6 : Old Z n0 h6 := O_K5.keep K6 all0
  have Kp_K6 : Keep h0 h6 [] := Kp_K5.trans K6 all0
  obtain ⟨T7, L7, X7, e7, N7, st7⟩ := g0_4 i0 i1 i2 (0 : Int32) (1 : Int32) (0 : Int32) (1 : Int32) (own_b (i0 &&& (32 : Int32))) (own_b (i0 &&& (64 : Int32))) b5_0 b5_1 b6_0 wOptional_EMPTY X6 hx hZ hw hby hml hown e6 O_K6 N6 (by decide) (by decide) (by decide) (by decide) B.2.2.2.2.2.2.2.2.2.2.1
  obtain ⟨T8, h8, L8, b8_0, X8, e8, N8, K8, st8⟩ := m0_1 i0 i1 i2 (0 : Int32) (1 : Int32) (0 : Int32) (1 : Int32) (0 : Int32) (own_b (i0 &&& (32 : Int32))) (own_b (i0 &&& (64 : Int32))) b5_0 b5_1 b6_0 wOptional_EMPTY wOptional_EMPTY wIntegerCache_cache clC X7 hx hZ hw hby hml hown e7 O_K6 N7 (by decide) (by decide) (by decide) (by decide) B.2.2.2.2.2.2.2.2.2.2.1 B.2.2.2.2.2.2.2.2.2.2.1 B.2.2.2.2.2.2.2.2.2.2.2.2.1 B.2.2.2.2.2.2.2.2.2.2.2.2.2.1 B.2.2.2.2.2.2.2.2.2.2.2.2.2.2.2.2.2.2.2.2.2.2.2.2.2.2.2.2.2.1 B.2.2.2.2.2.2.2.2.2.2.2.2.2.2.2.2.2.2.2.2.2.2.2.2.2.2.2.2.2.2.1 B.2.2.2.2.2.2.2.2.2.2.2.2.2.2.2.2.2.2.2.2.2.2.2.2.2.2.2.2.2.2.2
  have O_K8 : Old Z n0 h8 := O_K6.keep K8 all0
  have Kp_K8 : Keep h0 h8 [] := Kp_K6.trans K8 all0
  obtain ⟨T9, L9, X9, e9, N9, st9⟩ := g0_7 i0 i1 i2 (1 : Int32) (0 : Int32) (1 : Int32) (0 : Int32) (own_b (i0 &&& (32 : Int32))) (own_b (i0 &&& (64 : Int32))) b5_0 b5_1 b6_0 wOptional_EMPTY b8_0 wOptional_EMPTY X8 hx hZ hw hby hml hown e8 O_K8 N8 (by decide) (by decide) (by decide) (by decide) B.2.2.2.2.2.2.2.2.2.2.1
  obtain ⟨T10, L10, X10, e10, N10, st10⟩ := g0_8 i0 i1 i2 (0 : Int32) (1 : Int32) (1 : Int32) (0 : Int32) (own_b (i0 &&& (32 : Int32))) (own_b (i0 &&& (64 : Int32))) b5_0 b5_1 b6_0 wOptional_EMPTY b8_0 wOptional_EMPTY wOptional_EMPTY X9 hx hZ hw hby hml hown e9 O_K8 N9 (by decide) (by decide) (by decide) (by decide) B.2.2.2.2.2.2.2.2.2.2.1
  obtain ⟨T11, L11, X11, e11, N11, st11⟩ := g0_12 i0 i1 i2 (0 : Int32) (1 : Int32) (0 : Int32) (own_b (i0 &&& (32 : Int32))) (own_b (i0 &&& (64 : Int32))) b5_0 b5_1 b6_0 wOptional_EMPTY b8_0 wOptional_EMPTY wOptional_EMPTY wRequestState_IN_PROGRESS X10 hx hZ hw hby hml hown e10 O_K8 N10 (by decide) (by decide) (by decide) (by decide) B.2.2.2.2.2.2.2.2.2.2.2.1 B.2.2.2.2.2.2.2.2.2.2.2.2.2.2.2.2.2.1 B.2.2.1
  obtain ⟨fs, hr, hrun, hended, hW, hsame⟩ := X11.leave (v := some (.int (1 : Int32))) (fun h => by rw [Bd.returns] at h; cases h)
  refine ⟨_, _, pre0 _ ?_, hrun, hended, _, _, rfl, ?_, ⟨_, rfl⟩, hW, hsame.mono (by decide) (by decide)⟩
  · refine st1 _ ?_
    show St p e below T1 m 94 #[iv i0, iv i1, iv i2, iv (own_b (i0 &&& (1 : Int32))), iv (own_b (i0 &&& (2 : Int32))), iv (own_b (i0 &&& (4 : Int32))), iv (own_b (i0 &&& (8 : Int32))), iv (own_b (i0 &&& (16 : Int32))), iv (own_b (i0 &&& (32 : Int32))), iv (own_b (i0 &&& (64 : Int32))), .unset, .unset, .unset, .unset, .unset, .unset, .unset, .unset, .unset] [] _
    rw [pin0]
    rw [pin1]
    rw [pin2]
    rw [pin3]
    rw [pin4]
    refine st5 _ ?_
    refine st6 _ ?_
    refine st7 _ ?_
    refine st8 _ ?_
    refine st9 _ ?_
    refine st10 _ ?_
    refine st11 _ ?_
    show St p e below T11 m 320 #[iv i0, iv i1, iv i2, iv (0 : Int32), iv (1 : Int32), iv (0 : Int32), iv (1 : Int32), iv (0 : Int32), iv (own_b (i0 &&& (32 : Int32))), iv (own_b (i0 &&& (64 : Int32))), rv b5_0, rv b5_1, rv b6_0, rv wOptional_EMPTY, rv b8_0, rv wOptional_EMPTY, rv wOptional_EMPTY, rv wRequestState_IN_PROGRESS, rv wRequestState_IN_PROGRESS] [(.int (1 : Int32))] _
    exact retN X11 hx (t := .boolean) Bd.returns (by simp) (hb hby at_320) hr
  · show law_11Q Z wRequestState_UNKNOWN wRequestState_IN_PROGRESS wRequestState_REMOVED wRequestState_DONE wRequestState_FAILED wOptional_EMPTY wIntegerCache_cache zCOMPACT_STRINGS clC i0 i1 i2 h0 n0 _ T11.heap _
    rw [e11]
    exact ⟨rfl, N11⟩
def law_12Q (Z : State) (wRequestState_UNKNOWN : Addr) (wRequestState_IN_PROGRESS : Addr) (wRequestState_REMOVED : Addr) (wRequestState_DONE : Addr) (wRequestState_FAILED : Addr) (wOptional_EMPTY : Addr) (wIntegerCache_cache : Addr) (zCOMPACT_STRINGS : Int32) (clC : Cell) (i0 : Int32) (i1 : Int32) (i2 : Int32) (h0 : Heap) (n0 : Nat) (v : Option Value) (h : Heap) (L : List Loc) : Prop := v = some (.int (1 : Int32)) ∧ Fr n0 L
theorem law_12e (m : MethodId) (wRequestState_UNKNOWN : Addr) (wRequestState_IN_PROGRESS : Addr) (wRequestState_REMOVED : Addr) (wRequestState_DONE : Addr) (wRequestState_FAILED : Addr) (wOptional_EMPTY : Addr) (wIntegerCache_cache : Addr) (zCOMPACT_STRINGS : Int32) (clC : Cell) (i0 : Int32) (i1 : Int32) (i2 : Int32) : entryFrame m #[(.int i0), (.int i1), (.int i2)] maxLocals = mkF m 0 #[iv i0, iv i1, iv i2, .unset, .unset, .unset, .unset, .unset, .unset, .unset, .unset, .unset, .unset, .unset, .unset, .unset, .unset, .unset, .unset] [] := by first | (simp [entryFrame, mkF, argsToLocals, Value.category, maxLocals]; done) | rfl
set_option maxRecDepth 65536 in
set_option maxHeartbeats 40000000 in
theorem law_12 (l : Launch) (Z : State) (a0 : Array Value) (hw : HW a0 Z) (ws : List Jvm.Cond) (wRequestState_UNKNOWN : Addr) (wRequestState_IN_PROGRESS : Addr) (wRequestState_REMOVED : Addr) (wRequestState_DONE : Addr) (wRequestState_FAILED : Addr) (wOptional_EMPTY : Addr) (wIntegerCache_cache : Addr) (zCOMPACT_STRINGS : Int32) (clC : Cell) (B : Base Z wRequestState_UNKNOWN wRequestState_IN_PROGRESS wRequestState_REMOVED wRequestState_DONE wRequestState_FAILED wOptional_EMPTY wIntegerCache_cache zCOMPACT_STRINGS clC) (i0 : Int32) (i1 : Int32) (i2 : Int32) (h0 : Heap) (n0 : Nat) (O0 : Old Z n0 h0) (pin0 : (own_b (i0 &&& (1 : Int32))) = (1 : Int32)) (pin1 : (own_b (i0 &&& (2 : Int32))) = (1 : Int32)) (pin2 : (own_b (i0 &&& (4 : Int32))) = (0 : Int32)) (pin3 : (own_b (i0 &&& (8 : Int32))) = (1 : Int32)) (pin4 : (own_b (i0 &&& (16 : Int32))) = (0 : Int32)) (hc3 : ¬ ((255 : Int32) < ((i1 &&& (255 : Int32)).toUInt32.toUInt16.toUInt32.toInt32))) (hc4 : ¬ ((255 : Int32) < ((i2 &&& (255 : Int32)).toUInt32.toUInt16.toUInt32.toInt32))) :
    MetFree l x (head1 (Jvm.Cond.code x code maxLocals ret :: ws) room_1) (fun a U => a = #[(.int i0), (.int i1), (.int i2)] ∧ Z.Warmed39 U.vm ∧ U.heap = h0) (fun _ _ _ _ _ => True) (fun _ U o U' => ∃ v L, o = .returned v ∧ law_12Q Z wRequestState_UNKNOWN wRequestState_IN_PROGRESS wRequestState_REMOVED wRequestState_DONE wRequestState_FAILED wOptional_EMPTY wIntegerCache_cache zCOMPACT_STRINGS clC i0 i1 i2 h0 n0 v U'.heap L ∧ FrameEnd U o U' L room_1.cells room_1.slots) := by
  refine MetFree.of_bodySF (plainFor_of_name pn_com_example_agave_agave_store_RequestStateOfPinLaw) hisR ?_
  intro p e s m args below meth c s₁ Bd hml0 hP hK
  obtain ⟨rfl, hZ, hh⟩ := hP
  have hx := Bd.exec
  have hby := Bd.bytes
  have hml : c.maxLocals = 19 := hml0
  have hown : s.vm.findClass "com/example/agave/agave/store/RequestStateOfPinLaw" = some m.cls := findClass_of_methodNamed Bd.named
  have hnm := (name_of_methodNamed Bd.named Bd.method).1
  have X0 : Stand p l e room_1 s m #[(.int i0), (.int i1), (.int i2)] below meth c s₁ [] 0 0 := Stand.of_body Bd
  have e0 : s₁.heap = h0 := by rw [← hh, Bd.state]; rfl
  have N0 := Fr.nil n0
  have pre0 : ∀ t, Steps p.tables e below (s₁.setTop (mkF m 0 #[iv i0, iv i1, iv i2, .unset, .unset, .unset, .unset, .unset, .unset, .unset, .unset, .unset, .unset, .unset, .unset, .unset, .unset, .unset, .unset] [])) t → Steps p.tables e below (s₁.setTop (entryFrame m #[(.int i0), (.int i1), (.int i2)] maxLocals)) t := fun t k => castTop (law_12e m wRequestState_UNKNOWN wRequestState_IN_PROGRESS wRequestState_REMOVED wRequestState_DONE wRequestState_FAILED wOptional_EMPTY wIntegerCache_cache zCOMPACT_STRINGS clC i0 i1 i2) k
  obtain ⟨T1, L1, X1, e1, N1, st1⟩ := g0_1 i0 i1 i2 X0 hx hZ hw hby hml hown e0 O0 N0 (by decide) (by decide) (by decide) (by decide)
  obtain ⟨T5, h5, L5, b5_0, b5_1, b5_2, b5_3, k5_0, k5_1, X5, e5, N5, K5, lo5_1, lo5_2, lo5_3, lo5_4, nq5_5, nq5_6, nq5_7, nq5_8, nq5_9, nq5_10, f5_11, f5_12, f5_13, f5_14, f5_15, f5_16, f5_17, f5_18, f5_19, f5_20, st5⟩ := g0_2 i0 i1 i2 (1 : Int32) (1 : Int32) (0 : Int32) (1 : Int32) (0 : Int32) (own_b (i0 &&& (32 : Int32))) (own_b (i0 &&& (64 : Int32))) zCOMPACT_STRINGS X1 hx hZ hw hby hml hown e1 O0 N1 (by decide) (by decide) (by decide) (by decide) B.2.2.2.2.2.2.2.2.2.2.2.2.2.2.2.1 B.2.2.2.2.2.2.2.2.2.2.2.2.2.2.2.2.1 hc3 hc4
  have O_K5 : Old Z n0 h5 := O0.keep K5 all0
  have Kp_K5 : Keep h0 h5 [] := (Keep.refl h0 []).trans K5 all0
  obtain ⟨T6, h6, L6, b6_0, X6, e6, N6, K6, lo6_1, f6_2, f6_3, st6⟩ := g0_15 i0 i1 i2 (1 : Int32) (1 : Int32) (0 : Int32) (0 : Int32) (own_b (i0 &&& (32 : Int32))) (own_b (i0 &&& (64 : Int32))) b5_0 b5_1 wOptional_EMPTY X5 hx hZ hw hby hml hown e5 O_K5 N5 (by decide) (by decide) (by decide) (by decide) B.2.2.2.2.2.2.2.2.2.2.1
  have O_K6 : Old Z n0 h6 := O_K5.keep K6 all0
  have Kp_K6 : Keep h0 h6 [] := Kp_K5.trans K6 all0
  obtain ⟨T7, L7, X7, e7, N7, st7⟩ := g0_4 i0 i1 i2 (1 : Int32) (1 : Int32) (0 : Int32) (1 : Int32) (own_b (i0 &&& (32 : Int32))) (own_b (i0 &&& (64 : Int32))) b5_0 b5_1 b6_0 wOptional_EMPTY X6 hx hZ hw hby hml hown e6 O_K6 N6 (by decide) (by decide) (by decide) (by decide) B.2.2.2.2.2.2.2.2.2.2.1
  obtain ⟨T8, h8, L8, b8_0, X8, e8, N8, K8, st8⟩ := m0_1 i0 i1 i2 (1 : Int32) (1 : Int32) (0 : Int32) (1 : Int32) (0 : Int32) (own_b (i0 &&& (32 : Int32))) (own_b (i0 &&& (64 : Int32))) b5_0 b5_1 b6_0 wOptional_EMPTY wOptional_EMPTY wIntegerCache_cache clC X7 hx hZ hw hby hml hown e7 O_K6 N7 (by decide) (by decide) (by decide) (by decide) B.2.2.2.2.2.2.2.2.2.2.1 B.2.2.2.2.2.2.2.2.2.2.1 B.2.2.2.2.2.2.2.2.2.2.2.2.1 B.2.2.2.2.2.2.2.2.2.2.2.2.2.1 B.2.2.2.2.2.2.2.2.2.2.2.2.2.2.2.2.2.2.2.2.2.2.2.2.2.2.2.2.2.1 B.2.2.2.2.2.2.2.2.2.2.2.2.2.2.2.2.2.2.2.2.2.2.2.2.2.2.2.2.2.2.1 B.2.2.2.2.2.2.2.2.2.2.2.2.2.2.2.2.2.2.2.2.2.2.2.2.2.2.2.2.2.2.2
  have O_K8 : Old Z n0 h8 := O_K6.keep K8 all0
  have Kp_K8 : Keep h0 h8 [] := Kp_K6.trans K8 all0
  obtain ⟨T9, h9, L9, b9_0, b9_1, X9, e9, N9, K9, lo9_1, lo9_2, nq9_3, f9_4, f9_5, f9_6, f9_7, f9_8, f9_9, f9_10, f9_11, st9⟩ := g0_10 i0 i1 i2 (1 : Int32) (0 : Int32) (1 : Int32) (0 : Int32) (own_b (i0 &&& (32 : Int32))) (own_b (i0 &&& (64 : Int32))) b5_0 b5_1 b6_0 wOptional_EMPTY b8_0 wOptional_EMPTY X8 hx hZ hw hby hml hown e8 O_K8 N8 (by decide) (by decide) (by decide) (by decide) B.2.2.2.2.2.2.2.2.2.2.1
  have O_K9 : Old Z n0 h9 := O_K8.keep K9 all0
  have Kp_K9 : Keep h0 h9 [] := Kp_K8.trans K9 all0
  obtain ⟨T10, L10, X10, e10, N10, st10⟩ := g0_8 i0 i1 i2 (1 : Int32) (1 : Int32) (1 : Int32) (0 : Int32) (own_b (i0 &&& (32 : Int32))) (own_b (i0 &&& (64 : Int32))) b5_0 b5_1 b6_0 wOptional_EMPTY b8_0 b9_0 wOptional_EMPTY X9 hx hZ hw hby hml hown e9 O_K9 N9 (by decide) (by decide) (by decide) (by decide) B.2.2.2.2.2.2.2.2.2.2.1
  have f11 := ((f6_2.keep K8).keep K9)
  have f12 := ((f6_3.keep K8 nin0).keep K9 nin0)
  obtain ⟨T13, L13, X13, e13, N13, st13⟩ := g0_16 i0 i1 i2 (1 : Int32) (0 : Int32) (own_b (i0 &&& (32 : Int32))) (own_b (i0 &&& (64 : Int32))) b5_0 b5_1 b6_0 wOptional_EMPTY b8_0 b9_0 wOptional_EMPTY b9_1 wOptional_EMPTY b6_0 b5_0 wRequestState_DONE X10 hx hZ hw hby hml hown e10 O_K9 N10 (by decide) (by decide) (by decide) (by decide) f9_4 f9_5 f9_6 f9_10 B.2.2.2.2.2.2.2.2.2.2.2.1 B.2.2.2.2.2.2.2.2.2.2.2.2.2.2.2.2.2.1 f9_9 f11 f12 B.2.2.2.2.2.2.1
  obtain ⟨fs, hr, hrun, hended, hW, hsame⟩ := X13.leave (v := some (.int (1 : Int32))) (fun h => by rw [Bd.returns] at h; cases h)
  refine ⟨_, _, pre0 _ ?_, hrun, hended, _, _, rfl, ?_, ⟨_, rfl⟩, hW, hsame.mono (by decide) (by decide)⟩
  · refine st1 _ ?_
    show St p e below T1 m 94 #[iv i0, iv i1, iv i2, iv (own_b (i0 &&& (1 : Int32))), iv (own_b (i0 &&& (2 : Int32))), iv (own_b (i0 &&& (4 : Int32))), iv (own_b (i0 &&& (8 : Int32))), iv (own_b (i0 &&& (16 : Int32))), iv (own_b (i0 &&& (32 : Int32))), iv (own_b (i0 &&& (64 : Int32))), .unset, .unset, .unset, .unset, .unset, .unset, .unset, .unset, .unset] [] _
    rw [pin0]
    rw [pin1]
    rw [pin2]
    rw [pin3]
    rw [pin4]
    refine st5 _ ?_
    refine st6 _ ?_
    refine st7 _ ?_
    refine st8 _ ?_
    refine st9 _ ?_
    refine st10 _ ?_
    refine st13 _ ?_
    show St p e below T13 m 320 #[iv i0, iv i1, iv i2, iv (1 : Int32), iv (1 : Int32), iv (0 : Int32), iv (1 : Int32), iv (0 : Int32), iv (own_b (i0 &&& (32 : Int32))), iv (own_b (i0 &&& (64 : Int32))), rv b5_0, rv b5_1, rv b6_0, rv wOptional_EMPTY, rv b8_0, rv b9_0, rv wOptional_EMPTY, rv wRequestState_DONE, rv wRequestState_DONE] [(.int (1 : Int32))] _
    exact retN X13 hx (t := .boolean) Bd.returns (by simp) (hb hby at_320) hr
  · show law_12Q Z wRequestState_UNKNOWN wRequestState_IN_PROGRESS wRequestState_REMOVED wRequestState_DONE wRequestState_FAILED wOptional_EMPTY wIntegerCache_cache zCOMPACT_STRINGS clC i0 i1 i2 h0 n0 _ T13.heap _
    rw [e13]
    exact ⟨rfl, N13⟩
def law_13Q (Z : State) (wRequestState_UNKNOWN : Addr) (wRequestState_IN_PROGRESS : Addr) (wRequestState_REMOVED : Addr) (wRequestState_DONE : Addr) (wRequestState_FAILED : Addr) (wOptional_EMPTY : Addr) (wIntegerCache_cache : Addr) (zCOMPACT_STRINGS : Int32) (clC : Cell) (i0 : Int32) (i1 : Int32) (i2 : Int32) (h0 : Heap) (n0 : Nat) (v : Option Value) (h : Heap) (L : List Loc) : Prop := v = some (.int (1 : Int32)) ∧ Fr n0 L
theorem law_13e (m : MethodId) (wRequestState_UNKNOWN : Addr) (wRequestState_IN_PROGRESS : Addr) (wRequestState_REMOVED : Addr) (wRequestState_DONE : Addr) (wRequestState_FAILED : Addr) (wOptional_EMPTY : Addr) (wIntegerCache_cache : Addr) (zCOMPACT_STRINGS : Int32) (clC : Cell) (i0 : Int32) (i1 : Int32) (i2 : Int32) : entryFrame m #[(.int i0), (.int i1), (.int i2)] maxLocals = mkF m 0 #[iv i0, iv i1, iv i2, .unset, .unset, .unset, .unset, .unset, .unset, .unset, .unset, .unset, .unset, .unset, .unset, .unset, .unset, .unset, .unset] [] := by first | (simp [entryFrame, mkF, argsToLocals, Value.category, maxLocals]; done) | rfl
set_option maxRecDepth 65536 in
set_option maxHeartbeats 40000000 in
theorem law_13 (l : Launch) (Z : State) (a0 : Array Value) (hw : HW a0 Z) (ws : List Jvm.Cond) (wRequestState_UNKNOWN : Addr) (wRequestState_IN_PROGRESS : Addr) (wRequestState_REMOVED : Addr) (wRequestState_DONE : Addr) (wRequestState_FAILED : Addr) (wOptional_EMPTY : Addr) (wIntegerCache_cache : Addr) (zCOMPACT_STRINGS : Int32) (clC : Cell) (B : Base Z wRequestState_UNKNOWN wRequestState_IN_PROGRESS wRequestState_REMOVED wRequestState_DONE wRequestState_FAILED wOptional_EMPTY wIntegerCache_cache zCOMPACT_STRINGS clC) (i0 : Int32) (i1 : Int32) (i2 : Int32) (h0 : Heap) (n0 : Nat) (O0 : Old Z n0 h0) (pin0 : (own_b (i0 &&& (1 : Int32))) = (0 : Int32)) (pin1 : (own_b (i0 &&& (2 : Int32))) = (0 : Int32)) (pin2 : (own_b (i0 &&& (4 : Int32))) = (1 : Int32)) (pin3 : (own_b (i0 &&& (8 : Int32))) = (1 : Int32)) (pin4 : (own_b (i0 &&& (16 : Int32))) = (0 : Int32)) (hc3 : ¬ ((255 : Int32) < ((i1 &&& (255 : Int32)).toUInt32.toUInt16.toUInt32.toInt32))) (hc4 : ¬ ((255 : Int32) < ((i2 &&& (255 : Int32)).toUInt32.toUInt16.toUInt32.toInt32))) :
    MetFree l x (head1 (Jvm.Cond.code x code maxLocals ret :: ws) room_1) (fun a U => a = #[(.int i0), (.int i1), (.int i2)] ∧ Z.Warmed39 U.vm ∧ U.heap = h0) (fun _ _ _ _ _ => True) (fun _ U o U' => ∃ v L, o = .returned v ∧ law_13Q Z wRequestState_UNKNOWN wRequestState_IN_PROGRESS wRequestState_REMOVED wRequestState_DONE wRequestState_FAILED wOptional_EMPTY wIntegerCache_cache zCOMPACT_STRINGS clC i0 i1 i2 h0 n0 v U'.heap L ∧ FrameEnd U o U' L room_1.cells room_1.slots) := by
  refine MetFree.of_bodySF (plainFor_of_name pn_com_example_agave_agave_store_RequestStateOfPinLaw) hisR ?_
  intro p e s m args below meth c s₁ Bd hml0 hP hK
  obtain ⟨rfl, hZ, hh⟩ := hP
  have hx := Bd.exec
  have hby := Bd.bytes
  have hml : c.maxLocals = 19 := hml0
  have hown : s.vm.findClass "com/example/agave/agave/store/RequestStateOfPinLaw" = some m.cls := findClass_of_methodNamed Bd.named
  have hnm := (name_of_methodNamed Bd.named Bd.method).1
  have X0 : Stand p l e room_1 s m #[(.int i0), (.int i1), (.int i2)] below meth c s₁ [] 0 0 := Stand.of_body Bd
  have e0 : s₁.heap = h0 := by rw [← hh, Bd.state]; rfl
  have N0 := Fr.nil n0
  have pre0 : ∀ t, Steps p.tables e below (s₁.setTop (mkF m 0 #[iv i0, iv i1, iv i2, .unset, .unset, .unset, .unset, .unset, .unset, .unset, .unset, .unset, .unset, .unset, .unset, .unset, .unset, .unset, .unset] [])) t → Steps p.tables e below (s₁.setTop (entryFrame m #[(.int i0), (.int i1), (.int i2)] maxLocals)) t := fun t k => castTop (law_13e m wRequestState_UNKNOWN wRequestState_IN_PROGRESS wRequestState_REMOVED wRequestState_DONE wRequestState_FAILED wOptional_EMPTY wIntegerCache_cache zCOMPACT_STRINGS clC i0 i1 i2) k
  obtain ⟨T1, L1, X1, e1, N1, st1⟩ := g0_1 i0 i1 i2 X0 hx hZ hw hby hml hown e0 O0 N0 (by decide) (by decide) (by decide) (by decide)
  obtain ⟨T5, h5, L5, b5_0, b5_1, b5_2, b5_3, k5_0, k5_1, X5, e5, N5, K5, lo5_1, lo5_2, lo5_3, lo5_4, nq5_5, nq5_6, nq5_7, nq5_8, nq5_9, nq5_10, f5_11, f5_12, f5_13, f5_14, f5_15, f5_16, f5_17, f5_18, f5_19, f5_20, st5⟩ := g0_2 i0 i1 i2 (0 : Int32) (0 : Int32) (1 : Int32) (1 : Int32) (0 : Int32) (own_b (i0 &&& (32 : Int32))) (own_b (i0 &&& (64 : Int32))) zCOMPACT_STRINGS X1 hx hZ hw hby hml hown e1 O0 N1 (by decide) (by decide) (by decide) (by decide) B.2.2.2.2.2.2.2.2.2.2.2.2.2.2.2.1 B.2.2.2.2.2.2.2.2.2.2.2.2.2.2.2.2.1 hc3 hc4
  have O_K5 : Old Z n0 h5 := O0.keep K5 all0
  have Kp_K5 : Keep h0 h5 [] := (Keep.refl h0 []).trans K5 all0
  obtain ⟨T6, h6, L6, b6_0, X6, e6, N6, K6, lo6_1, f6_2, f6_3, st6⟩ := g0_15 i0 i1 i2 (0 : Int32) (0 : Int32) (1 : Int32) (0 : Int32) (own_b (i0 &&& (32 : Int32))) (own_b (i0 &&& (64 : Int32))) b5_0 b5_1 wOptional_EMPTY X5 hx hZ hw hby hml hown e5 O_K5 N5 (by decide) (by decide) (by decide) (by decide) B.2.2.2.2.2.2.2.2.2.2.1
  have O_K6 : Old Z n0 h6 := O_K5.keep K6 all0
  have Kp_K6 : Keep h0 h6 [] := Kp_K5.trans K6 all0
  obtain ⟨T7, L7, X7, e7, N7, st7⟩ := g0_4 i0 i1 i2 (0 : Int32) (0 : Int32) (1 : Int32) (1 : Int32) (own_b (i0 &&& (32 : Int32))) (own_b (i0 &&& (64 : Int32))) b5_0 b5_1 b6_0 wOptional_EMPTY X6 hx hZ hw hby hml hown e6 O_K6 N6 (by decide) (by decide) (by decide) (by decide) B.2.2.2.2.2.2.2.2.2.2.1
  obtain ⟨T8, h8, L8, b8_0, X8, e8, N8, K8, st8⟩ := m0_1 i0 i1 i2 (0 : Int32) (0 : Int32) (1 : Int32) (1 : Int32) (0 : Int32) (own_b (i0 &&& (32 : Int32))) (own_b (i0 &&& (64 : Int32))) b5_0 b5_1 b6_0 wOptional_EMPTY wOptional_EMPTY wIntegerCache_cache clC X7 hx hZ hw hby hml hown e7 O_K6 N7 (by decide) (by decide) (by decide) (by decide) B.2.2.2.2.2.2.2.2.2.2.1 B.2.2.2.2.2.2.2.2.2.2.1 B.2.2.2.2.2.2.2.2.2.2.2.2.1 B.2.2.2.2.2.2.2.2.2.2.2.2.2.1 B.2.2.2.2.2.2.2.2.2.2.2.2.2.2.2.2.2.2.2.2.2.2.2.2.2.2.2.2.2.1 B.2.2.2.2.2.2.2.2.2.2.2.2.2.2.2.2.2.2.2.2.2.2.2.2.2.2.2.2.2.2.1 B.2.2.2.2.2.2.2.2.2.2.2.2.2.2.2.2.2.2.2.2.2.2.2.2.2.2.2.2.2.2.2
  have O_K8 : Old Z n0 h8 := O_K6.keep K8 all0
  have Kp_K8 : Keep h0 h8 [] := Kp_K6.trans K8 all0
  obtain ⟨T9, L9, X9, e9, N9, st9⟩ := g0_7 i0 i1 i2 (0 : Int32) (1 : Int32) (1 : Int32) (0 : Int32) (own_b (i0 &&& (32 : Int32))) (own_b (i0 &&& (64 : Int32))) b5_0 b5_1 b6_0 wOptional_EMPTY b8_0 wOptional_EMPTY X8 hx hZ hw hby hml hown e8 O_K8 N8 (by decide) (by decide) (by decide) (by decide) B.2.2.2.2.2.2.2.2.2.2.1
  obtain ⟨T10, h10, L10, b10_0, b10_1, X10, e10, N10, K10, lo10_1, lo10_2, nq10_3, f10_4, f10_5, f10_6, f10_7, f10_8, f10_9, f10_10, st10⟩ := g0_13 i0 i1 i2 (0 : Int32) (0 : Int32) (1 : Int32) (0 : Int32) (own_b (i0 &&& (32 : Int32))) (own_b (i0 &&& (64 : Int32))) b5_0 b5_1 b6_0 wOptional_EMPTY b8_0 wOptional_EMPTY wOptional_EMPTY X9 hx hZ hw hby hml hown e9 O_K8 N9 (by decide) (by decide) (by decide) (by decide) B.2.2.2.2.2.2.2.2.2.2.1
  have O_K10 : Old Z n0 h10 := O_K8.keep K10 all0
  have Kp_K10 : Keep h0 h10 [] := Kp_K8.trans K10 all0
  obtain ⟨T11, L11, X11, e11, N11, st11⟩ := g0_14 i0 i1 i2 (1 : Int32) (0 : Int32) (own_b (i0 &&& (32 : Int32))) (own_b (i0 &&& (64 : Int32))) b5_0 b5_1 b6_0 wOptional_EMPTY b8_0 wOptional_EMPTY b10_0 b10_1 wRequestState_REMOVED X10 hx hZ hw hby hml hown e10 O_K10 N10 (by decide) (by decide) (by decide) (by decide) B.2.2.2.2.2.2.2.2.2.2.2.1 B.2.2.2.2.2.2.2.2.2.2.2.2.2.2.2.2.2.1 f10_4 f10_5 B.2.2.2.2.1
  obtain ⟨fs, hr, hrun, hended, hW, hsame⟩ := X11.leave (v := some (.int (1 : Int32))) (fun h => by rw [Bd.returns] at h; cases h)
  refine ⟨_, _, pre0 _ ?_, hrun, hended, _, _, rfl, ?_, ⟨_, rfl⟩, hW, hsame.mono (by decide) (by decide)⟩
  · refine st1 _ ?_
    show St p e below T1 m 94 #[iv i0, iv i1, iv i2, iv (own_b (i0 &&& (1 : Int32))), iv (own_b (i0 &&& (2 : Int32))), iv (own_b (i0 &&& (4 : Int32))), iv (own_b (i0 &&& (8 : Int32))), iv (own_b (i0 &&& (16 : Int32))), iv (own_b (i0 &&& (32 : Int32))), iv (own_b (i0 &&& (64 : Int32))), .unset, .unset, .unset, .unset, .unset, .unset, .unset, .unset, .unset] [] _
    rw [pin0]
    rw [pin1]
    rw [pin2]
    rw [pin3]
    rw [pin4]
    refine st5 _ ?_
    refine st6 _ ?_
    refine st7 _ ?_
    refine st8 _ ?_
    refine st9 _ ?_
    refine st10 _ ?_
    refine st11 _ ?_
    show St p e below T11 m 320 #[iv i0, iv i1, iv i2, iv (0 : Int32), iv (0 : Int32), iv (1 : Int32), iv (1 : Int32), iv (0 : Int32), iv (own_b (i0 &&& (32 : Int32))), iv (own_b (i0 &&& (64 : Int32))), rv b5_0, rv b5_1, rv b6_0, rv wOptional_EMPTY, rv b8_0, rv wOptional_EMPTY, rv b10_0, rv wRequestState_REMOVED, rv wRequestState_REMOVED] [(.int (1 : Int32))] _
    exact retN X11 hx (t := .boolean) Bd.returns (by simp) (hb hby at_320) hr
  · show law_13Q Z wRequestState_UNKNOWN wRequestState_IN_PROGRESS wRequestState_REMOVED wRequestState_DONE wRequestState_FAILED wOptional_EMPTY wIntegerCache_cache zCOMPACT_STRINGS clC i0 i1 i2 h0 n0 _ T11.heap _
    rw [e11]
    exact ⟨rfl, N11⟩
def law_14Q (Z : State) (wRequestState_UNKNOWN : Addr) (wRequestState_IN_PROGRESS : Addr) (wRequestState_REMOVED : Addr) (wRequestState_DONE : Addr) (wRequestState_FAILED : Addr) (wOptional_EMPTY : Addr) (wIntegerCache_cache : Addr) (zCOMPACT_STRINGS : Int32) (clC : Cell) (i0 : Int32) (i1 : Int32) (i2 : Int32) (h0 : Heap) (n0 : Nat) (v : Option Value) (h : Heap) (L : List Loc) : Prop := v = some (.int (1 : Int32)) ∧ Fr n0 L
theorem law_14e (m : MethodId) (wRequestState_UNKNOWN : Addr) (wRequestState_IN_PROGRESS : Addr) (wRequestState_REMOVED : Addr) (wRequestState_DONE : Addr) (wRequestState_FAILED : Addr) (wOptional_EMPTY : Addr) (wIntegerCache_cache : Addr) (zCOMPACT_STRINGS : Int32) (clC : Cell) (i0 : Int32) (i1 : Int32) (i2 : Int32) : entryFrame m #[(.int i0), (.int i1), (.int i2)] maxLocals = mkF m 0 #[iv i0, iv i1, iv i2, .unset, .unset, .unset, .unset, .unset, .unset, .unset, .unset, .unset, .unset, .unset, .unset, .unset, .unset, .unset, .unset] [] := by first | (simp [entryFrame, mkF, argsToLocals, Value.category, maxLocals]; done) | rfl
set_option maxRecDepth 65536 in
set_option maxHeartbeats 40000000 in
theorem law_14 (l : Launch) (Z : State) (a0 : Array Value) (hw : HW a0 Z) (ws : List Jvm.Cond) (wRequestState_UNKNOWN : Addr) (wRequestState_IN_PROGRESS : Addr) (wRequestState_REMOVED : Addr) (wRequestState_DONE : Addr) (wRequestState_FAILED : Addr) (wOptional_EMPTY : Addr) (wIntegerCache_cache : Addr) (zCOMPACT_STRINGS : Int32) (clC : Cell) (B : Base Z wRequestState_UNKNOWN wRequestState_IN_PROGRESS wRequestState_REMOVED wRequestState_DONE wRequestState_FAILED wOptional_EMPTY wIntegerCache_cache zCOMPACT_STRINGS clC) (i0 : Int32) (i1 : Int32) (i2 : Int32) (h0 : Heap) (n0 : Nat) (O0 : Old Z n0 h0) (pin0 : (own_b (i0 &&& (1 : Int32))) = (1 : Int32)) (pin1 : (own_b (i0 &&& (2 : Int32))) = (0 : Int32)) (pin2 : (own_b (i0 &&& (4 : Int32))) = (1 : Int32)) (pin3 : (own_b (i0 &&& (8 : Int32))) = (1 : Int32)) (pin4 : (own_b (i0 &&& (16 : Int32))) = (0 : Int32)) (hc3 : ¬ ((255 : Int32) < ((i1 &&& (255 : Int32)).toUInt32.toUInt16.toUInt32.toInt32))) (hc4 : ¬ ((255 : Int32) < ((i2 &&& (255 : Int32)).toUInt32.toUInt16.toUInt32.toInt32))) :
    MetFree l x (head1 (Jvm.Cond.code x code maxLocals ret :: ws) room_1) (fun a U => a = #[(.int i0), (.int i1), (.int i2)] ∧ Z.Warmed39 U.vm ∧ U.heap = h0) (fun _ _ _ _ _ => True) (fun _ U o U' => ∃ v L, o = .returned v ∧ law_14Q Z wRequestState_UNKNOWN wRequestState_IN_PROGRESS wRequestState_REMOVED wRequestState_DONE wRequestState_FAILED wOptional_EMPTY wIntegerCache_cache zCOMPACT_STRINGS clC i0 i1 i2 h0 n0 v U'.heap L ∧ FrameEnd U o U' L room_1.cells room_1.slots) := by
  refine MetFree.of_bodySF (plainFor_of_name pn_com_example_agave_agave_store_RequestStateOfPinLaw) hisR ?_
  intro p e s m args below meth c s₁ Bd hml0 hP hK
  obtain ⟨rfl, hZ, hh⟩ := hP
  have hx := Bd.exec
  have hby := Bd.bytes
  have hml : c.maxLocals = 19 := hml0
  have hown : s.vm.findClass "com/example/agave/agave/store/RequestStateOfPinLaw" = some m.cls := findClass_of_methodNamed Bd.named
  have hnm := (name_of_methodNamed Bd.named Bd.method).1
  have X0 : Stand p l e room_1 s m #[(.int i0), (.int i1), (.int i2)] below meth c s₁ [] 0 0 := Stand.of_body Bd
  have e0 : s₁.heap = h0 := by rw [← hh, Bd.state]; rfl
  have N0 := Fr.nil n0
  have pre0 : ∀ t, Steps p.tables e below (s₁.setTop (mkF m 0 #[iv i0, iv i1, iv i2, .unset, .unset, .unset, .unset, .unset, .unset, .unset, .unset, .unset, .unset, .unset, .unset, .unset, .unset, .unset, .unset] [])) t → Steps p.tables e below (s₁.setTop (entryFrame m #[(.int i0), (.int i1), (.int i2)] maxLocals)) t := fun t k => castTop (law_14e m wRequestState_UNKNOWN wRequestState_IN_PROGRESS wRequestState_REMOVED wRequestState_DONE wRequestState_FAILED wOptional_EMPTY wIntegerCache_cache zCOMPACT_STRINGS clC i0 i1 i2) k
  obtain ⟨T1, L1, X1, e1, N1, st1⟩ := g0_1 i0 i1 i2 X0 hx hZ hw hby hml hown e0 O0 N0 (by decide) (by decide) (by decide) (by decide)
  obtain ⟨T5, h5, L5, b5_0, b5_1, b5_2, b5_3, k5_0, k5_1, X5, e5, N5, K5, lo5_1, lo5_2, lo5_3, lo5_4, nq5_5, nq5_6, nq5_7, nq5_8, nq5_9, nq5_10, f5_11, f5_12, f5_13, f5_14, f5_15, f5_16, f5_17, f5_18, f5_19, f5_20, st5⟩ := g0_2 i0 i1 i2 (1 : Int32) (0 : Int32) (1 : Int32) (1 : Int32) (0 : Int32) (own_b (i0 &&& (32 : Int32))) (own_b (i0 &&& (64 : Int32))) zCOMPACT_STRINGS X1 hx hZ hw hby hml hown e1 O0 N1 (by decide) (by decide) (by decide) (by decide) B.2.2.2.2.2.2.2.2.2.2.2.2.2.2.2.1 B.2.2.2.2.2.2.2.2.2.2.2.2.2.2.2.2.1 hc3 hc4
  have O_K5 : Old Z n0 h5 := O0.keep K5 all0
  have Kp_K5 : Keep h0 h5 [] := (Keep.refl h0 []).trans K5 all0
  obtain ⟨T6, h6, L6, b6_0, X6, e6, N6, K6, lo6_1, f6_2, f6_3, st6⟩ := g0_15 i0 i1 i2 (1 : Int32) (0 : Int32) (1 : Int32) (0 : Int32) (own_b (i0 &&& (32 : Int32))) (own_b (i0 &&& (64 : Int32))) b5_0 b5_1 wOptional_EMPTY X5 hx hZ hw hby hml hown e5 O_K5 N5 (by decide) (by decide) (by decide) (by decide) B.2.2.2.2.2.2.2.2.2.2.1
  have O_K6 : Old Z n0 h6 := O_K5.keep K6 all0
  have Kp_K6 : Keep h0 h6 [] := Kp_K5.trans K6 all0
  obtain ⟨T7, L7, X7, e7, N7, st7⟩ := g0_4 i0 i1 i2 (1 : Int32) (0 : Int32) (1 : Int32) (1 : Int32) (own_b (i0 &&& (32 : Int32))) (own_b (i0 &&& (64 : Int32))) b5_0 b5_1 b6_0 wOptional_EMPTY X6 hx hZ hw hby hml hown e6 O_K6 N6 (by decide) (by decide) (by decide) (by decide) B.2.2.2.2.2.2.2.2.2.2.1
  obtain ⟨T8, h8, L8, b8_0, X8, e8, N8, K8, st8⟩ := m0_1 i0 i1 i2 (1 : Int32) (0 : Int32) (1 : Int32) (1 : Int32) (0 : Int32) (own_b (i0 &&& (32 : Int32))) (own_b (i0 &&& (64 : Int32))) b5_0 b5_1 b6_0 wOptional_EMPTY wOptional_EMPTY wIntegerCache_cache clC X7 hx hZ hw hby hml hown e7 O_K6 N7 (by decide) (by decide) (by decide) (by decide) B.2.2.2.2.2.2.2.2.2.2.1 B.2.2.2.2.2.2.2.2.2.2.1 B.2.2.2.2.2.2.2.2.2.2.2.2.1 B.2.2.2.2.2.2.2.2.2.2.2.2.2.1 B.2.2.2.2.2.2.2.2.2.2.2.2.2.2.2.2.2.2.2.2.2.2.2.2.2.2.2.2.2.1 B.2.2.2.2.2.2.2.2.2.2.2.2.2.2.2.2.2.2.2.2.2.2.2.2.2.2.2.2.2.2.1 B.2.2.2.2.2.2.2.2.2.2.2.2.2.2.2.2.2.2.2.2.2.2.2.2.2.2.2.2.2.2.2
  have O_K8 : Old Z n0 h8 := O_K6.keep K8 all0
  have Kp_K8 : Keep h0 h8 [] := Kp_K6.trans K8 all0
  obtain ⟨T9, h9, L9, b9_0, b9_1, X9, e9, N9, K9, lo9_1, lo9_2, nq9_3, f9_4, f9_5, f9_6, f9_7, f9_8, f9_9, f9_10, f9_11, st9⟩ := g0_10 i0 i1 i2 (0 : Int32) (1 : Int32) (1 : Int32) (0 : Int32) (own_b (i0 &&& (32 : Int32))) (own_b (i0 &&& (64 : Int32))) b5_0 b5_1 b6_0 wOptional_EMPTY b8_0 wOptional_EMPTY X8 hx hZ hw hby hml hown e8 O_K8 N8 (by decide) (by decide) (by decide) (by decide) B.2.2.2.2.2.2.2.2.2.2.1
  have O_K9 : Old Z n0 h9 := O_K8.keep K9 all0
  have Kp_K9 : Keep h0 h9 [] := Kp_K8.trans K9 all0
  obtain ⟨T10, h10, L10, b10_0, b10_1, X10, e10, N10, K10, lo10_1, lo10_2, nq10_3, f10_4, f10_5, f10_6, f10_7, f10_8, f10_9, f10_10, st10⟩ := g0_13 i0 i1 i2 (1 : Int32) (0 : Int32) (1 : Int32) (0 : Int32) (own_b (i0 &&& (32 : Int32))) (own_b (i0 &&& (64 : Int32))) b5_0 b5_1 b6_0 wOptional_EMPTY b8_0 b9_0 wOptional_EMPTY X9 hx hZ hw hby hml hown e9 O_K9 N9 (by decide) (by decide) (by decide) (by decide) B.2.2.2.2.2.2.2.2.2.2.1
  have O_K10 : Old Z n0 h10 := O_K9.keep K10 all0
  have Kp_K10 : Keep h0 h10 [] := Kp_K9.trans K10 all0
  have f11 := (f9_4.keep K10)
  have f12 := (f9_5.keep K10 nin0)
  have f13 := (f9_6.keep K10)
  have f14 := (f9_10.keep K10 nin0)
  have f15 := (f9_9.keep K10 nin0)
  have f16 := (((f6_2.keep K8).keep K9).keep K10)
  have f17 := (((f6_3.keep K8 nin0).keep K9 nin0).keep K10 nin0)
  obtain ⟨T18, L18, X18, e18, N18, st18⟩ := g0_16 i0 i1 i2 (0 : Int32) (1 : Int32) (own_b (i0 &&& (32 : Int32))) (own_b (i0 &&& (64 : Int32))) b5_0 b5_1 b6_0 wOptional_EMPTY b8_0 b9_0 b10_0 b9_1 wOptional_EMPTY b6_0 b5_0 wRequestState_DONE X10 hx hZ hw hby hml hown e10 O_K10 N10 (by decide) (by decide) (by decide) (by decide) f11 f12 f13 f14 B.2.2.2.2.2.2.2.2.2.2.2.1 B.2.2.2.2.2.2.2.2.2.2.2.2.2.2.2.2.2.1 f15 f16 f17 B.2.2.2.2.2.2.1
  obtain ⟨fs, hr, hrun, hended, hW, hsame⟩ := X18.leave (v := some (.int (1 : Int32))) (fun h => by rw [Bd.returns] at h; cases h)
  refine ⟨_, _, pre0 _ ?_, hrun, hended, _, _, rfl, ?_, ⟨_, rfl⟩, hW, hsame.mono (by decide) (by decide)⟩
  · refine st1 _ ?_
    show St p e below T1 m 94 #[iv i0, iv i1, iv i2, iv (own_b (i0 &&& (1 : Int32))), iv (own_b (i0 &&& (2 : Int32))), iv (own_b (i0 &&& (4 : Int32))), iv (own_b (i0 &&& (8 : Int32))), iv (own_b (i0 &&& (16 : Int32))), iv (own_b (i0 &&& (32 : Int32))), iv (own_b (i0 &&& (64 : Int32))), .unset, .unset, .unset, .unset, .unset, .unset, .unset, .unset, .unset] [] _
    rw [pin0]
    rw [pin1]
    rw [pin2]
    rw [pin3]
    rw [pin4]
    refine st5 _ ?_
    refine st6 _ ?_
    refine st7 _ ?_
    refine st8 _ ?_
    refine st9 _ ?_
    refine st10 _ ?_
    refine st18 _ ?_
    show St p e below T18 m 320 #[iv i0, iv i1, iv i2, iv (1 : Int32), iv (0 : Int32), iv (1 : Int32), iv (1 : Int32), iv (0 : Int32), iv (own_b (i0 &&& (32 : Int32))), iv (own_b (i0 &&& (64 : Int32))), rv b5_0, rv b5_1, rv b6_0, rv wOptional_EMPTY, rv b8_0, rv b9_0, rv b10_0, rv wRequestState_DONE, rv wRequestState_DONE] [(.int (1 : Int32))] _
    exact retN X18 hx (t := .boolean) Bd.returns (by simp) (hb hby at_320) hr
  · show law_14Q Z wRequestState_UNKNOWN wRequestState_IN_PROGRESS wRequestState_REMOVED wRequestState_DONE wRequestState_FAILED wOptional_EMPTY wIntegerCache_cache zCOMPACT_STRINGS clC i0 i1 i2 h0 n0 _ T18.heap _
    rw [e18]
    exact ⟨rfl, N18⟩
def law_15Q (Z : State) (wRequestState_UNKNOWN : Addr) (wRequestState_IN_PROGRESS : Addr) (wRequestState_REMOVED : Addr) (wRequestState_DONE : Addr) (wRequestState_FAILED : Addr) (wOptional_EMPTY : Addr) (wIntegerCache_cache : Addr) (zCOMPACT_STRINGS : Int32) (clC : Cell) (i0 : Int32) (i1 : Int32) (i2 : Int32) (h0 : Heap) (n0 : Nat) (v : Option Value) (h : Heap) (L : List Loc) : Prop := v = some (.int (1 : Int32)) ∧ Fr n0 L
theorem law_15e (m : MethodId) (wRequestState_UNKNOWN : Addr) (wRequestState_IN_PROGRESS : Addr) (wRequestState_REMOVED : Addr) (wRequestState_DONE : Addr) (wRequestState_FAILED : Addr) (wOptional_EMPTY : Addr) (wIntegerCache_cache : Addr) (zCOMPACT_STRINGS : Int32) (clC : Cell) (i0 : Int32) (i1 : Int32) (i2 : Int32) : entryFrame m #[(.int i0), (.int i1), (.int i2)] maxLocals = mkF m 0 #[iv i0, iv i1, iv i2, .unset, .unset, .unset, .unset, .unset, .unset, .unset, .unset, .unset, .unset, .unset, .unset, .unset, .unset, .unset, .unset] [] := by first | (simp [entryFrame, mkF, argsToLocals, Value.category, maxLocals]; done) | rfl
set_option maxRecDepth 65536 in
set_option maxHeartbeats 40000000 in
theorem law_15 (l : Launch) (Z : State) (a0 : Array Value) (hw : HW a0 Z) (ws : List Jvm.Cond) (wRequestState_UNKNOWN : Addr) (wRequestState_IN_PROGRESS : Addr) (wRequestState_REMOVED : Addr) (wRequestState_DONE : Addr) (wRequestState_FAILED : Addr) (wOptional_EMPTY : Addr) (wIntegerCache_cache : Addr) (zCOMPACT_STRINGS : Int32) (clC : Cell) (B : Base Z wRequestState_UNKNOWN wRequestState_IN_PROGRESS wRequestState_REMOVED wRequestState_DONE wRequestState_FAILED wOptional_EMPTY wIntegerCache_cache zCOMPACT_STRINGS clC) (i0 : Int32) (i1 : Int32) (i2 : Int32) (h0 : Heap) (n0 : Nat) (O0 : Old Z n0 h0) (pin0 : (own_b (i0 &&& (1 : Int32))) = (0 : Int32)) (pin1 : (own_b (i0 &&& (2 : Int32))) = (1 : Int32)) (pin2 : (own_b (i0 &&& (4 : Int32))) = (1 : Int32)) (pin3 : (own_b (i0 &&& (8 : Int32))) = (1 : Int32)) (pin4 : (own_b (i0 &&& (16 : Int32))) = (0 : Int32)) (hc3 : ¬ ((255 : Int32) < ((i1 &&& (255 : Int32)).toUInt32.toUInt16.toUInt32.toInt32))) (hc4 : ¬ ((255 : Int32) < ((i2 &&& (255 : Int32)).toUInt32.toUInt16.toUInt32.toInt32))) :
    MetFree l x (head1 (Jvm.Cond.code x code maxLocals ret :: ws) room_1) (fun a U => a = #[(.int i0), (.int i1), (.int i2)] ∧ Z.Warmed39 U.vm ∧ U.heap = h0) (fun _ _ _ _ _ => True) (fun _ U o U' => ∃ v L, o = .returned v ∧ law_15Q Z wRequestState_UNKNOWN wRequestState_IN_PROGRESS wRequestState_REMOVED wRequestState_DONE wRequestState_FAILED wOptional_EMPTY wIntegerCache_cache zCOMPACT_STRINGS clC i0 i1 i2 h0 n0 v U'.heap L ∧ FrameEnd U o U' L room_1.cells room_1.slots) := by
  refine MetFree.of_bodySF (plainFor_of_name pn_com_example_agave_agave_store_RequestStateOfPinLaw) hisR ?_
  intro p e s m args below meth c s₁ Bd hml0 hP hK
  obtain ⟨rfl, hZ, hh⟩ := hP
  have hx := Bd.exec
  have hby := Bd.bytes
  have hml : c.maxLocals = 19 := hml0
  have hown : s.vm.findClass "com/example/agave/agave/store/RequestStateOfPinLaw" = some m.cls := findClass_of_methodNamed Bd.named
  have hnm := (name_of_methodNamed Bd.named Bd.method).1
  have X0 : Stand p l e room_1 s m #[(.int i0), (.int i1), (.int i2)] below meth c s₁ [] 0 0 := Stand.of_body Bd
  have e0 : s₁.heap = h0 := by rw [← hh, Bd.state]; rfl
  have N0 := Fr.nil n0
  have pre0 : ∀ t, Steps p.tables e below (s₁.setTop (mkF m 0 #[iv i0, iv i1, iv i2, .unset, .unset, .unset, .unset, .unset, .unset, .unset, .unset, .unset, .unset, .unset, .unset, .unset, .unset, .unset, .unset] [])) t → Steps p.tables e below (s₁.setTop (entryFrame m #[(.int i0), (.int i1), (.int i2)] maxLocals)) t := fun t k => castTop (law_15e m wRequestState_UNKNOWN wRequestState_IN_PROGRESS wRequestState_REMOVED wRequestState_DONE wRequestState_FAILED wOptional_EMPTY wIntegerCache_cache zCOMPACT_STRINGS clC i0 i1 i2) k
  obtain ⟨T1, L1, X1, e1, N1, st1⟩ := g0_1 i0 i1 i2 X0 hx hZ hw hby hml hown e0 O0 N0 (by decide) (by decide) (by decide) (by decide)
  obtain ⟨T5, h5, L5, b5_0, b5_1, b5_2, b5_3, k5_0, k5_1, X5, e5, N5, K5, lo5_1, lo5_2, lo5_3, lo5_4, nq5_5, nq5_6, nq5_7, nq5_8, nq5_9, nq5_10, f5_11, f5_12, f5_13, f5_14, f5_15, f5_16, f5_17, f5_18, f5_19, f5_20, st5⟩ := g0_2 i0 i1 i2 (0 : Int32) (1 : Int32) (1 : Int32) (1 : Int32) (0 : Int32) (own_b (i0 &&& (32 : Int32))) (own_b (i0 &&& (64 : Int32))) zCOMPACT_STRINGS X1 hx hZ hw hby hml hown e1 O0 N1 (by decide) (by decide) (by decide) (by decide) B.2.2.2.2.2.2.2.2.2.2.2.2.2.2.2.1 B.2.2.2.2.2.2.2.2.2.2.2.2.2.2.2.2.1 hc3 hc4
  have O_K5 : Old Z n0 h5 := O0.keep K5 all0
  have Kp_K5 : Keep h0 h5 [] := (Keep.refl h0 []).trans K5 all0
  obtain ⟨T6, h6, L6, b6_0, X6, e6, N6, K6, lo6_1, f6_2, f6_3, st6⟩ := g0_15 i0 i1 i2 (0 : Int32) (1 : Int32) (1 : Int32) (0 : Int32) (own_b (i0 &&& (32 : Int32))) (own_b (i0 &&& (64 : Int32))) b5_0 b5_1 wOptional_EMPTY X5 hx hZ hw hby hml hown e5 O_K5 N5 (by decide) (by decide) (by decide) (by decide) B.2.2.2.2.2.2.2.2.2.2.1
  have O_K6 : Old Z n0 h6 := O_K5.keep K6 all0
  have Kp_K6 : Keep h0 h6 [] := Kp_K5.trans K6 all0
  obtain ⟨T7, L7, X7, e7, N7, st7⟩ := g0_4 i0 i1 i2 (0 : Int32) (1 : Int32) (1 : Int32) (1 : Int32) (own_b (i0 &&& (32 : Int32))) (own_b (i0 &&& (64 : Int32))) b5_0 b5_1 b6_0 wOptional_EMPTY X6 hx hZ hw hby hml hown e6 O_K6 N6 (by decide) (by decide) (by decide) (by decide) B.2.2.2.2.2.2.2.2.2.2.1
  obtain ⟨T8, h8, L8, b8_0, X8, e8, N8, K8, st8⟩ := m0_1 i0 i1 i2 (0 : Int32) (1 : Int32) (1 : Int32) (1 : Int32) (0 : Int32) (own_b (i0 &&& (32 : Int32))) (own_b (i0 &&& (64 : Int32))) b5_0 b5_1 b6_0 wOptional_EMPTY wOptional_EMPTY wIntegerCache_cache clC X7 hx hZ hw hby hml hown e7 O_K6 N7 (by decide) (by decide) (by decide) (by decide) B.2.2.2.2.2.2.2.2.2.2.1 B.2.2.2.2.2.2.2.2.2.2.1 B.2.2.2.2.2.2.2.2.2.2.2.2.1 B.2.2.2.2.2.2.2.2.2.2.2.2.2.1 B.2.2.2.2.2.2.2.2.2.2.2.2.2.2.2.2.2.2.2.2.2.2.2.2.2.2.2.2.2.1 B.2.2.2.2.2.2.2.2.2.2.2.2.2.2.2.2.2.2.2.2.2.2.2.2.2.2.2.2.2.2.1 B.2.2.2.2.2.2.2.2.2.2.2.2.2.2.2.2.2.2.2.2.2.2.2.2.2.2.2.2.2.2.2
  have O_K8 : Old Z n0 h8 := O_K6.keep K8 all0
  have Kp_K8 : Keep h0 h8 [] := Kp_K6.trans K8 all0
  obtain ⟨T9, L9, X9, e9, N9, st9⟩ := g0_7 i0 i1 i2 (1 : Int32) (1 : Int32) (1 : Int32) (0 : Int32) (own_b (i0 &&& (32 : Int32))) (own_b (i0 &&& (64 : Int32))) b5_0 b5_1 b6_0 wOptional_EMPTY b8_0 wOptional_EMPTY X8 hx hZ hw hby hml hown e8 O_K8 N8 (by decide) (by decide) (by decide) (by decide) B.2.2.2.2.2.2.2.2.2.2.1
  obtain ⟨T10, h10, L10, b10_0, b10_1, X10, e10, N10, K10, lo10_1, lo10_2, nq10_3, f10_4, f10_5, f10_6, f10_7, f10_8, f10_9, f10_10, st10⟩ := g0_13 i0 i1 i2 (0 : Int32) (1 : Int32) (1 : Int32) (0 : Int32) (own_b (i0 &&& (32 : Int32))) (own_b (i0 &&& (64 : Int32))) b5_0 b5_1 b6_0 wOptional_EMPTY b8_0 wOptional_EMPTY wOptional_EMPTY X9 hx hZ hw hby hml hown e9 O_K8 N9 (by decide) (by decide) (by decide) (by decide) B.2.2.2.2.2.2.2.2.2.2.1
  have O_K10 : Old Z n0 h10 := O_K8.keep K10 all0
  have Kp_K10 : Keep h0 h10 [] := Kp_K8.trans K10 all0
  obtain ⟨T11, L11, X11, e11, N11, st11⟩ := g0_12 i0 i1 i2 (1 : Int32) (1 : Int32) (0 : Int32) (own_b (i0 &&& (32 : Int32))) (own_b (i0 &&& (64 : Int32))) b5_0 b5_1 b6_0 wOptional_EMPTY b8_0 wOptional_EMPTY b10_0 wRequestState_IN_PROGRESS X10 hx hZ hw hby hml hown e10 O_K10 N10 (by decide) (by decide) (by decide) (by decide) B.2.2.2.2.2.2.2.2.2.2.2.1 B.2.2.2.2.2.2.2.2.2.2.2.2.2.2.2.2.2.1 B.2.2.1
  obtain ⟨fs, hr, hrun, hended, hW, hsame⟩ := X11.leave (v := some (.int (1 : Int32))) (fun h => by rw [Bd.returns] at h; cases h)
  refine ⟨_, _, pre0 _ ?_, hrun, hended, _, _, rfl, ?_, ⟨_, rfl⟩, hW, hsame.mono (by decide) (by decide)⟩
  · refine st1 _ ?_
    show St p e below T1 m 94 #[iv i0, iv i1, iv i2, iv (own_b (i0 &&& (1 : Int32))), iv (own_b (i0 &&& (2 : Int32))), iv (own_b (i0 &&& (4 : Int32))), iv (own_b (i0 &&& (8 : Int32))), iv (own_b (i0 &&& (16 : Int32))), iv (own_b (i0 &&& (32 : Int32))), iv (own_b (i0 &&& (64 : Int32))), .unset, .unset, .unset, .unset, .unset, .unset, .unset, .unset, .unset] [] _
    rw [pin0]
    rw [pin1]
    rw [pin2]
    rw [pin3]
    rw [pin4]
    refine st5 _ ?_
    refine st6 _ ?_
    refine st7 _ ?_
    refine st8 _ ?_
    refine st9 _ ?_
    refine st10 _ ?_
    refine st11 _ ?_
    show St p e below T11 m 320 #[iv i0, iv i1, iv i2, iv (0 : Int32), iv (1 : Int32), iv (1 : Int32), iv (1 : Int32), iv (0 : Int32), iv (own_b (i0 &&& (32 : Int32))), iv (own_b (i0 &&& (64 : Int32))), rv b5_0, rv b5_1, rv b6_0, rv wOptional_EMPTY, rv b8_0, rv wOptional_EMPTY, rv b10_0, rv wRequestState_IN_PROGRESS, rv wRequestState_IN_PROGRESS] [(.int (1 : Int32))] _
    exact retN X11 hx (t := .boolean) Bd.returns (by simp) (hb hby at_320) hr
  · show law_15Q Z wRequestState_UNKNOWN wRequestState_IN_PROGRESS wRequestState_REMOVED wRequestState_DONE wRequestState_FAILED wOptional_EMPTY wIntegerCache_cache zCOMPACT_STRINGS clC i0 i1 i2 h0 n0 _ T11.heap _
    rw [e11]
    exact ⟨rfl, N11⟩
def law_16Q (Z : State) (wRequestState_UNKNOWN : Addr) (wRequestState_IN_PROGRESS : Addr) (wRequestState_REMOVED : Addr) (wRequestState_DONE : Addr) (wRequestState_FAILED : Addr) (wOptional_EMPTY : Addr) (wIntegerCache_cache : Addr) (zCOMPACT_STRINGS : Int32) (clC : Cell) (i0 : Int32) (i1 : Int32) (i2 : Int32) (h0 : Heap) (n0 : Nat) (v : Option Value) (h : Heap) (L : List Loc) : Prop := v = some (.int (1 : Int32)) ∧ Fr n0 L
theorem law_16e (m : MethodId) (wRequestState_UNKNOWN : Addr) (wRequestState_IN_PROGRESS : Addr) (wRequestState_REMOVED : Addr) (wRequestState_DONE : Addr) (wRequestState_FAILED : Addr) (wOptional_EMPTY : Addr) (wIntegerCache_cache : Addr) (zCOMPACT_STRINGS : Int32) (clC : Cell) (i0 : Int32) (i1 : Int32) (i2 : Int32) : entryFrame m #[(.int i0), (.int i1), (.int i2)] maxLocals = mkF m 0 #[iv i0, iv i1, iv i2, .unset, .unset, .unset, .unset, .unset, .unset, .unset, .unset, .unset, .unset, .unset, .unset, .unset, .unset, .unset, .unset] [] := by first | (simp [entryFrame, mkF, argsToLocals, Value.category, maxLocals]; done) | rfl
set_option maxRecDepth 65536 in
set_option maxHeartbeats 40000000 in
theorem law_16 (l : Launch) (Z : State) (a0 : Array Value) (hw : HW a0 Z) (ws : List Jvm.Cond) (wRequestState_UNKNOWN : Addr) (wRequestState_IN_PROGRESS : Addr) (wRequestState_REMOVED : Addr) (wRequestState_DONE : Addr) (wRequestState_FAILED : Addr) (wOptional_EMPTY : Addr) (wIntegerCache_cache : Addr) (zCOMPACT_STRINGS : Int32) (clC : Cell) (B : Base Z wRequestState_UNKNOWN wRequestState_IN_PROGRESS wRequestState_REMOVED wRequestState_DONE wRequestState_FAILED wOptional_EMPTY wIntegerCache_cache zCOMPACT_STRINGS clC) (i0 : Int32) (i1 : Int32) (i2 : Int32) (h0 : Heap) (n0 : Nat) (O0 : Old Z n0 h0) (pin0 : (own_b (i0 &&& (1 : Int32))) = (1 : Int32)) (pin1 : (own_b (i0 &&& (2 : Int32))) = (1 : Int32)) (pin2 : (own_b (i0 &&& (4 : Int32))) = (1 : Int32)) (pin3 : (own_b (i0 &&& (8 : Int32))) = (1 : Int32)) (pin4 : (own_b (i0 &&& (16 : Int32))) = (0 : Int32)) (hc3 : ¬ ((255 : Int32) < ((i1 &&& (255 : Int32)).toUInt32.toUInt16.toUInt32.toInt32))) (hc4 : ¬ ((255 : Int32) < ((i2 &&& (255 : Int32)).toUInt32.toUInt16.toUInt32.toInt32))) :
    MetFree l x (head1 (Jvm.Cond.code x code maxLocals ret :: ws) room_1) (fun a U => a = #[(.int i0), (.int i1), (.int i2)] ∧ Z.Warmed39 U.vm ∧ U.heap = h0) (fun _ _ _ _ _ => True) (fun _ U o U' => ∃ v L, o = .returned v ∧ law_16Q Z wRequestState_UNKNOWN wRequestState_IN_PROGRESS wRequestState_REMOVED wRequestState_DONE wRequestState_FAILED wOptional_EMPTY wIntegerCache_cache zCOMPACT_STRINGS clC i0 i1 i2 h0 n0 v U'.heap L ∧ FrameEnd U o U' L room_1.cells room_1.slots) := by
  refine MetFree.of_bodySF (plainFor_of_name pn_com_example_agave_agave_store_RequestStateOfPinLaw) hisR ?_
  intro p e s m args below meth c s₁ Bd hml0 hP hK
  obtain ⟨rfl, hZ, hh⟩ := hP
  have hx := Bd.exec
  have hby := Bd.bytes
  have hml : c.maxLocals = 19 := hml0
  have hown : s.vm.findClass "com/example/agave/agave/store/RequestStateOfPinLaw" = some m.cls := findClass_of_methodNamed Bd.named
  have hnm := (name_of_methodNamed Bd.named Bd.method).1
  have X0 : Stand p l e room_1 s m #[(.int i0), (.int i1), (.int i2)] below meth c s₁ [] 0 0 := Stand.of_body Bd
  have e0 : s₁.heap = h0 := by rw [← hh, Bd.state]; rfl
  have N0 := Fr.nil n0
  have pre0 : ∀ t, Steps p.tables e below (s₁.setTop (mkF m 0 #[iv i0, iv i1, iv i2, .unset, .unset, .unset, .unset, .unset, .unset, .unset, .unset, .unset, .unset, .unset, .unset, .unset, .unset, .unset, .unset] [])) t → Steps p.tables e below (s₁.setTop (entryFrame m #[(.int i0), (.int i1), (.int i2)] maxLocals)) t := fun t k => castTop (law_16e m wRequestState_UNKNOWN wRequestState_IN_PROGRESS wRequestState_REMOVED wRequestState_DONE wRequestState_FAILED wOptional_EMPTY wIntegerCache_cache zCOMPACT_STRINGS clC i0 i1 i2) k
  obtain ⟨T1, L1, X1, e1, N1, st1⟩ := g0_1 i0 i1 i2 X0 hx hZ hw hby hml hown e0 O0 N0 (by decide) (by decide) (by decide) (by decide)
  obtain ⟨T5, h5, L5, b5_0, b5_1, b5_2, b5_3, k5_0, k5_1, X5, e5, N5, K5, lo5_1, lo5_2, lo5_3, lo5_4, nq5_5, nq5_6, nq5_7, nq5_8, nq5_9, nq5_10, f5_11, f5_12, f5_13, f5_14, f5_15, f5_16, f5_17, f5_18, f5_19, f5_20, st5⟩ := g0_2 i0 i1 i2 (1 : Int32) (1 : Int32) (1 : Int32) (1 : Int32) (0 : Int32) (own_b (i0 &&& (32 : Int32))) (own_b (i0 &&& (64 : Int32))) zCOMPACT_STRINGS X1 hx hZ hw hby hml hown e1 O0 N1 (by decide) (by decide) (by decide) (by decide) B.2.2.2.2.2.2.2.2.2.2.2.2.2.2.2.1 B.2.2.2.2.2.2.2.2.2.2.2.2.2.2.2.2.1 hc3 hc4
  have O_K5 : Old Z n0 h5 := O0.keep K5 all0
  have Kp_K5 : Keep h0 h5 [] := (Keep.refl h0 []).trans K5 all0
  obtain ⟨T6, h6, L6, b6_0, X6, e6, N6, K6, lo6_1, f6_2, f6_3, st6⟩ := g0_15 i0 i1 i2 (1 : Int32) (1 : Int32) (1 : Int32) (0 : Int32) (own_b (i0 &&& (32 : Int32))) (own_b (i0 &&& (64 : Int32))) b5_0 b5_1 wOptional_EMPTY X5 hx hZ hw hby hml hown e5 O_K5 N5 (by decide) (by decide) (by decide) (by decide) B.2.2.2.2.2.2.2.2.2.2.1
  have O_K6 : Old Z n0 h6 := O_K5.keep K6 all0
  have Kp_K6 : Keep h0 h6 [] := Kp_K5.trans K6 all0
  obtain ⟨T7, L7, X7, e7, N7, st7⟩ := g0_4 i0 i1 i2 (1 : Int32) (1 : Int32) (1 : Int32) (1 : Int32) (own_b (i0 &&& (32 : Int32))) (own_b (i0 &&& (64 : Int32))) b5_0 b5_1 b6_0 wOptional_EMPTY X6 hx hZ hw hby hml hown e6 O_K6 N6 (by decide) (by decide) (by decide) (by decide) B.2.2.2.2.2.2.2.2.2.2.1
  obtain ⟨T8, h8, L8, b8_0, X8, e8, N8, K8, st8⟩ := m0_1 i0 i1 i2 (1 : Int32) (1 : Int32) (1 : Int32) (1 : Int32) (0 : Int32) (own_b (i0 &&& (32 : Int32))) (own_b (i0 &&& (64 : Int32))) b5_0 b5_1 b6_0 wOptional_EMPTY wOptional_EMPTY wIntegerCache_cache clC X7 hx hZ hw hby hml hown e7 O_K6 N7 (by decide) (by decide) (by decide) (by decide) B.2.2.2.2.2.2.2.2.2.2.1 B.2.2.2.2.2.2.2.2.2.2.1 B.2.2.2.2.2.2.2.2.2.2.2.2.1 B.2.2.2.2.2.2.2.2.2.2.2.2.2.1 B.2.2.2.2.2.2.2.2.2.2.2.2.2.2.2.2.2.2.2.2.2.2.2.2.2.2.2.2.2.1 B.2.2.2.2.2.2.2.2.2.2.2.2.2.2.2.2.2.2.2.2.2.2.2.2.2.2.2.2.2.2.1 B.2.2.2.2.2.2.2.2.2.2.2.2.2.2.2.2.2.2.2.2.2.2.2.2.2.2.2.2.2.2.2
  have O_K8 : Old Z n0 h8 := O_K6.keep K8 all0
  have Kp_K8 : Keep h0 h8 [] := Kp_K6.trans K8 all0
  obtain ⟨T9, h9, L9, b9_0, b9_1, X9, e9, N9, K9, lo9_1, lo9_2, nq9_3, f9_4, f9_5, f9_6, f9_7, f9_8, f9_9, f9_10, f9_11, st9⟩ := g0_10 i0 i1 i2 (1 : Int32) (1 : Int32) (1 : Int32) (0 : Int32) (own_b (i0 &&& (32 : Int32))) (own_b (i0 &&& (64 : Int32))) b5_0 b5_1 b6_0 wOptional_EMPTY b8_0 wOptional_EMPTY X8 hx hZ hw hby hml hown e8 O_K8 N8 (by decide) (by decide) (by decide) (by decide) B.2.2.2.2.2.2.2.2.2.2.1
  have O_K9 : Old Z n0 h9 := O_K8.keep K9 all0
  have Kp_K9 : Keep h0 h9 [] := Kp_K8.trans K9 all0
  obtain ⟨T10, h10, L10, b10_0, b10_1, X10, e10, N10, K10, lo10_1, lo10_2, nq10_3, f10_4, f10_5, f10_6, f10_7, f10_8, f10_9, f10_10, st10⟩ := g0_13 i0 i1 i2 (1 : Int32) (1 : Int32) (1 : Int32) (0 : Int32) (own_b (i0 &&& (32 : Int32))) (own_b (i0 &&& (64 : Int32))) b5_0 b5_1 b6_0 wOptional_EMPTY b8_0 b9_0 wOptional_EMPTY X9 hx hZ hw hby hml hown e9 O_K9 N9 (by decide) (by decide) (by decide) (by decide) B.2.2.2.2.2.2.2.2.2.2.1
  have O_K10 : Old Z n0 h10 := O_K9.keep K10 all0
  have Kp_K10 : Keep h0 h10 [] := Kp_K9.trans K10 all0
  have f11 := (f9_4.keep K10)
  have f12 := (f9_5.keep K10 nin0)
  have f13 := (f9_6.keep K10)
  have f14 := (f9_10.keep K10 nin0)
  have f15 := (f9_9.keep K10 nin0)
  have f16 := (((f6_2.keep K8).keep K9).keep K10)
  have f17 := (((f6_3.keep K8 nin0).keep K9 nin0).keep K10 nin0)
  obtain ⟨T18, L18, X18, e18, N18, st18⟩ := g0_16 i0 i1 i2 (1 : Int32) (1 : Int32) (own_b (i0 &&& (32 : Int32))) (own_b (i0 &&& (64 : Int32))) b5_0 b5_1 b6_0 wOptional_EMPTY b8_0 b9_0 b10_0 b9_1 wOptional_EMPTY b6_0 b5_0 wRequestState_DONE X10 hx hZ hw hby hml hown e10 O_K10 N10 (by decide) (by decide) (by decide) (by decide) f11 f12 f13 f14 B.2.2.2.2.2.2.2.2.2.2.2.1 B.2.2.2.2.2.2.2.2.2.2.2.2.2.2.2.2.2.1 f15 f16 f17 B.2.2.2.2.2.2.1
  obtain ⟨fs, hr, hrun, hended, hW, hsame⟩ := X18.leave (v := some (.int (1 : Int32))) (fun h => by rw [Bd.returns] at h; cases h)
  refine ⟨_, _, pre0 _ ?_, hrun, hended, _, _, rfl, ?_, ⟨_, rfl⟩, hW, hsame.mono (by decide) (by decide)⟩
  · refine st1 _ ?_
    show St p e below T1 m 94 #[iv i0, iv i1, iv i2, iv (own_b (i0 &&& (1 : Int32))), iv (own_b (i0 &&& (2 : Int32))), iv (own_b (i0 &&& (4 : Int32))), iv (own_b (i0 &&& (8 : Int32))), iv (own_b (i0 &&& (16 : Int32))), iv (own_b (i0 &&& (32 : Int32))), iv (own_b (i0 &&& (64 : Int32))), .unset, .unset, .unset, .unset, .unset, .unset, .unset, .unset, .unset] [] _
    rw [pin0]
    rw [pin1]
    rw [pin2]
    rw [pin3]
    rw [pin4]
    refine st5 _ ?_
    refine st6 _ ?_
    refine st7 _ ?_
    refine st8 _ ?_
    refine st9 _ ?_
    refine st10 _ ?_
    refine st18 _ ?_
    show St p e below T18 m 320 #[iv i0, iv i1, iv i2, iv (1 : Int32), iv (1 : Int32), iv (1 : Int32), iv (1 : Int32), iv (0 : Int32), iv (own_b (i0 &&& (32 : Int32))), iv (own_b (i0 &&& (64 : Int32))), rv b5_0, rv b5_1, rv b6_0, rv wOptional_EMPTY, rv b8_0, rv b9_0, rv b10_0, rv wRequestState_DONE, rv wRequestState_DONE] [(.int (1 : Int32))] _
    exact retN X18 hx (t := .boolean) Bd.returns (by simp) (hb hby at_320) hr
  · show law_16Q Z wRequestState_UNKNOWN wRequestState_IN_PROGRESS wRequestState_REMOVED wRequestState_DONE wRequestState_FAILED wOptional_EMPTY wIntegerCache_cache zCOMPACT_STRINGS clC i0 i1 i2 h0 n0 _ T18.heap _
    rw [e18]
    exact ⟨rfl, N18⟩
set_option maxRecDepth 65536 in
set_option maxHeartbeats 40000000 in
theorem g0_17 {p : Program} {l : Launch} {e : Env} {R : Room} {s : State} {m : MethodId} {args : Array Value} {below : List Frame} {meth : Method} {c : Code} {T0 : State} {locs : List Loc} {cells slots : Nat} {Z : State} {a0 : Array Value} {h0 : Heap} {n0 : Nat} (p1 : Int32) (p2 : Int32) (p3 : Int32) (p4 : Int32) (p5 : Int32) (p6 : Int32) (p7 : Int32) (p8 : Int32) (p9 : Int32) (a10 : Addr) (a11 : Addr) (a12 : Addr) (a13 : Addr)
    (X0 : Stand p l e R s m args below meth c T0 locs cells slots) (hx : p.tables.exec = Jvm.exec) (hZ : Z.Warmed39 s.vm) (hw : HW a0 Z) (hby : c.code = code) (hml : c.maxLocals = 19) (hown : s.vm.findClass "com/example/agave/agave/store/RequestStateOfPinLaw" = some m.cls) (e0 : T0.heap = h0) (O0 : Old Z n0 h0) (N0 : Fr n0 locs) (rc : cells + 1 ≤ R.cells) (rs : slots + 1 ≤ R.slots) (rf : 3 ≤ R.frames) (rl : 38 ≤ R.locals) (H14 : Sta Z Z.heap "java/util/Optional" "EMPTY" "Ljava/util/Optional;" (.ref a13)) :
    ∃ (T' : State) (h' : Heap) (L' : List Loc) (b16_0 : Addr), Stand p l e R s m args below meth c T' L' (cells + 1) (slots + 1) ∧ T'.heap = h' ∧ Fr n0 L' ∧ Keep h0 h' [] ∧ h0.size ≤ b16_0 ∧ Exa Z h' b16_0 "java/util/Optional" ∧ Fld Z h' b16_0 "java/util/Optional" "value" "Ljava/lang/Object;" (.ref a11) ∧
      ∀ target, St p e below T' m 150 #[iv p1, iv p2, iv p3, iv p4, iv p5, iv p6, iv p7, iv (1 : Int32), iv p8, iv p9, rv a10, rv a11, rv a12, rv b16_0, .unset, .unset, .unset, .unset, .unset] [] target → St p e below T0 m 133 #[iv p1, iv p2, iv p3, iv p4, iv p5, iv p6, iv p7, iv (1 : Int32), iv p8, iv p9, rv a10, rv a11, rv a12, .unset, .unset, .unset, .unset, .unset, .unset] [] target := by
  obtain ⟨_, _, ⟨T15, L15, k15, n15⟩, -, X15, ⟨Lc15, hQ15, l15, y15, z15⟩, st15⟩ := Jvm.LawKit.callS X0 hx (y := y5) hown (mvT hZ (ow hw 26 rfl)) (mvT hZ (ow hw 27 rfl)) (mvT hZ (ow hw 28 rfl)) (mvT hZ (ow hw 29 rfl)) (by decide) (backOf (W := 0) (r5_1 l Z a0 hw [] a13 h0 n0 O0 H14) hZ (ow hw 29 rfl) (ow hw 28 rfl) (by show 0 + 1 ≤ R.frames; omega) (by show 0 + (1 + 11) + 0 ≤ R.locals; omega)) (g := (mkF m 133 #[iv p1, iv p2, iv p3, iv p4, iv p5, iv p6, iv p7, iv (1 : Int32), iv p8, iv p9, rv a10, rv a11, rv a12, .unset, .unset, .unset, .unset, .unset, .unset] [])) rfl (by rw [hml]; rfl) (argsL := []) (rest := []) (lenOf pd___Ljava_util_Optional_ rfl) rfl (by show 2 * 0 + _ ≤ _; exact Nat.le_of_eq rfl) (hb hby at_133) (fun _ _ => ⟨rfl, e0, (by show cells + 0 + 0 ≤ R.cells; omega), (by show slots + 0 + 0 ≤ R.slots; omega)⟩)
  dsimp only [Pt.U, Pt.locs, Pt.cells, Pt.slots] at X15 l15 y15 z15 st15 hQ15
  subst l15
  rw [y15, z15] at X15
  obtain ⟨rfl, N15q, e15⟩ := hQ15
  have N15 := Fr.app N0 N15q
  replace X15 : Stand p l e R _ m args below meth c T15 _ (cells + 0) (slots + 0) := X15
  obtain ⟨_, _, ⟨T16, L16, k16, n16⟩, -, X16, ⟨Lc16, hQ16, l16, y16, z16⟩, st16⟩ := Jvm.LawKit.callS X15 hx (y := y9) hown (mvT hZ (ow hw 72 rfl)) (mvT hZ (ow hw 73 rfl)) (mvT hZ (ow hw 28 rfl)) (mvT hZ (ow hw 74 rfl)) (by decide) (backOf (W := 0) (r9_1 l Z a0 hw [] a11 h0 n0 O0) hZ (ow hw 74 rfl) (ow hw 28 rfl) (by show 2 + 1 ≤ R.frames; omega) (by show 0 + (1 + 11) + 26 ≤ R.locals; omega)) (g := (mkF m 145 #[iv p1, iv p2, iv p3, iv p4, iv p5, iv p6, iv p7, iv (1 : Int32), iv p8, iv p9, rv a10, rv a11, rv a12, rv a13, .unset, .unset, .unset, .unset, .unset] [(.ref a11)])) rfl (by rw [hml]; rfl) (argsL := [(.ref a11)]) (rest := []) (lenOf pd__Ljava_lang_Object__Ljava_util_Optional_ rfl) rfl (by show 2 * 0 + _ ≤ _; exact Nat.le_of_eq rfl) (hb hby at_145) (fun _ _ => ⟨rfl, e15, (by show cells + 0 + 1 ≤ R.cells; omega), (by show slots + 0 + 1 ≤ R.slots; omega)⟩)
  dsimp only [Pt.U, Pt.locs, Pt.cells, Pt.slots] at X16 l16 y16 z16 st16 hQ16
  subst l16
  rw [y16, z16] at X16
  obtain ⟨b16_0, rfl, N16q, K16, lo16_1, f16_2, f16_3⟩ := hQ16
  have N16 := Fr.app N15 N16q
  have O_K16 : Old Z n0 T16.heap := O0.keep K16 all0
  have Kp_K16 : Keep h0 T16.heap [] := (Keep.refl h0 []).trans K16 all0
  replace X16 : Stand p l e R _ m args below meth c T16 _ (cells + 1) (slots + 1) := X16
  have z17 : h0.size ≤ b16_0 := Nat.le_trans (Keep.refl h0 []).1 lo16_1
  refine ⟨T16, _, _, b16_0, X16.more (by omega) (by omega), rfl, N16, Kp_K16, z17, f16_2, f16_3, fun target kt => ?_⟩
  show St p e below T0 m 133 #[iv p1, iv p2, iv p3, iv p4, iv p5, iv p6, iv p7, iv (1 : Int32), iv p8, iv p9, rv a10, rv a11, rv a12, .unset, .unset, .unset, .unset, .unset, .unset] [] _
  refine st15 _ ?_
  show St p e below T15 m 136 #[iv p1, iv p2, iv p3, iv p4, iv p5, iv p6, iv p7, iv (1 : Int32), iv p8, iv p9, rv a10, rv a11, rv a12, .unset, .unset, .unset, .unset, .unset, .unset] [(.ref a13)] _
  refine XS.astore X15.here hx rfl (hb hby at_136) rfl rfl (l' := #[iv p1, iv p2, iv p3, iv p4, iv p5, iv p6, iv p7, iv (1 : Int32), iv p8, iv p9, rv a10, rv a11, rv a12, rv a13, .unset, .unset, .unset, .unset, .unset]) rfl ?_
  show St p e below T15 m 138 #[iv p1, iv p2, iv p3, iv p4, iv p5, iv p6, iv p7, iv (1 : Int32), iv p8, iv p9, rv a10, rv a11, rv a12, rv a13, .unset, .unset, .unset, .unset, .unset] [] _
  refine XS.iload X15.here hx rfl (hb hby at_138) rfl ?_
  show St p e below T15 m 140 #[iv p1, iv p2, iv p3, iv p4, iv p5, iv p6, iv p7, iv (1 : Int32), iv p8, iv p9, rv a10, rv a11, rv a12, rv a13, .unset, .unset, .unset, .unset, .unset] [(.int (1 : Int32))] _
  refine XS.ifNo X15.here hx rfl (hb hby at_140) rfl ((if0 _ _).trans (feq (by decide : ¬ ((1 : Int32) = (0 : Int32)))).1) ?_
  show St p e below T15 m 143 #[iv p1, iv p2, iv p3, iv p4, iv p5, iv p6, iv p7, iv (1 : Int32), iv p8, iv p9, rv a10, rv a11, rv a12, rv a13, .unset, .unset, .unset, .unset, .unset] [] _
  refine XS.aload X15.here hx rfl (hb hby at_143) rfl rfl ?_
  show St p e below T15 m 145 #[iv p1, iv p2, iv p3, iv p4, iv p5, iv p6, iv p7, iv (1 : Int32), iv p8, iv p9, rv a10, rv a11, rv a12, rv a13, .unset, .unset, .unset, .unset, .unset] [(.ref a11)] _
  refine st16 _ ?_
  show St p e below T16 m 148 #[iv p1, iv p2, iv p3, iv p4, iv p5, iv p6, iv p7, iv (1 : Int32), iv p8, iv p9, rv a10, rv a11, rv a12, rv a13, .unset, .unset, .unset, .unset, .unset] [(.ref b16_0)] _
  refine XS.astore X16.here hx rfl (hb hby at_148) rfl rfl (l' := #[iv p1, iv p2, iv p3, iv p4, iv p5, iv p6, iv p7, iv (1 : Int32), iv p8, iv p9, rv a10, rv a11, rv a12, rv b16_0, .unset, .unset, .unset, .unset, .unset]) rfl ?_
  exact kt
def law_17Q (Z : State) (wRequestState_UNKNOWN : Addr) (wRequestState_IN_PROGRESS : Addr) (wRequestState_REMOVED : Addr) (wRequestState_DONE : Addr) (wRequestState_FAILED : Addr) (wOptional_EMPTY : Addr) (wIntegerCache_cache : Addr) (zCOMPACT_STRINGS : Int32) (clC : Cell) (i0 : Int32) (i1 : Int32) (i2 : Int32) (h0 : Heap) (n0 : Nat) (v : Option Value) (h : Heap) (L : List Loc) : Prop := v = some (.int (1 : Int32)) ∧ Fr n0 L
theorem law_17e (m : MethodId) (wRequestState_UNKNOWN : Addr) (wRequestState_IN_PROGRESS : Addr) (wRequestState_REMOVED : Addr) (wRequestState_DONE : Addr) (wRequestState_FAILED : Addr) (wOptional_EMPTY : Addr) (wIntegerCache_cache : Addr) (zCOMPACT_STRINGS : Int32) (clC : Cell) (i0 : Int32) (i1 : Int32) (i2 : Int32) : entryFrame m #[(.int i0), (.int i1), (.int i2)] maxLocals = mkF m 0 #[iv i0, iv i1, iv i2, .unset, .unset, .unset, .unset, .unset, .unset, .unset, .unset, .unset, .unset, .unset, .unset, .unset, .unset, .unset, .unset] [] := by first | (simp [entryFrame, mkF, argsToLocals, Value.category, maxLocals]; done) | rfl
set_option maxRecDepth 65536 in
set_option maxHeartbeats 40000000 in
theorem law_17 (l : Launch) (Z : State) (a0 : Array Value) (hw : HW a0 Z) (ws : List Jvm.Cond) (wRequestState_UNKNOWN : Addr) (wRequestState_IN_PROGRESS : Addr) (wRequestState_REMOVED : Addr) (wRequestState_DONE : Addr) (wRequestState_FAILED : Addr) (wOptional_EMPTY : Addr) (wIntegerCache_cache : Addr) (zCOMPACT_STRINGS : Int32) (clC : Cell) (B : Base Z wRequestState_UNKNOWN wRequestState_IN_PROGRESS wRequestState_REMOVED wRequestState_DONE wRequestState_FAILED wOptional_EMPTY wIntegerCache_cache zCOMPACT_STRINGS clC) (i0 : Int32) (i1 : Int32) (i2 : Int32) (h0 : Heap) (n0 : Nat) (O0 : Old Z n0 h0) (pin0 : (own_b (i0 &&& (1 : Int32))) = (0 : Int32)) (pin1 : (own_b (i0 &&& (2 : Int32))) = (0 : Int32)) (pin2 : (own_b (i0 &&& (4 : Int32))) = (0 : Int32)) (pin3 : (own_b (i0 &&& (8 : Int32))) = (0 : Int32)) (pin4 : (own_b (i0 &&& (16 : Int32))) = (1 : Int32)) (hc3 : ¬ ((255 : Int32) < ((i1 &&& (255 : Int32)).toUInt32.toUInt16.toUInt32.toInt32))) (hc4 : ¬ ((255 : Int32) < ((i2 &&& (255 : Int32)).toUInt32.toUInt16.toUInt32.toInt32))) :
    MetFree l x (head1 (Jvm.Cond.code x code maxLocals ret :: ws) room_1) (fun a U => a = #[(.int i0), (.int i1), (.int i2)] ∧ Z.Warmed39 U.vm ∧ U.heap = h0) (fun _ _ _ _ _ => True) (fun _ U o U' => ∃ v L, o = .returned v ∧ law_17Q Z wRequestState_UNKNOWN wRequestState_IN_PROGRESS wRequestState_REMOVED wRequestState_DONE wRequestState_FAILED wOptional_EMPTY wIntegerCache_cache zCOMPACT_STRINGS clC i0 i1 i2 h0 n0 v U'.heap L ∧ FrameEnd U o U' L room_1.cells room_1.slots) := by
  refine MetFree.of_bodySF (plainFor_of_name pn_com_example_agave_agave_store_RequestStateOfPinLaw) hisR ?_
  intro p e s m args below meth c s₁ Bd hml0 hP hK
  obtain ⟨rfl, hZ, hh⟩ := hP
  have hx := Bd.exec
  have hby := Bd.bytes
  have hml : c.maxLocals = 19 := hml0
  have hown : s.vm.findClass "com/example/agave/agave/store/RequestStateOfPinLaw" = some m.cls := findClass_of_methodNamed Bd.named
  have hnm := (name_of_methodNamed Bd.named Bd.method).1
  have X0 : Stand p l e room_1 s m #[(.int i0), (.int i1), (.int i2)] below meth c s₁ [] 0 0 := Stand.of_body Bd
  have e0 : s₁.heap = h0 := by rw [← hh, Bd.state]; rfl
  have N0 := Fr.nil n0
  have pre0 : ∀ t, Steps p.tables e below (s₁.setTop (mkF m 0 #[iv i0, iv i1, iv i2, .unset, .unset, .unset, .unset, .unset, .unset, .unset, .unset, .unset, .unset, .unset, .unset, .unset, .unset, .unset, .unset] [])) t → Steps p.tables e below (s₁.setTop (entryFrame m #[(.int i0), (.int i1), (.int i2)] maxLocals)) t := fun t k => castTop (law_17e m wRequestState_UNKNOWN wRequestState_IN_PROGRESS wRequestState_REMOVED wRequestState_DONE wRequestState_FAILED wOptional_EMPTY wIntegerCache_cache zCOMPACT_STRINGS clC i0 i1 i2) k
  obtain ⟨T1, L1, X1, e1, N1, st1⟩ := g0_1 i0 i1 i2 X0 hx hZ hw hby hml hown e0 O0 N0 (by decide) (by decide) (by decide) (by decide)
  obtain ⟨T5, h5, L5, b5_0, b5_1, b5_2, b5_3, k5_0, k5_1, X5, e5, N5, K5, lo5_1, lo5_2, lo5_3, lo5_4, nq5_5, nq5_6, nq5_7, nq5_8, nq5_9, nq5_10, f5_11, f5_12, f5_13, f5_14, f5_15, f5_16, f5_17, f5_18, f5_19, f5_20, st5⟩ := g0_2 i0 i1 i2 (0 : Int32) (0 : Int32) (0 : Int32) (0 : Int32) (1 : Int32) (own_b (i0 &&& (32 : Int32))) (own_b (i0 &&& (64 : Int32))) zCOMPACT_STRINGS X1 hx hZ hw hby hml hown e1 O0 N1 (by decide) (by decide) (by decide) (by decide) B.2.2.2.2.2.2.2.2.2.2.2.2.2.2.2.1 B.2.2.2.2.2.2.2.2.2.2.2.2.2.2.2.2.1 hc3 hc4
  have O_K5 : Old Z n0 h5 := O0.keep K5 all0
  have Kp_K5 : Keep h0 h5 [] := (Keep.refl h0 []).trans K5 all0
  obtain ⟨T6, L6, X6, e6, N6, st6⟩ := g0_3 i0 i1 i2 (0 : Int32) (0 : Int32) (0 : Int32) (1 : Int32) (own_b (i0 &&& (32 : Int32))) (own_b (i0 &&& (64 : Int32))) b5_0 b5_1 wOptional_EMPTY X5 hx hZ hw hby hml hown e5 O_K5 N5 (by decide) (by decide) (by decide) (by decide) B.2.2.2.2.2.2.2.2.2.2.1
  obtain ⟨T7, h7, L7, b7_0, X7, e7, N7, K7, lo7_1, f7_2, f7_3, st7⟩ := g0_17 i0 i1 i2 (0 : Int32) (0 : Int32) (0 : Int32) (0 : Int32) (own_b (i0 &&& (32 : Int32))) (own_b (i0 &&& (64 : Int32))) b5_0 b5_1 wOptional_EMPTY wOptional_EMPTY X6 hx hZ hw hby hml hown e6 O_K5 N6 (by decide) (by decide) (by decide) (by decide) B.2.2.2.2.2.2.2.2.2.2.1
  have O_K7 : Old Z n0 h7 := O_K5.keep K7 all0
  have Kp_K7 : Keep h0 h7 [] := Kp_K5.trans K7 all0
  obtain ⟨T8, h8, L8, b8_0, X8, e8, N8, K8, st8⟩ := m0_1 i0 i1 i2 (0 : Int32) (0 : Int32) (0 : Int32) (0 : Int32) (1 : Int32) (own_b (i0 &&& (32 : Int32))) (own_b (i0 &&& (64 : Int32))) b5_0 b5_1 wOptional_EMPTY b7_0 wOptional_EMPTY wIntegerCache_cache clC X7 hx hZ hw hby hml hown e7 O_K7 N7 (by decide) (by decide) (by decide) (by decide) B.2.2.2.2.2.2.2.2.2.2.1 B.2.2.2.2.2.2.2.2.2.2.1 B.2.2.2.2.2.2.2.2.2.2.2.2.1 B.2.2.2.2.2.2.2.2.2.2.2.2.2.1 B.2.2.2.2.2.2.2.2.2.2.2.2.2.2.2.2.2.2.2.2.2.2.2.2.2.2.2.2.2.1 B.2.2.2.2.2.2.2.2.2.2.2.2.2.2.2.2.2.2.2.2.2.2.2.2.2.2.2.2.2.2.1 B.2.2.2.2.2.2.2.2.2.2.2.2.2.2.2.2.2.2.2.2.2.2.2.2.2.2.2.2.2.2.2
  have O_K8 : Old Z n0 h8 := O_K7.keep K8 all0
  have Kp_K8 : Keep h0 h8 [] := Kp_K7.trans K8 all0
  obtain ⟨T9, L9, X9, e9, N9, st9⟩ := g0_7 i0 i1 i2 (0 : Int32) (0 : Int32) (0 : Int32) (1 : Int32) (own_b (i0 &&& (32 : Int32))) (own_b (i0 &&& (64 : Int32))) b5_0 b5_1 wOptional_EMPTY b7_0 b8_0 wOptional_EMPTY X8 hx hZ hw hby hml hown e8 O_K8 N8 (by decide) (by decide) (by decide) (by decide) B.2.2.2.2.2.2.2.2.2.2.1
  obtain ⟨T10, L10, X10, e10, N10, st10⟩ := g0_8 i0 i1 i2 (0 : Int32) (0 : Int32) (0 : Int32) (1 : Int32) (own_b (i0 &&& (32 : Int32))) (own_b (i0 &&& (64 : Int32))) b5_0 b5_1 wOptional_EMPTY b7_0 b8_0 wOptional_EMPTY wOptional_EMPTY X9 hx hZ hw hby hml hown e9 O_K8 N9 (by decide) (by decide) (by decide) (by decide) B.2.2.2.2.2.2.2.2.2.2.1
  obtain ⟨T11, L11, X11, e11, N11, st11⟩ := g0_9 i0 i1 i2 (0 : Int32) (1 : Int32) (own_b (i0 &&& (32 : Int32))) (own_b (i0 &&& (64 : Int32))) b5_0 b5_1 wOptional_EMPTY b7_0 b8_0 wOptional_EMPTY wRequestState_UNKNOWN X10 hx hZ hw hby hml hown e10 O_K8 N10 (by decide) (by decide) (by decide) (by decide) B.2.2.2.2.2.2.2.2.2.2.2.1 B.2.2.2.2.2.2.2.2.2.2.2.2.2.2.2.2.2.1 B.1
  obtain ⟨fs, hr, hrun, hended, hW, hsame⟩ := X11.leave (v := some (.int (1 : Int32))) (fun h => by rw [Bd.returns] at h; cases h)
  refine ⟨_, _, pre0 _ ?_, hrun, hended, _, _, rfl, ?_, ⟨_, rfl⟩, hW, hsame.mono (by decide) (by decide)⟩
  · refine st1 _ ?_
    show St p e below T1 m 94 #[iv i0, iv i1, iv i2, iv (own_b (i0 &&& (1 : Int32))), iv (own_b (i0 &&& (2 : Int32))), iv (own_b (i0 &&& (4 : Int32))), iv (own_b (i0 &&& (8 : Int32))), iv (own_b (i0 &&& (16 : Int32))), iv (own_b (i0 &&& (32 : Int32))), iv (own_b (i0 &&& (64 : Int32))), .unset, .unset, .unset, .unset, .unset, .unset, .unset, .unset, .unset] [] _
    rw [pin0]
    rw [pin1]
    rw [pin2]
    rw [pin3]
    rw [pin4]
    refine st5 _ ?_
    refine st6 _ ?_
    refine st7 _ ?_
    refine st8 _ ?_
    refine st9 _ ?_
    refine st10 _ ?_
    refine st11 _ ?_
    show St p e below T11 m 320 #[iv i0, iv i1, iv i2, iv (0 : Int32), iv (0 : Int32), iv (0 : Int32), iv (0 : Int32), iv (1 : Int32), iv (own_b (i0 &&& (32 : Int32))), iv (own_b (i0 &&& (64 : Int32))), rv b5_0, rv b5_1, rv wOptional_EMPTY, rv b7_0, rv b8_0, rv wOptional_EMPTY, rv wOptional_EMPTY, rv wRequestState_UNKNOWN, rv wRequestState_UNKNOWN] [(.int (1 : Int32))] _
    exact retN X11 hx (t := .boolean) Bd.returns (by simp) (hb hby at_320) hr
  · show law_17Q Z wRequestState_UNKNOWN wRequestState_IN_PROGRESS wRequestState_REMOVED wRequestState_DONE wRequestState_FAILED wOptional_EMPTY wIntegerCache_cache zCOMPACT_STRINGS clC i0 i1 i2 h0 n0 _ T11.heap _
    rw [e11]
    exact ⟨rfl, N11⟩
theorem d12_69 : decode prog_13_method_4_code 69 = .ok (.getstatic 7, 3) := by decide +kernel
theorem d12_72 : decode prog_13_method_4_code 72 = .ok (.astore_n 3, 1) := by decide +kernel
theorem d12_73 : decode prog_13_method_4_code 73 = .ok (.goto 30, 3) := by decide +kernel
def r12_6Q (Z : State) (a1 : Addr) (p2 : Int32) (a3 : Addr) (a5 : Addr) (a13 : Addr) (a17 : Addr) (a20 : Addr) (h0 : Heap) (n0 : Nat) (v : Option Value) (h : Heap) (L : List Loc) : Prop := v = some (.ref a20) ∧ Fr n0 L ∧ h = h0
theorem r12_6e (m : MethodId) (a1 : Addr) (p2 : Int32) (a3 : Addr) (a5 : Addr) (a13 : Addr) (a17 : Addr) (a20 : Addr) : entryFrame m #[(.ref a1), (.int p2), (.ref a3)] 4 = mkF m 0 #[rv a1, iv p2, rv a3, .unset] [] := by first | (simp [entryFrame, mkF, argsToLocals, Value.category]; done) | rfl
set_option maxRecDepth 65536 in
set_option maxHeartbeats 40000000 in
theorem r12_6 (l : Launch) (Z : State) (a0 : Array Value) (hw : HW a0 Z) (ws : List Jvm.Cond) (a1 : Addr) (p2 : Int32) (a3 : Addr) (a5 : Addr) (a13 : Addr) (a17 : Addr) (a20 : Addr) (h0 : Heap) (n0 : Nat) (O0 : Old Z n0 h0) (H4 : Exa Z h0 a1 "java/util/Optional") (H6 : Fld Z h0 a1 "java/util/Optional" "value" "Ljava/lang/Object;" (.ref a5)) (H12 : Exa Z h0 a5 "com/example/agave/agave/store/RequestStore$StoredRequest") (H14 : Fld Z h0 a5 "com/example/agave/agave/store/RequestStore$StoredRequest" "failure" "Ljava/util/Optional;" (.ref a13)) (H16 : Exa Z h0 a13 "java/util/Optional") (H18 : Fld Z h0 a13 "java/util/Optional" "value" "Ljava/lang/Object;" (.ref a17)) (H21 : Sta Z Z.heap "com/example/agave/agave/store/RequestState" "FAILED" "Lcom/example/agave/agave/store/RequestState;" (.ref a20)) :
    MF l y12 prog_13_method_4_code 4 (some (.object "com/example/agave/agave/store/RequestState")) ws ({ frames := 1, cells := 0, slots := 0, locals := 12 } : Room) Z #[(.ref a1), (.int p2), (.ref a3)] h0 (r12_6Q Z a1 p2 a3 a5 a13 a17 a20 h0 n0) := by
  refine MetFree.of_bodySF (plainFor_of_name pn_com_example_agave_agave_store_RequestState) hisR ?_
  intro p e s m args below meth c s₁ Bd hml0 hP hK
  obtain ⟨rfl, hZ, hh⟩ := hP
  have hx := Bd.exec
  have hby := Bd.bytes
  have hml : c.maxLocals = 4 := hml0
  have hown : s.vm.findClass "com/example/agave/agave/store/RequestState" = some m.cls := findClass_of_methodNamed Bd.named
  have hnm := (name_of_methodNamed Bd.named Bd.method).1
  have X0 : Stand p l e ({ frames := 1, cells := 0, slots := 0, locals := 12 } : Room) s m #[(.ref a1), (.int p2), (.ref a3)] below meth c s₁ [] 0 0 := Stand.of_body Bd
  have e0 : s₁.heap = h0 := by rw [← hh, Bd.state]; rfl
  have N0 := Fr.nil n0
  have pre0 : ∀ t, Steps p.tables e below (s₁.setTop (mkF m 0 #[rv a1, iv p2, rv a3, .unset] [])) t → Steps p.tables e below (s₁.setTop (entryFrame m #[(.ref a1), (.int p2), (.ref a3)] 4)) t := fun t k => castTop (r12_6e m a1 p2 a3 a5 a13 a17 a20) k
  obtain ⟨cq7, kq7, q7a, q7b, q7c⟩ := isOf hZ e0 H4
  obtain ⟨_, _, ⟨T7, L7, k7, n7⟩, -, X7, ⟨Lc7, hQ7, l7, y7, z7⟩, st7⟩ := X0.virtualBack hx (y := y13) (z := y13) hown (mvT hZ (ow hw 35 rfl)) (mvT hZ (ow hw 36 rfl)) (notFace_of_selects (args := #[]) (mvT hZ (ow hw 38 rfl))) (mvT hZ (ow hw 38 rfl)) (mvT hZ (ow hw 37 rfl)) (by decide) (backOf (W := 0) (r13_2 l Z a0 hw [] a1 a5 h0 n0 O0 H6) hZ (ow hw 39 rfl) (ow hw 28 rfl) (by decide) (by decide)) q7a q7c (g := (mkF m 1 #[rv a1, iv p2, rv a3, .unset] [(.ref a1)])) rfl (by rw [hml]; rfl) (Steps.refl _) (argsL := []) (rest := []) (lenOf pd___Z rfl) rfl (by show 2 * 0 + _ ≤ _; exact Nat.le_of_eq rfl) (hb hby d12_1) (fun _ _ => ⟨rfl, e0, (by decide : 0 + 0 ≤ _), (by decide : 0 + 0 ≤ _)⟩)
  dsimp only [Pt.U, Pt.locs, Pt.cells, Pt.slots] at X7 l7 y7 z7 st7 hQ7
  subst l7 y7 z7
  obtain ⟨rfl, N7q, e7⟩ := hQ7
  have N7 := Fr.app N0 N7q
  obtain ⟨cq8, kq8, q8a, q8b, q8c⟩ := isOf hZ e7 H4
  obtain ⟨_, _, ⟨T8, L8, k8, n8⟩, -, X8, ⟨Lc8, hQ8, l8, y8, z8⟩, st8⟩ := X7.virtualBack hx (y := y13) (z := y13) hown (mvT hZ (ow hw 35 rfl)) (mvT hZ (ow hw 36 rfl)) (notFace_of_selects (args := #[]) (mvT hZ (ow hw 38 rfl))) (mvT hZ (ow hw 38 rfl)) (mvT hZ (ow hw 37 rfl)) (by decide) (backOf (W := 0) (r13_2 l Z a0 hw [] a1 a5 h0 n0 O0 H6) hZ (ow hw 39 rfl) (ow hw 28 rfl) (by decide) (by decide)) q8a q8c (g := (mkF m 19 #[rv a1, iv p2, rv a3, .unset] [(.ref a1)])) rfl (by rw [hml]; rfl) (Steps.refl _) (argsL := []) (rest := []) (lenOf pd___Z rfl) rfl (by show 2 * 0 + _ ≤ _; exact Nat.le_of_eq rfl) (hb hby d12_19) (fun _ _ => ⟨rfl, e7, (by decide : 0 + 0 ≤ _), (by decide : 0 + 0 ≤ _)⟩)
  dsimp only [Pt.U, Pt.locs, Pt.cells, Pt.slots] at X8 l8 y8 z8 st8 hQ8
  subst l8 y8 z8
  obtain ⟨rfl, N8q, e8⟩ := hQ8
  have N8 := Fr.app N7 N8q
  obtain ⟨cq9, kq9, q9a, q9b, q9c⟩ := isOf hZ e8 H4
  obtain ⟨_, _, ⟨T9, L9, k9, n9⟩, -, X9, ⟨Lc9, hQ9, l9, y9, z9⟩, st9⟩ := X8.virtualBack hx (y := y13) (z := y13) hown (mvT hZ (ow hw 35 rfl)) (mvT hZ (ow hw 36 rfl)) (notFace_of_selects (args := #[]) (mvT hZ (ow hw 38 rfl))) (mvT hZ (ow hw 38 rfl)) (mvT hZ (ow hw 37 rfl)) (by decide) (backOf (W := 0) (r13_2 l Z a0 hw [] a1 a5 h0 n0 O0 H6) hZ (ow hw 39 rfl) (ow hw 28 rfl) (by decide) (by decide)) q9a q9c (g := (mkF m 40 #[rv a1, iv p2, rv a3, .unset] [(.ref a1)])) rfl (by rw [hml]; rfl) (Steps.refl _) (argsL := []) (rest := []) (lenOf pd___Z rfl) rfl (by show 2 * 0 + _ ≤ _; exact Nat.le_of_eq rfl) (hb hby d12_40) (fun _ _ => ⟨rfl, e8, (by decide : 0 + 0 ≤ _), (by decide : 0 + 0 ≤ _)⟩)
  dsimp only [Pt.U, Pt.locs, Pt.cells, Pt.slots] at X9 l9 y9 z9 st9 hQ9
  subst l9 y9 z9
  obtain ⟨rfl, N9q, e9⟩ := hQ9
  have N9 := Fr.app N8 N9q
  obtain ⟨cq10, kq10, q10a, q10b, q10c⟩ := isOf hZ e9 H4
  obtain ⟨_, _, ⟨T10, L10, k10, n10⟩, -, X10, ⟨Lc10, hQ10, l10, y10, z10⟩, st10⟩ := X9.virtualBack hx (y := y17) (z := y17) hown (mvT hZ (ow hw 86 rfl)) (mvT hZ (ow hw 87 rfl)) (notFace_of_selects (args := #[]) (mvT hZ (ow hw 89 rfl))) (mvT hZ (ow hw 89 rfl)) (mvT hZ (ow hw 88 rfl)) (by decide) (backOf (W := 0) (r17_1 l Z a0 hw [] a1 a5 h0 n0 O0 H6) hZ (ow hw 90 rfl) (ow hw 28 rfl) (by decide) (by decide)) q10a q10c (g := (mkF m 54 #[rv a1, iv p2, rv a3, .unset] [(.ref a1)])) rfl (by rw [hml]; rfl) (Steps.refl _) (argsL := []) (rest := []) (lenOf pd___Ljava_lang_Object_ rfl) rfl (by show 2 * 0 + _ ≤ _; exact Nat.le_of_eq rfl) (hb hby d12_54) (fun _ _ => ⟨rfl, e9, (by decide : 0 + 0 ≤ _), (by decide : 0 + 0 ≤ _)⟩)
  dsimp only [Pt.U, Pt.locs, Pt.cells, Pt.slots] at X10 l10 y10 z10 st10 hQ10
  subst l10 y10 z10
  obtain ⟨rfl, N10q, e10⟩ := hQ10
  have N10 := Fr.app N9 N10q
  obtain ⟨T11, X11, e11, st11⟩ := castY X10 hx hZ hown (ow hw 91 rfl) e10 (Ins.self H12) (g := (mkF m 57 #[rv a1, iv p2, rv a3, .unset] [(.ref a5)])) rfl rfl (hb hby d12_57)
  obtain ⟨cq15, kq15, q15a, q15b, q15c⟩ := isOf hZ e11 H12
  obtain ⟨_, _, ⟨T15, L15, k15, n15⟩, -, X15, ⟨Lc15, hQ15, l15, y15, z15⟩, st15⟩ := X11.virtualBack hx (y := y18) (z := y18) hown (mvT hZ (ow hw 93 rfl)) (mvT hZ (ow hw 94 rfl)) (notFace_of_selects (args := #[]) (mvT hZ (ow hw 96 rfl))) (mvT hZ (ow hw 96 rfl)) (mvT hZ (ow hw 95 rfl)) (by decide) (backOf (W := 0) (r18_1 l Z a0 hw [] a5 a13 h0 n0 O0 H14) hZ (ow hw 97 rfl) (ow hw 52 rfl) (by decide) (by decide)) q15a q15c (g := (mkF m 60 #[rv a1, iv p2, rv a3, .unset] [(.ref a5)])) rfl (by rw [hml]; rfl) (Steps.refl _) (argsL := []) (rest := []) (lenOf pd___Ljava_util_Optional_ rfl) rfl (by show 2 * 0 + _ ≤ _; exact Nat.le_of_eq rfl) (hb hby d12_60) (fun _ _ => ⟨rfl, e11, (by decide : 0 + 0 ≤ _), (by decide : 0 + 0 ≤ _)⟩)
  dsimp only [Pt.U, Pt.locs, Pt.cells, Pt.slots] at X15 l15 y15 z15 st15 hQ15
  subst l15 y15 z15
  obtain ⟨rfl, N15q, e15⟩ := hQ15
  have N15 := Fr.app N10 N15q
  obtain ⟨cq19, kq19, q19a, q19b, q19c⟩ := isOf hZ e15 H16
  obtain ⟨_, _, ⟨T19, L19, k19, n19⟩, -, X19, ⟨Lc19, hQ19, l19, y19, z19⟩, st19⟩ := X15.virtualBack hx (y := y14) (z := y14) hown (mvT hZ (ow hw 42 rfl)) (mvT hZ (ow hw 43 rfl)) (notFace_of_selects (args := #[]) (mvT hZ (ow hw 45 rfl))) (mvT hZ (ow hw 45 rfl)) (mvT hZ (ow hw 44 rfl)) (by decide) (backOf (W := 0) (r14_2 l Z a0 hw [] a13 a17 h0 n0 O0 H18) hZ (ow hw 46 rfl) (ow hw 28 rfl) (by decide) (by decide)) q19a q19c (g := (mkF m 63 #[rv a1, iv p2, rv a3, .unset] [(.ref a13)])) rfl (by rw [hml]; rfl) (Steps.refl _) (argsL := []) (rest := []) (lenOf pd___Z rfl) rfl (by show 2 * 0 + _ ≤ _; exact Nat.le_of_eq rfl) (hb hby d12_63) (fun _ _ => ⟨rfl, e15, (by decide : 0 + 0 ≤ _), (by decide : 0 + 0 ≤ _)⟩)
  dsimp only [Pt.U, Pt.locs, Pt.cells, Pt.slots] at X19 l19 y19 z19 st19 hQ19
  subst l19 y19 z19
  obtain ⟨rfl, N19q, e19⟩ := hQ19
  have N19 := Fr.app N15 N19q
  obtain ⟨T22, X22, e22, st22⟩ := getS2 X19 hx hZ hown (host := "") (Or.inl (ow hw 134 rfl)) Via.refl e19 (H21.ext O0.2) (g := (mkF m 69 #[rv a1, iv p2, rv a3, .unset] [])) rfl (hb hby d12_69)
  obtain ⟨fs, hr, hrun, hended, hW, hsame⟩ := X22.leave (v := some (.ref a20)) (fun h => by rw [Bd.returns] at h; cases h)
  refine ⟨_, _, pre0 _ ?_, hrun, hended, _, _, rfl, ?_, ⟨_, rfl⟩, hW, hsame.mono (by decide) (by decide)⟩
  · show St p e below s₁ m 0 #[rv a1, iv p2, rv a3, .unset] [] _
    refine XS.aloadN X0.here hx rfl (hb hby d12_0) rfl rfl ?_
    show St p e below s₁ m 1 #[rv a1, iv p2, rv a3, .unset] [(.ref a1)] _
    refine st7.trans ?_
    show St p e below T7 m 4 #[rv a1, iv p2, rv a3, .unset] [(.int (0 : Int32))] _
    refine XS.ifYes X7.here hx rfl (pc0 := 4) (pc' := 18) rfl (hb hby d12_4) rfl ((if0 _ _).trans (teq (rfl : (0 : Int32) = (0 : Int32))).1) (by decide) (by decide) ?_
    show St p e below T7 m 18 #[rv a1, iv p2, rv a3, .unset] [] _
    refine XS.aloadN X7.here hx rfl (hb hby d12_18) rfl rfl ?_
    show St p e below T7 m 19 #[rv a1, iv p2, rv a3, .unset] [(.ref a1)] _
    refine st8.trans ?_
    show St p e below T8 m 22 #[rv a1, iv p2, rv a3, .unset] [(.int (0 : Int32))] _
    refine XS.ifYes X8.here hx rfl (pc0 := 22) (pc' := 39) rfl (hb hby d12_22) rfl ((if0 _ _).trans (teq (rfl : (0 : Int32) = (0 : Int32))).1) (by decide) (by decide) ?_
    show St p e below T8 m 39 #[rv a1, iv p2, rv a3, .unset] [] _
    refine XS.aloadN X8.here hx rfl (hb hby d12_39) rfl rfl ?_
    show St p e below T8 m 40 #[rv a1, iv p2, rv a3, .unset] [(.ref a1)] _
    refine st9.trans ?_
    show St p e below T9 m 43 #[rv a1, iv p2, rv a3, .unset] [(.int (0 : Int32))] _
    refine XS.ifYes X9.here hx rfl (pc0 := 43) (pc' := 53) rfl (hb hby d12_43) rfl ((if0 _ _).trans (teq (rfl : (0 : Int32) = (0 : Int32))).1) (by decide) (by decide) ?_
    show St p e below T9 m 53 #[rv a1, iv p2, rv a3, .unset] [] _
    refine XS.aloadN X9.here hx rfl (hb hby d12_53) rfl rfl ?_
    show St p e below T9 m 54 #[rv a1, iv p2, rv a3, .unset] [(.ref a1)] _
    refine st10.trans ?_
    show St p e below T10 m 57 #[rv a1, iv p2, rv a3, .unset] [(.ref a5)] _
    refine st11 _ ?_
    show St p e below T11 m 60 #[rv a1, iv p2, rv a3, .unset] [(.ref a5)] _
    refine st15.trans ?_
    show St p e below T15 m 63 #[rv a1, iv p2, rv a3, .unset] [(.ref a13)] _
    refine st19.trans ?_
    show St p e below T19 m 66 #[rv a1, iv p2, rv a3, .unset] [(.int (1 : Int32))] _
    refine XS.ifNo X19.here hx rfl (hb hby d12_66) rfl ((if0 _ _).trans (feq (by decide : ¬ ((1 : Int32) = (0 : Int32)))).1) ?_
    show St p e below T19 m 69 #[rv a1, iv p2, rv a3, .unset] [] _
    refine st22 _ ?_
    show St p e below T22 m 72 #[rv a1, iv p2, rv a3, .unset] [(.ref a20)] _
    refine XS.astoreN X22.here hx rfl (hb hby d12_72) rfl rfl (l' := #[rv a1, iv p2, rv a3, rv a20]) rfl ?_
    show St p e below T22 m 73 #[rv a1, iv p2, rv a3, rv a20] [] _
    refine XS.goto X22.here hx rfl (pc0 := 73) (pc' := 103) rfl (hb hby d12_73) (by decide) (by decide) ?_
    show St p e below T22 m 103 #[rv a1, iv p2, rv a3, rv a20] [] _
    refine XS.aloadN X22.here hx rfl (hb hby d12_103) rfl rfl ?_
    show St p e below T22 m 104 #[rv a1, iv p2, rv a3, rv a20] [(.ref a20)] _
    jvm_step X22.here [X22.here.top, hx, (hb hby d12_104), X22.method', Bd.returns, Value.isRef, FieldType.isReference]
    first | (intro acts; rw [hr _ acts rfl rfl rfl]) | rw [hr _ _ rfl rfl rfl]
    exact Steps.refl _
  · show r12_6Q Z a1 p2 a3 a5 a13 a17 a20 h0 n0 _ T22.heap _
    rw [e22]
    exact ⟨rfl, N19, rfl⟩
set_option maxRecDepth 65536 in
set_option maxHeartbeats 40000000 in
theorem g0_18 {p : Program} {l : Launch} {e : Env} {R : Room} {s : State} {m : MethodId} {args : Array Value} {below : List Frame} {meth : Method} {c : Code} {T0 : State} {locs : List Loc} {cells slots : Nat} {Z : State} {a0 : Array Value} {h0 : Heap} {n0 : Nat} (p1 : Int32) (p2 : Int32) (p3 : Int32) (p4 : Int32) (p5 : Int32) (p6 : Int32) (p7 : Int32) (p8 : Int32) (a9 : Addr) (a10 : Addr) (a11 : Addr) (a12 : Addr) (a13 : Addr) (a14 : Addr) (a15 : Addr) (a17 : Addr) (a20 : Addr) (a23 : Addr) (a25 : Addr)
    (X0 : Stand p l e R s m args below meth c T0 locs cells slots) (hx : p.tables.exec = Jvm.exec) (hZ : Z.Warmed39 s.vm) (hw : HW a0 Z) (hby : c.code = code) (hml : c.maxLocals = 19) (hown : s.vm.findClass "com/example/agave/agave/store/RequestStateOfPinLaw" = some m.cls) (e0 : T0.heap = h0) (O0 : Old Z n0 h0) (N0 : Fr n0 locs) (rc : cells + 0 ≤ R.cells) (rs : slots + 0 ≤ R.slots) (rf : 2 ≤ R.frames) (rl : 27 ≤ R.locals) (H16 : Exa Z h0 a14 "java/util/Optional") (H18 : Fld Z h0 a14 "java/util/Optional" "value" "Ljava/lang/Object;" (.ref a17)) (H19 : Exa Z h0 a17 "com/example/agave/agave/store/RequestStore$StoredRequest") (H21 : Fld Z h0 a17 "com/example/agave/agave/store/RequestStore$StoredRequest" "failure" "Ljava/util/Optional;" (.ref a20)) (H22 : Exa Z h0 a20 "java/util/Optional") (H24 : Fld Z h0 a20 "java/util/Optional" "value" "Ljava/lang/Object;" (.ref a23)) (H26 : Sta Z Z.heap "com/example/agave/agave/store/RequestState" "FAILED" "Lcom/example/agave/agave/store/RequestState;" (.ref a25)) :
    ∃ (T' : State) (L' : List Loc), Stand p l e R s m args below meth c T' L' (cells + 0) (slots + 0) ∧ T'.heap = h0 ∧ Fr n0 L' ∧
      ∀ target, St p e below T' m 320 #[iv p1, iv p2, iv p3, iv (1 : Int32), iv p4, iv p5, iv p6, iv (1 : Int32), iv p7, iv p8, rv a9, rv a10, rv a11, rv a12, rv a13, rv a14, rv a15, rv a25, rv a25] [(.int (1 : Int32))] target → St p e below T0 m 228 #[iv p1, iv p2, iv p3, iv (1 : Int32), iv p4, iv p5, iv p6, iv (1 : Int32), iv p7, iv p8, rv a9, rv a10, rv a11, rv a12, rv a13, rv a14, rv a15, .unset, .unset] [] target := by
  obtain ⟨_, _, ⟨T27, L27, k27, n27⟩, -, X27, ⟨Lc27, hQ27, l27, y27, z27⟩, st27⟩ := Jvm.LawKit.callS X0 hx (y := y12) hown (mvT hZ (ow hw 31 rfl)) (mvT hZ (ow hw 32 rfl)) (mvT hZ (ow hw 33 rfl)) (mvT hZ (ow hw 34 rfl)) (by decide) (backOf (W := 0) (r12_6 l Z a0 hw [] a14 p4 a15 a17 a20 a23 a25 h0 n0 O0 H16 H18 H19 H21 H22 H24 H26) hZ (ow hw 34 rfl) (ow hw 33 rfl) (by show 1 + 1 ≤ R.frames; omega) (by show 0 + (4 + 11) + 12 ≤ R.locals; omega)) (g := (mkF m 234 #[iv p1, iv p2, iv p3, iv (1 : Int32), iv p4, iv p5, iv p6, iv (1 : Int32), iv p7, iv p8, rv a9, rv a10, rv a11, rv a12, rv a13, rv a14, rv a15, .unset, .unset] [(.ref a15), (.int p4), (.ref a14)])) rfl (by rw [hml]; rfl) (argsL := [(.ref a14), (.int p4), (.ref a15)]) (rest := []) (lenOf pd__Ljava_util_Optional_ZLjava_util_Optional__Lcom_example_agave_agave_store_RequestState_ rfl) rfl (by show 2 * 0 + _ ≤ _; exact Nat.le_of_eq rfl) (hb hby at_234) (fun _ _ => ⟨rfl, e0, (by show cells + 0 + 0 ≤ R.cells; omega), (by show slots + 0 + 0 ≤ R.slots; omega)⟩)
  dsimp only [Pt.U, Pt.locs, Pt.cells, Pt.slots] at X27 l27 y27 z27 st27 hQ27
  subst l27
  rw [y27, z27] at X27
  obtain ⟨rfl, N27q, e27⟩ := hQ27
  have N27 := Fr.app N0 N27q
  replace X27 : Stand p l e R _ m args below meth c T27 _ (cells + 0) (slots + 0) := X27
  obtain ⟨T28, X28, e28, st28⟩ := getS2 X27 hx hZ hown (host := "") (Or.inl (ow hw 136 rfl)) Via.refl e27 (H26.ext O0.2) (g := (mkF m 248 #[iv p1, iv p2, iv p3, iv (1 : Int32), iv p4, iv p5, iv p6, iv (1 : Int32), iv p7, iv p8, rv a9, rv a10, rv a11, rv a12, rv a13, rv a14, rv a15, rv a25, .unset] [])) rfl (hb hby at_248)
  refine ⟨T28, _, X28.more (by omega) (by omega), e28, N27, fun target kt => ?_⟩
  show St p e below T0 m 228 #[iv p1, iv p2, iv p3, iv (1 : Int32), iv p4, iv p5, iv p6, iv (1 : Int32), iv p7, iv p8, rv a9, rv a10, rv a11, rv a12, rv a13, rv a14, rv a15, .unset, .unset] [] _
  refine XS.aload X0.here hx rfl (hb hby at_228) rfl rfl ?_
  show St p e below T0 m 230 #[iv p1, iv p2, iv p3, iv (1 : Int32), iv p4, iv p5, iv p6, iv (1 : Int32), iv p7, iv p8, rv a9, rv a10, rv a11, rv a12, rv a13, rv a14, rv a15, .unset, .unset] [(.ref a14)] _
  refine XS.iload X0.here hx rfl (hb hby at_230) rfl ?_
  show St p e below T0 m 232 #[iv p1, iv p2, iv p3, iv (1 : Int32), iv p4, iv p5, iv p6, iv (1 : Int32), iv p7, iv p8, rv a9, rv a10, rv a11, rv a12, rv a13, rv a14, rv a15, .unset, .unset] [(.int p4), (.ref a14)] _
  refine XS.aload X0.here hx rfl (hb hby at_232) rfl rfl ?_
  show St p e below T0 m 234 #[iv p1, iv p2, iv p3, iv (1 : Int32), iv p4, iv p5, iv p6, iv (1 : Int32), iv p7, iv p8, rv a9, rv a10, rv a11, rv a12, rv a13, rv a14, rv a15, .unset, .unset] [(.ref a15), (.int p4), (.ref a14)] _
  refine st27 _ ?_
  show St p e below T27 m 237 #[iv p1, iv p2, iv p3, iv (1 : Int32), iv p4, iv p5, iv p6, iv (1 : Int32), iv p7, iv p8, rv a9, rv a10, rv a11, rv a12, rv a13, rv a14, rv a15, .unset, .unset] [(.ref a25)] _
  refine XS.astore X27.here hx rfl (hb hby at_237) rfl rfl (l' := #[iv p1, iv p2, iv p3, iv (1 : Int32), iv p4, iv p5, iv p6, iv (1 : Int32), iv p7, iv p8, rv a9, rv a10, rv a11, rv a12, rv a13, rv a14, rv a15, rv a25, .unset]) rfl ?_
  show St p e below T27 m 239 #[iv p1, iv p2, iv p3, iv (1 : Int32), iv p4, iv p5, iv p6, iv (1 : Int32), iv p7, iv p8, rv a9, rv a10, rv a11, rv a12, rv a13, rv a14, rv a15, rv a25, .unset] [] _
  refine XS.iloadN X27.here hx rfl (hb hby at_239) rfl ?_
  show St p e below T27 m 240 #[iv p1, iv p2, iv p3, iv (1 : Int32), iv p4, iv p5, iv p6, iv (1 : Int32), iv p7, iv p8, rv a9, rv a10, rv a11, rv a12, rv a13, rv a14, rv a15, rv a25, .unset] [(.int (1 : Int32))] _
  refine XS.ifNo X27.here hx rfl (hb hby at_240) rfl ((if0 _ _).trans (feq (by decide : ¬ ((1 : Int32) = (0 : Int32)))).1) ?_
  show St p e below T27 m 243 #[iv p1, iv p2, iv p3, iv (1 : Int32), iv p4, iv p5, iv p6, iv (1 : Int32), iv p7, iv p8, rv a9, rv a10, rv a11, rv a12, rv a13, rv a14, rv a15, rv a25, .unset] [] _
  refine XS.iload X27.here hx rfl (hb hby at_243) rfl ?_
  show St p e below T27 m 245 #[iv p1, iv p2, iv p3, iv (1 : Int32), iv p4, iv p5, iv p6, iv (1 : Int32), iv p7, iv p8, rv a9, rv a10, rv a11, rv a12, rv a13, rv a14, rv a15, rv a25, .unset] [(.int (1 : Int32))] _
  refine XS.ifNo X27.here hx rfl (hb hby at_245) rfl ((if0 _ _).trans (feq (by decide : ¬ ((1 : Int32) = (0 : Int32)))).1) ?_
  show St p e below T27 m 248 #[iv p1, iv p2, iv p3, iv (1 : Int32), iv p4, iv p5, iv p6, iv (1 : Int32), iv p7, iv p8, rv a9, rv a10, rv a11, rv a12, rv a13, rv a14, rv a15, rv a25, .unset] [] _
  refine st28 _ ?_
  show St p e below T28 m 251 #[iv p1, iv p2, iv p3, iv (1 : Int32), iv p4, iv p5, iv p6, iv (1 : Int32), iv p7, iv p8, rv a9, rv a10, rv a11, rv a12, rv a13, rv a14, rv a15, rv a25, .unset] [(.ref a25)] _
  refine XS.astore X28.here hx rfl (hb hby at_251) rfl rfl (l' := #[iv p1, iv p2, iv p3, iv (1 : Int32), iv p4, iv p5, iv p6, iv (1 : Int32), iv p7, iv p8, rv a9, rv a10, rv a11, rv a12, rv a13, rv a14, rv a15, rv a25, rv a25]) rfl ?_
  show St p e below T28 m 253 #[iv p1, iv p2, iv p3, iv (1 : Int32), iv p4, iv p5, iv p6, iv (1 : Int32), iv p7, iv p8, rv a9, rv a10, rv a11, rv a12, rv a13, rv a14, rv a15, rv a25, rv a25] [] _
  refine XS.goto X28.here hx rfl (pc0 := 253) (pc' := 308) rfl (hb hby at_253) (by decide) (by decide) ?_
  show St p e below T28 m 308 #[iv p1, iv p2, iv p3, iv (1 : Int32), iv p4, iv p5, iv p6, iv (1 : Int32), iv p7, iv p8, rv a9, rv a10, rv a11, rv a12, rv a13, rv a14, rv a15, rv a25, rv a25] [] _
  refine XS.aload X28.here hx rfl (hb hby at_308) rfl rfl ?_
  show St p e below T28 m 310 #[iv p1, iv p2, iv p3, iv (1 : Int32), iv p4, iv p5, iv p6, iv (1 : Int32), iv p7, iv p8, rv a9, rv a10, rv a11, rv a12, rv a13, rv a14, rv a15, rv a25, rv a25] [(.ref a25)] _
  refine XS.aload X28.here hx rfl (hb hby at_310) rfl rfl ?_
  show St p e below T28 m 312 #[iv p1, iv p2, iv p3, iv (1 : Int32), iv p4, iv p5, iv p6, iv (1 : Int32), iv p7, iv p8, rv a9, rv a10, rv a11, rv a12, rv a13, rv a14, rv a15, rv a25, rv a25] [(.ref a25), (.ref a25)] _
  refine Jvm.RoadKit.acmp (g := (mkF m 312 #[iv p1, iv p2, iv p3, iv (1 : Int32), iv p4, iv p5, iv p6, iv (1 : Int32), iv p7, iv p8, rv a9, rv a10, rv a11, rv a12, rv a13, rv a14, rv a15, rv a25, rv a25] [(.ref a25), (.ref a25)])) X28 hx rfl rfl rfl (pc0 := 312) (pc' := 315) (same := true) rfl (hb hby at_312) rfl (decide_eq_true rfl) (by decide) (by decide) ?_
  show St p e below T28 m 315 #[iv p1, iv p2, iv p3, iv (1 : Int32), iv p4, iv p5, iv p6, iv (1 : Int32), iv p7, iv p8, rv a9, rv a10, rv a11, rv a12, rv a13, rv a14, rv a15, rv a25, rv a25] [] _
  refine XS.iconst X28.here hx rfl (hb hby at_315) ?_
  show St p e below T28 m 316 #[iv p1, iv p2, iv p3, iv (1 : Int32), iv p4, iv p5, iv p6, iv (1 : Int32), iv p7, iv p8, rv a9, rv a10, rv a11, rv a12, rv a13, rv a14, rv a15, rv a25, rv a25] [(.int (1 : Int32))] _
  refine XS.goto X28.here hx rfl (pc0 := 316) (pc' := 320) rfl (hb hby at_316) (by decide) (by decide) ?_
  exact kt
def law_18Q (Z : State) (wRequestState_UNKNOWN : Addr) (wRequestState_IN_PROGRESS : Addr) (wRequestState_REMOVED : Addr) (wRequestState_DONE : Addr) (wRequestState_FAILED : Addr) (wOptional_EMPTY : Addr) (wIntegerCache_cache : Addr) (zCOMPACT_STRINGS : Int32) (clC : Cell) (i0 : Int32) (i1 : Int32) (i2 : Int32) (h0 : Heap) (n0 : Nat) (v : Option Value) (h : Heap) (L : List Loc) : Prop := v = some (.int (1 : Int32)) ∧ Fr n0 L
theorem law_18e (m : MethodId) (wRequestState_UNKNOWN : Addr) (wRequestState_IN_PROGRESS : Addr) (wRequestState_REMOVED : Addr) (wRequestState_DONE : Addr) (wRequestState_FAILED : Addr) (wOptional_EMPTY : Addr) (wIntegerCache_cache : Addr) (zCOMPACT_STRINGS : Int32) (clC : Cell) (i0 : Int32) (i1 : Int32) (i2 : Int32) : entryFrame m #[(.int i0), (.int i1), (.int i2)] maxLocals = mkF m 0 #[iv i0, iv i1, iv i2, .unset, .unset, .unset, .unset, .unset, .unset, .unset, .unset, .unset, .unset, .unset, .unset, .unset, .unset, .unset, .unset] [] := by first | (simp [entryFrame, mkF, argsToLocals, Value.category, maxLocals]; done) | rfl
set_option maxRecDepth 65536 in
set_option maxHeartbeats 40000000 in
theorem law_18 (l : Launch) (Z : State) (a0 : Array Value) (hw : HW a0 Z) (ws : List Jvm.Cond) (wRequestState_UNKNOWN : Addr) (wRequestState_IN_PROGRESS : Addr) (wRequestState_REMOVED : Addr) (wRequestState_DONE : Addr) (wRequestState_FAILED : Addr) (wOptional_EMPTY : Addr) (wIntegerCache_cache : Addr) (zCOMPACT_STRINGS : Int32) (clC : Cell) (B : Base Z wRequestState_UNKNOWN wRequestState_IN_PROGRESS wRequestState_REMOVED wRequestState_DONE wRequestState_FAILED wOptional_EMPTY wIntegerCache_cache zCOMPACT_STRINGS clC) (i0 : Int32) (i1 : Int32) (i2 : Int32) (h0 : Heap) (n0 : Nat) (O0 : Old Z n0 h0) (pin0 : (own_b (i0 &&& (1 : Int32))) = (1 : Int32)) (pin1 : (own_b (i0 &&& (2 : Int32))) = (0 : Int32)) (pin2 : (own_b (i0 &&& (4 : Int32))) = (0 : Int32)) (pin3 : (own_b (i0 &&& (8 : Int32))) = (0 : Int32)) (pin4 : (own_b (i0 &&& (16 : Int32))) = (1 : Int32)) (hc3 : ¬ ((255 : Int32) < ((i1 &&& (255 : Int32)).toUInt32.toUInt16.toUInt32.toInt32))) (hc4 : ¬ ((255 : Int32) < ((i2 &&& (255 : Int32)).toUInt32.toUInt16.toUInt32.toInt32))) :
    MetFree l x (head1 (Jvm.Cond.code x code maxLocals ret :: ws) room_1) (fun a U => a = #[(.int i0), (.int i1), (.int i2)] ∧ Z.Warmed39 U.vm ∧ U.heap = h0) (fun _ _ _ _ _ => True) (fun _ U o U' => ∃ v L, o = .returned v ∧ law_18Q Z wRequestState_UNKNOWN wRequestState_IN_PROGRESS wRequestState_REMOVED wRequestState_DONE wRequestState_FAILED wOptional_EMPTY wIntegerCache_cache zCOMPACT_STRINGS clC i0 i1 i2 h0 n0 v U'.heap L ∧ FrameEnd U o U' L room_1.cells room_1.slots) := by
  refine MetFree.of_bodySF (plainFor_of_name pn_com_example_agave_agave_store_RequestStateOfPinLaw) hisR ?_
  intro p e s m args below meth c s₁ Bd hml0 hP hK
  obtain ⟨rfl, hZ, hh⟩ := hP
  have hx := Bd.exec
  have hby := Bd.bytes
  have hml : c.maxLocals = 19 := hml0
  have hown : s.vm.findClass "com/example/agave/agave/store/RequestStateOfPinLaw" = some m.cls := findClass_of_methodNamed Bd.named
  have hnm := (name_of_methodNamed Bd.named Bd.method).1
  have X0 : Stand p l e room_1 s m #[(.int i0), (.int i1), (.int i2)] below meth c s₁ [] 0 0 := Stand.of_body Bd
  have e0 : s₁.heap = h0 := by rw [← hh, Bd.state]; rfl
  have N0 := Fr.nil n0
  have pre0 : ∀ t, Steps p.tables e below (s₁.setTop (mkF m 0 #[iv i0, iv i1, iv i2, .unset, .unset, .unset, .unset, .unset, .unset, .unset, .unset, .unset, .unset, .unset, .unset, .unset, .unset, .unset, .unset] [])) t → Steps p.tables e below (s₁.setTop (entryFrame m #[(.int i0), (.int i1), (.int i2)] maxLocals)) t := fun t k => castTop (law_18e m wRequestState_UNKNOWN wRequestState_IN_PROGRESS wRequestState_REMOVED wRequestState_DONE wRequestState_FAILED wOptional_EMPTY wIntegerCache_cache zCOMPACT_STRINGS clC i0 i1 i2) k
  obtain ⟨T1, L1, X1, e1, N1, st1⟩ := g0_1 i0 i1 i2 X0 hx hZ hw hby hml hown e0 O0 N0 (by decide) (by decide) (by decide) (by decide)
  obtain ⟨T5, h5, L5, b5_0, b5_1, b5_2, b5_3, k5_0, k5_1, X5, e5, N5, K5, lo5_1, lo5_2, lo5_3, lo5_4, nq5_5, nq5_6, nq5_7, nq5_8, nq5_9, nq5_10, f5_11, f5_12, f5_13, f5_14, f5_15, f5_16, f5_17, f5_18, f5_19, f5_20, st5⟩ := g0_2 i0 i1 i2 (1 : Int32) (0 : Int32) (0 : Int32) (0 : Int32) (1 : Int32) (own_b (i0 &&& (32 : Int32))) (own_b (i0 &&& (64 : Int32))) zCOMPACT_STRINGS X1 hx hZ hw hby hml hown e1 O0 N1 (by decide) (by decide) (by decide) (by decide) B.2.2.2.2.2.2.2.2.2.2.2.2.2.2.2.1 B.2.2.2.2.2.2.2.2.2.2.2.2.2.2.2.2.1 hc3 hc4
  have O_K5 : Old Z n0 h5 := O0.keep K5 all0
  have Kp_K5 : Keep h0 h5 [] := (Keep.refl h0 []).trans K5 all0
  obtain ⟨T6, L6, X6, e6, N6, st6⟩ := g0_3 i0 i1 i2 (1 : Int32) (0 : Int32) (0 : Int32) (1 : Int32) (own_b (i0 &&& (32 : Int32))) (own_b (i0 &&& (64 : Int32))) b5_0 b5_1 wOptional_EMPTY X5 hx hZ hw hby hml hown e5 O_K5 N5 (by decide) (by decide) (by decide) (by decide) B.2.2.2.2.2.2.2.2.2.2.1
  obtain ⟨T7, h7, L7, b7_0, X7, e7, N7, K7, lo7_1, f7_2, f7_3, st7⟩ := g0_17 i0 i1 i2 (1 : Int32) (0 : Int32) (0 : Int32) (0 : Int32) (own_b (i0 &&& (32 : Int32))) (own_b (i0 &&& (64 : Int32))) b5_0 b5_1 wOptional_EMPTY wOptional_EMPTY X6 hx hZ hw hby hml hown e6 O_K5 N6 (by decide) (by decide) (by decide) (by decide) B.2.2.2.2.2.2.2.2.2.2.1
  have O_K7 : Old Z n0 h7 := O_K5.keep K7 all0
  have Kp_K7 : Keep h0 h7 [] := Kp_K5.trans K7 all0
  obtain ⟨T8, h8, L8, b8_0, X8, e8, N8, K8, st8⟩ := m0_1 i0 i1 i2 (1 : Int32) (0 : Int32) (0 : Int32) (0 : Int32) (1 : Int32) (own_b (i0 &&& (32 : Int32))) (own_b (i0 &&& (64 : Int32))) b5_0 b5_1 wOptional_EMPTY b7_0 wOptional_EMPTY wIntegerCache_cache clC X7 hx hZ hw hby hml hown e7 O_K7 N7 (by decide) (by decide) (by decide) (by decide) B.2.2.2.2.2.2.2.2.2.2.1 B.2.2.2.2.2.2.2.2.2.2.1 B.2.2.2.2.2.2.2.2.2.2.2.2.1 B.2.2.2.2.2.2.2.2.2.2.2.2.2.1 B.2.2.2.2.2.2.2.2.2.2.2.2.2.2.2.2.2.2.2.2.2.2.2.2.2.2.2.2.2.1 B.2.2.2.2.2.2.2.2.2.2.2.2.2.2.2.2.2.2.2.2.2.2.2.2.2.2.2.2.2.2.1 B.2.2.2.2.2.2.2.2.2.2.2.2.2.2.2.2.2.2.2.2.2.2.2.2.2.2.2.2.2.2.2
  have O_K8 : Old Z n0 h8 := O_K7.keep K8 all0
  have Kp_K8 : Keep h0 h8 [] := Kp_K7.trans K8 all0
  obtain ⟨T9, h9, L9, b9_0, b9_1, X9, e9, N9, K9, lo9_1, lo9_2, nq9_3, f9_4, f9_5, f9_6, f9_7, f9_8, f9_9, f9_10, f9_11, st9⟩ := g0_10 i0 i1 i2 (0 : Int32) (0 : Int32) (0 : Int32) (1 : Int32) (own_b (i0 &&& (32 : Int32))) (own_b (i0 &&& (64 : Int32))) b5_0 b5_1 wOptional_EMPTY b7_0 b8_0 wOptional_EMPTY X8 hx hZ hw hby hml hown e8 O_K8 N8 (by decide) (by decide) (by decide) (by decide) B.2.2.2.2.2.2.2.2.2.2.1
  have O_K9 : Old Z n0 h9 := O_K8.keep K9 all0
  have Kp_K9 : Keep h0 h9 [] := Kp_K8.trans K9 all0
  obtain ⟨T10, L10, X10, e10, N10, st10⟩ := g0_8 i0 i1 i2 (1 : Int32) (0 : Int32) (0 : Int32) (1 : Int32) (own_b (i0 &&& (32 : Int32))) (own_b (i0 &&& (64 : Int32))) b5_0 b5_1 wOptional_EMPTY b7_0 b8_0 b9_0 wOptional_EMPTY X9 hx hZ hw hby hml hown e9 O_K9 N9 (by decide) (by decide) (by decide) (by decide) B.2.2.2.2.2.2.2.2.2.2.1
  have f11 := ((f7_2.keep K8).keep K9)
  have f12 := ((f7_3.keep K8 nin0).keep K9 nin0)
  obtain ⟨T13, L13, X13, e13, N13, st13⟩ := g0_18 i0 i1 i2 (0 : Int32) (0 : Int32) (0 : Int32) (own_b (i0 &&& (32 : Int32))) (own_b (i0 &&& (64 : Int32))) b5_0 b5_1 wOptional_EMPTY b7_0 b8_0 b9_0 wOptional_EMPTY b9_1 b7_0 b5_1 wRequestState_FAILED X10 hx hZ hw hby hml hown e10 O_K9 N10 (by decide) (by decide) (by decide) (by decide) f9_4 f9_5 f9_6 f9_10 f11 f12 B.2.2.2.2.2.2.2.2.1
  obtain ⟨fs, hr, hrun, hended, hW, hsame⟩ := X13.leave (v := some (.int (1 : Int32))) (fun h => by rw [Bd.returns] at h; cases h)
  refine ⟨_, _, pre0 _ ?_, hrun, hended, _, _, rfl, ?_, ⟨_, rfl⟩, hW, hsame.mono (by decide) (by decide)⟩
  · refine st1 _ ?_
    show St p e below T1 m 94 #[iv i0, iv i1, iv i2, iv (own_b (i0 &&& (1 : Int32))), iv (own_b (i0 &&& (2 : Int32))), iv (own_b (i0 &&& (4 : Int32))), iv (own_b (i0 &&& (8 : Int32))), iv (own_b (i0 &&& (16 : Int32))), iv (own_b (i0 &&& (32 : Int32))), iv (own_b (i0 &&& (64 : Int32))), .unset, .unset, .unset, .unset, .unset, .unset, .unset, .unset, .unset] [] _
    rw [pin0]
    rw [pin1]
    rw [pin2]
    rw [pin3]
    rw [pin4]
    refine st5 _ ?_
    refine st6 _ ?_
    refine st7 _ ?_
    refine st8 _ ?_
    refine st9 _ ?_
    refine st10 _ ?_
    refine st13 _ ?_
    show St p e below T13 m 320 #[iv i0, iv i1, iv i2, iv (1 : Int32), iv (0 : Int32), iv (0 : Int32), iv (0 : Int32), iv (1 : Int32), iv (own_b (i0 &&& (32 : Int32))), iv (own_b (i0 &&& (64 : Int32))), rv b5_0, rv b5_1, rv wOptional_EMPTY, rv b7_0, rv b8_0, rv b9_0, rv wOptional_EMPTY, rv wRequestState_FAILED, rv wRequestState_FAILED] [(.int (1 : Int32))] _
    exact retN X13 hx (t := .boolean) Bd.returns (by simp) (hb hby at_320) hr
  · show law_18Q Z wRequestState_UNKNOWN wRequestState_IN_PROGRESS wRequestState_REMOVED wRequestState_DONE wRequestState_FAILED wOptional_EMPTY wIntegerCache_cache zCOMPACT_STRINGS clC i0 i1 i2 h0 n0 _ T13.heap _
    rw [e13]
    exact ⟨rfl, N13⟩
def law_19Q (Z : State) (wRequestState_UNKNOWN : Addr) (wRequestState_IN_PROGRESS : Addr) (wRequestState_REMOVED : Addr) (wRequestState_DONE : Addr) (wRequestState_FAILED : Addr) (wOptional_EMPTY : Addr) (wIntegerCache_cache : Addr) (zCOMPACT_STRINGS : Int32) (clC : Cell) (i0 : Int32) (i1 : Int32) (i2 : Int32) (h0 : Heap) (n0 : Nat) (v : Option Value) (h : Heap) (L : List Loc) : Prop := v = some (.int (1 : Int32)) ∧ Fr n0 L
theorem law_19e (m : MethodId) (wRequestState_UNKNOWN : Addr) (wRequestState_IN_PROGRESS : Addr) (wRequestState_REMOVED : Addr) (wRequestState_DONE : Addr) (wRequestState_FAILED : Addr) (wOptional_EMPTY : Addr) (wIntegerCache_cache : Addr) (zCOMPACT_STRINGS : Int32) (clC : Cell) (i0 : Int32) (i1 : Int32) (i2 : Int32) : entryFrame m #[(.int i0), (.int i1), (.int i2)] maxLocals = mkF m 0 #[iv i0, iv i1, iv i2, .unset, .unset, .unset, .unset, .unset, .unset, .unset, .unset, .unset, .unset, .unset, .unset, .unset, .unset, .unset, .unset] [] := by first | (simp [entryFrame, mkF, argsToLocals, Value.category, maxLocals]; done) | rfl
set_option maxRecDepth 65536 in
set_option maxHeartbeats 40000000 in
theorem law_19 (l : Launch) (Z : State) (a0 : Array Value) (hw : HW a0 Z) (ws : List Jvm.Cond) (wRequestState_UNKNOWN : Addr) (wRequestState_IN_PROGRESS : Addr) (wRequestState_REMOVED : Addr) (wRequestState_DONE : Addr) (wRequestState_FAILED : Addr) (wOptional_EMPTY : Addr) (wIntegerCache_cache : Addr) (zCOMPACT_STRINGS : Int32) (clC : Cell) (B : Base Z wRequestState_UNKNOWN wRequestState_IN_PROGRESS wRequestState_REMOVED wRequestState_DONE wRequestState_FAILED wOptional_EMPTY wIntegerCache_cache zCOMPACT_STRINGS clC) (i0 : Int32) (i1 : Int32) (i2 : Int32) (h0 : Heap) (n0 : Nat) (O0 : Old Z n0 h0) (pin0 : (own_b (i0 &&& (1 : Int32))) = (0 : Int32)) (pin1 : (own_b (i0 &&& (2 : Int32))) = (1 : Int32)) (pin2 : (own_b (i0 &&& (4 : Int32))) = (0 : Int32)) (pin3 : (own_b (i0 &&& (8 : Int32))) = (0 : Int32)) (pin4 : (own_b (i0 &&& (16 : Int32))) = (1 : Int32)) (hc3 : ¬ ((255 : Int32) < ((i1 &&& (255 : Int32)).toUInt32.toUInt16.toUInt32.toInt32))) (hc4 : ¬ ((255 : Int32) < ((i2 &&& (255 : Int32)).toUInt32.toUInt16.toUInt32.toInt32))) :
    MetFree l x (head1 (Jvm.Cond.code x code maxLocals ret :: ws) room_1) (fun a U => a = #[(.int i0), (.int i1), (.int i2)] ∧ Z.Warmed39 U.vm ∧ U.heap = h0) (fun _ _ _ _ _ => True) (fun _ U o U' => ∃ v L, o = .returned v ∧ law_19Q Z wRequestState_UNKNOWN wRequestState_IN_PROGRESS wRequestState_REMOVED wRequestState_DONE wRequestState_FAILED wOptional_EMPTY wIntegerCache_cache zCOMPACT_STRINGS clC i0 i1 i2 h0 n0 v U'.heap L ∧ FrameEnd U o U' L room_1.cells room_1.slots) := by
  refine MetFree.of_bodySF (plainFor_of_name pn_com_example_agave_agave_store_RequestStateOfPinLaw) hisR ?_
  intro p e s m args below meth c s₁ Bd hml0 hP hK
  obtain ⟨rfl, hZ, hh⟩ := hP
  have hx := Bd.exec
  have hby := Bd.bytes
  have hml : c.maxLocals = 19 := hml0
  have hown : s.vm.findClass "com/example/agave/agave/store/RequestStateOfPinLaw" = some m.cls := findClass_of_methodNamed Bd.named
  have hnm := (name_of_methodNamed Bd.named Bd.method).1
  have X0 : Stand p l e room_1 s m #[(.int i0), (.int i1), (.int i2)] below meth c s₁ [] 0 0 := Stand.of_body Bd
  have e0 : s₁.heap = h0 := by rw [← hh, Bd.state]; rfl
  have N0 := Fr.nil n0
  have pre0 : ∀ t, Steps p.tables e below (s₁.setTop (mkF m 0 #[iv i0, iv i1, iv i2, .unset, .unset, .unset, .unset, .unset, .unset, .unset, .unset, .unset, .unset, .unset, .unset, .unset, .unset, .unset, .unset] [])) t → Steps p.tables e below (s₁.setTop (entryFrame m #[(.int i0), (.int i1), (.int i2)] maxLocals)) t := fun t k => castTop (law_19e m wRequestState_UNKNOWN wRequestState_IN_PROGRESS wRequestState_REMOVED wRequestState_DONE wRequestState_FAILED wOptional_EMPTY wIntegerCache_cache zCOMPACT_STRINGS clC i0 i1 i2) k
  obtain ⟨T1, L1, X1, e1, N1, st1⟩ := g0_1 i0 i1 i2 X0 hx hZ hw hby hml hown e0 O0 N0 (by decide) (by decide) (by decide) (by decide)
  obtain ⟨T5, h5, L5, b5_0, b5_1, b5_2, b5_3, k5_0, k5_1, X5, e5, N5, K5, lo5_1, lo5_2, lo5_3, lo5_4, nq5_5, nq5_6, nq5_7, nq5_8, nq5_9, nq5_10, f5_11, f5_12, f5_13, f5_14, f5_15, f5_16, f5_17, f5_18, f5_19, f5_20, st5⟩ := g0_2 i0 i1 i2 (0 : Int32) (1 : Int32) (0 : Int32) (0 : Int32) (1 : Int32) (own_b (i0 &&& (32 : Int32))) (own_b (i0 &&& (64 : Int32))) zCOMPACT_STRINGS X1 hx hZ hw hby hml hown e1 O0 N1 (by decide) (by decide) (by decide) (by decide) B.2.2.2.2.2.2.2.2.2.2.2.2.2.2.2.1 B.2.2.2.2.2.2.2.2.2.2.2.2.2.2.2.2.1 hc3 hc4
  have O_K5 : Old Z n0 h5 := O0.keep K5 all0
  have Kp_K5 : Keep h0 h5 [] := (Keep.refl h0 []).trans K5 all0
  obtain ⟨T6, L6, X6, e6, N6, st6⟩ := g0_3 i0 i1 i2 (0 : Int32) (1 : Int32) (0 : Int32) (1 : Int32) (own_b (i0 &&& (32 : Int32))) (own_b (i0 &&& (64 : Int32))) b5_0 b5_1 wOptional_EMPTY X5 hx hZ hw hby hml hown e5 O_K5 N5 (by decide) (by decide) (by decide) (by decide) B.2.2.2.2.2.2.2.2.2.2.1
  obtain ⟨T7, h7, L7, b7_0, X7, e7, N7, K7, lo7_1, f7_2, f7_3, st7⟩ := g0_17 i0 i1 i2 (0 : Int32) (1 : Int32) (0 : Int32) (0 : Int32) (own_b (i0 &&& (32 : Int32))) (own_b (i0 &&& (64 : Int32))) b5_0 b5_1 wOptional_EMPTY wOptional_EMPTY X6 hx hZ hw hby hml hown e6 O_K5 N6 (by decide) (by decide) (by decide) (by decide) B.2.2.2.2.2.2.2.2.2.2.1
  have O_K7 : Old Z n0 h7 := O_K5.keep K7 all0
  have Kp_K7 : Keep h0 h7 [] := Kp_K5.trans K7 all0
  obtain ⟨T8, h8, L8, b8_0, X8, e8, N8, K8, st8⟩ := m0_1 i0 i1 i2 (0 : Int32) (1 : Int32) (0 : Int32) (0 : Int32) (1 : Int32) (own_b (i0 &&& (32 : Int32))) (own_b (i0 &&& (64 : Int32))) b5_0 b5_1 wOptional_EMPTY b7_0 wOptional_EMPTY wIntegerCache_cache clC X7 hx hZ hw hby hml hown e7 O_K7 N7 (by decide) (by decide) (by decide) (by decide) B.2.2.2.2.2.2.2.2.2.2.1 B.2.2.2.2.2.2.2.2.2.2.1 B.2.2.2.2.2.2.2.2.2.2.2.2.1 B.2.2.2.2.2.2.2.2.2.2.2.2.2.1 B.2.2.2.2.2.2.2.2.2.2.2.2.2.2.2.2.2.2.2.2.2.2.2.2.2.2.2.2.2.1 B.2.2.2.2.2.2.2.2.2.2.2.2.2.2.2.2.2.2.2.2.2.2.2.2.2.2.2.2.2.2.1 B.2.2.2.2.2.2.2.2.2.2.2.2.2.2.2.2.2.2.2.2.2.2.2.2.2.2.2.2.2.2.2
  have O_K8 : Old Z n0 h8 := O_K7.keep K8 all0
  have Kp_K8 : Keep h0 h8 [] := Kp_K7.trans K8 all0
  obtain ⟨T9, L9, X9, e9, N9, st9⟩ := g0_7 i0 i1 i2 (1 : Int32) (0 : Int32) (0 : Int32) (1 : Int32) (own_b (i0 &&& (32 : Int32))) (own_b (i0 &&& (64 : Int32))) b5_0 b5_1 wOptional_EMPTY b7_0 b8_0 wOptional_EMPTY X8 hx hZ hw hby hml hown e8 O_K8 N8 (by decide) (by decide) (by decide) (by decide) B.2.2.2.2.2.2.2.2.2.2.1
  obtain ⟨T10, L10, X10, e10, N10, st10⟩ := g0_8 i0 i1 i2 (0 : Int32) (1 : Int32) (0 : Int32) (1 : Int32) (own_b (i0 &&& (32 : Int32))) (own_b (i0 &&& (64 : Int32))) b5_0 b5_1 wOptional_EMPTY b7_0 b8_0 wOptional_EMPTY wOptional_EMPTY X9 hx hZ hw hby hml hown e9 O_K8 N9 (by decide) (by decide) (by decide) (by decide) B.2.2.2.2.2.2.2.2.2.2.1
  obtain ⟨T11, L11, X11, e11, N11, st11⟩ := g0_12 i0 i1 i2 (0 : Int32) (0 : Int32) (1 : Int32) (own_b (i0 &&& (32 : Int32))) (own_b (i0 &&& (64 : Int32))) b5_0 b5_1 wOptional_EMPTY b7_0 b8_0 wOptional_EMPTY wOptional_EMPTY wRequestState_IN_PROGRESS X10 hx hZ hw hby hml hown e10 O_K8 N10 (by decide) (by decide) (by decide) (by decide) B.2.2.2.2.2.2.2.2.2.2.2.1 B.2.2.2.2.2.2.2.2.2.2.2.2.2.2.2.2.2.1 B.2.2.1
  obtain ⟨fs, hr, hrun, hended, hW, hsame⟩ := X11.leave (v := some (.int (1 : Int32))) (fun h => by rw [Bd.returns] at h; cases h)
  refine ⟨_, _, pre0 _ ?_, hrun, hended, _, _, rfl, ?_, ⟨_, rfl⟩, hW, hsame.mono (by decide) (by decide)⟩
  · refine st1 _ ?_
    show St p e below T1 m 94 #[iv i0, iv i1, iv i2, iv (own_b (i0 &&& (1 : Int32))), iv (own_b (i0 &&& (2 : Int32))), iv (own_b (i0 &&& (4 : Int32))), iv (own_b (i0 &&& (8 : Int32))), iv (own_b (i0 &&& (16 : Int32))), iv (own_b (i0 &&& (32 : Int32))), iv (own_b (i0 &&& (64 : Int32))), .unset, .unset, .unset, .unset, .unset, .unset, .unset, .unset, .unset] [] _
    rw [pin0]
    rw [pin1]
    rw [pin2]
    rw [pin3]
    rw [pin4]
    refine st5 _ ?_
    refine st6 _ ?_
    refine st7 _ ?_
    refine st8 _ ?_
    refine st9 _ ?_
    refine st10 _ ?_
    refine st11 _ ?_
    show St p e below T11 m 320 #[iv i0, iv i1, iv i2, iv (0 : Int32), iv (1 : Int32), iv (0 : Int32), iv (0 : Int32), iv (1 : Int32), iv (own_b (i0 &&& (32 : Int32))), iv (own_b (i0 &&& (64 : Int32))), rv b5_0, rv b5_1, rv wOptional_EMPTY, rv b7_0, rv b8_0, rv wOptional_EMPTY, rv wOptional_EMPTY, rv wRequestState_IN_PROGRESS, rv wRequestState_IN_PROGRESS] [(.int (1 : Int32))] _
    exact retN X11 hx (t := .boolean) Bd.returns (by simp) (hb hby at_320) hr
  · show law_19Q Z wRequestState_UNKNOWN wRequestState_IN_PROGRESS wRequestState_REMOVED wRequestState_DONE wRequestState_FAILED wOptional_EMPTY wIntegerCache_cache zCOMPACT_STRINGS clC i0 i1 i2 h0 n0 _ T11.heap _
    rw [e11]
    exact ⟨rfl, N11⟩
def law_20Q (Z : State) (wRequestState_UNKNOWN : Addr) (wRequestState_IN_PROGRESS : Addr) (wRequestState_REMOVED : Addr) (wRequestState_DONE : Addr) (wRequestState_FAILED : Addr) (wOptional_EMPTY : Addr) (wIntegerCache_cache : Addr) (zCOMPACT_STRINGS : Int32) (clC : Cell) (i0 : Int32) (i1 : Int32) (i2 : Int32) (h0 : Heap) (n0 : Nat) (v : Option Value) (h : Heap) (L : List Loc) : Prop := v = some (.int (1 : Int32)) ∧ Fr n0 L
theorem law_20e (m : MethodId) (wRequestState_UNKNOWN : Addr) (wRequestState_IN_PROGRESS : Addr) (wRequestState_REMOVED : Addr) (wRequestState_DONE : Addr) (wRequestState_FAILED : Addr) (wOptional_EMPTY : Addr) (wIntegerCache_cache : Addr) (zCOMPACT_STRINGS : Int32) (clC : Cell) (i0 : Int32) (i1 : Int32) (i2 : Int32) : entryFrame m #[(.int i0), (.int i1), (.int i2)] maxLocals = mkF m 0 #[iv i0, iv i1, iv i2, .unset, .unset, .unset, .unset, .unset, .unset, .unset, .unset, .unset, .unset, .unset, .unset, .unset, .unset, .unset, .unset] [] := by first | (simp [entryFrame, mkF, argsToLocals, Value.category, maxLocals]; done) | rfl
set_option maxRecDepth 65536 in
set_option maxHeartbeats 40000000 in
theorem law_20 (l : Launch) (Z : State) (a0 : Array Value) (hw : HW a0 Z) (ws : List Jvm.Cond) (wRequestState_UNKNOWN : Addr) (wRequestState_IN_PROGRESS : Addr) (wRequestState_REMOVED : Addr) (wRequestState_DONE : Addr) (wRequestState_FAILED : Addr) (wOptional_EMPTY : Addr) (wIntegerCache_cache : Addr) (zCOMPACT_STRINGS : Int32) (clC : Cell) (B : Base Z wRequestState_UNKNOWN wRequestState_IN_PROGRESS wRequestState_REMOVED wRequestState_DONE wRequestState_FAILED wOptional_EMPTY wIntegerCache_cache zCOMPACT_STRINGS clC) (i0 : Int32) (i1 : Int32) (i2 : Int32) (h0 : Heap) (n0 : Nat) (O0 : Old Z n0 h0) (pin0 : (own_b (i0 &&& (1 : Int32))) = (1 : Int32)) (pin1 : (own_b (i0 &&& (2 : Int32))) = (1 : Int32)) (pin2 : (own_b (i0 &&& (4 : Int32))) = (0 : Int32)) (pin3 : (own_b (i0 &&& (8 : Int32))) = (0 : Int32)) (pin4 : (own_b (i0 &&& (16 : Int32))) = (1 : Int32)) (hc3 : ¬ ((255 : Int32) < ((i1 &&& (255 : Int32)).toUInt32.toUInt16.toUInt32.toInt32))) (hc4 : ¬ ((255 : Int32) < ((i2 &&& (255 : Int32)).toUInt32.toUInt16.toUInt32.toInt32))) :
    MetFree l x (head1 (Jvm.Cond.code x code maxLocals ret :: ws) room_1) (fun a U => a = #[(.int i0), (.int i1), (.int i2)] ∧ Z.Warmed39 U.vm ∧ U.heap = h0) (fun _ _ _ _ _ => True) (fun _ U o U' => ∃ v L, o = .returned v ∧ law_20Q Z wRequestState_UNKNOWN wRequestState_IN_PROGRESS wRequestState_REMOVED wRequestState_DONE wRequestState_FAILED wOptional_EMPTY wIntegerCache_cache zCOMPACT_STRINGS clC i0 i1 i2 h0 n0 v U'.heap L ∧ FrameEnd U o U' L room_1.cells room_1.slots) := by
  refine MetFree.of_bodySF (plainFor_of_name pn_com_example_agave_agave_store_RequestStateOfPinLaw) hisR ?_
  intro p e s m args below meth c s₁ Bd hml0 hP hK
  obtain ⟨rfl, hZ, hh⟩ := hP
  have hx := Bd.exec
  have hby := Bd.bytes
  have hml : c.maxLocals = 19 := hml0
  have hown : s.vm.findClass "com/example/agave/agave/store/RequestStateOfPinLaw" = some m.cls := findClass_of_methodNamed Bd.named
  have hnm := (name_of_methodNamed Bd.named Bd.method).1
  have X0 : Stand p l e room_1 s m #[(.int i0), (.int i1), (.int i2)] below meth c s₁ [] 0 0 := Stand.of_body Bd
  have e0 : s₁.heap = h0 := by rw [← hh, Bd.state]; rfl
  have N0 := Fr.nil n0
  have pre0 : ∀ t, Steps p.tables e below (s₁.setTop (mkF m 0 #[iv i0, iv i1, iv i2, .unset, .unset, .unset, .unset, .unset, .unset, .unset, .unset, .unset, .unset, .unset, .unset, .unset, .unset, .unset, .unset] [])) t → Steps p.tables e below (s₁.setTop (entryFrame m #[(.int i0), (.int i1), (.int i2)] maxLocals)) t := fun t k => castTop (law_20e m wRequestState_UNKNOWN wRequestState_IN_PROGRESS wRequestState_REMOVED wRequestState_DONE wRequestState_FAILED wOptional_EMPTY wIntegerCache_cache zCOMPACT_STRINGS clC i0 i1 i2) k
  obtain ⟨T1, L1, X1, e1, N1, st1⟩ := g0_1 i0 i1 i2 X0 hx hZ hw hby hml hown e0 O0 N0 (by decide) (by decide) (by decide) (by decide)
  obtain ⟨T5, h5, L5, b5_0, b5_1, b5_2, b5_3, k5_0, k5_1, X5, e5, N5, K5, lo5_1, lo5_2, lo5_3, lo5_4, nq5_5, nq5_6, nq5_7, nq5_8, nq5_9, nq5_10, f5_11, f5_12, f5_13, f5_14, f5_15, f5_16, f5_17, f5_18, f5_19, f5_20, st5⟩ := g0_2 i0 i1 i2 (1 : Int32) (1 : Int32) (0 : Int32) (0 : Int32) (1 : Int32) (own_b (i0 &&& (32 : Int32))) (own_b (i0 &&& (64 : Int32))) zCOMPACT_STRINGS X1 hx hZ hw hby hml hown e1 O0 N1 (by decide) (by decide) (by decide) (by decide) B.2.2.2.2.2.2.2.2.2.2.2.2.2.2.2.1 B.2.2.2.2.2.2.2.2.2.2.2.2.2.2.2.2.1 hc3 hc4
  have O_K5 : Old Z n0 h5 := O0.keep K5 all0
  have Kp_K5 : Keep h0 h5 [] := (Keep.refl h0 []).trans K5 all0
  obtain ⟨T6, L6, X6, e6, N6, st6⟩ := g0_3 i0 i1 i2 (1 : Int32) (1 : Int32) (0 : Int32) (1 : Int32) (own_b (i0 &&& (32 : Int32))) (own_b (i0 &&& (64 : Int32))) b5_0 b5_1 wOptional_EMPTY X5 hx hZ hw hby hml hown e5 O_K5 N5 (by decide) (by decide) (by decide) (by decide) B.2.2.2.2.2.2.2.2.2.2.1
  obtain ⟨T7, h7, L7, b7_0, X7, e7, N7, K7, lo7_1, f7_2, f7_3, st7⟩ := g0_17 i0 i1 i2 (1 : Int32) (1 : Int32) (0 : Int32) (0 : Int32) (own_b (i0 &&& (32 : Int32))) (own_b (i0 &&& (64 : Int32))) b5_0 b5_1 wOptional_EMPTY wOptional_EMPTY X6 hx hZ hw hby hml hown e6 O_K5 N6 (by decide) (by decide) (by decide) (by decide) B.2.2.2.2.2.2.2.2.2.2.1
  have O_K7 : Old Z n0 h7 := O_K5.keep K7 all0
  have Kp_K7 : Keep h0 h7 [] := Kp_K5.trans K7 all0
  obtain ⟨T8, h8, L8, b8_0, X8, e8, N8, K8, st8⟩ := m0_1 i0 i1 i2 (1 : Int32) (1 : Int32) (0 : Int32) (0 : Int32) (1 : Int32) (own_b (i0 &&& (32 : Int32))) (own_b (i0 &&& (64 : Int32))) b5_0 b5_1 wOptional_EMPTY b7_0 wOptional_EMPTY wIntegerCache_cache clC X7 hx hZ hw hby hml hown e7 O_K7 N7 (by decide) (by decide) (by decide) (by decide) B.2.2.2.2.2.2.2.2.2.2.1 B.2.2.2.2.2.2.2.2.2.2.1 B.2.2.2.2.2.2.2.2.2.2.2.2.1 B.2.2.2.2.2.2.2.2.2.2.2.2.2.1 B.2.2.2.2.2.2.2.2.2.2.2.2.2.2.2.2.2.2.2.2.2.2.2.2.2.2.2.2.2.1 B.2.2.2.2.2.2.2.2.2.2.2.2.2.2.2.2.2.2.2.2.2.2.2.2.2.2.2.2.2.2.1 B.2.2.2.2.2.2.2.2.2.2.2.2.2.2.2.2.2.2.2.2.2.2.2.2.2.2.2.2.2.2.2
  have O_K8 : Old Z n0 h8 := O_K7.keep K8 all0
  have Kp_K8 : Keep h0 h8 [] := Kp_K7.trans K8 all0
  obtain ⟨T9, h9, L9, b9_0, b9_1, X9, e9, N9, K9, lo9_1, lo9_2, nq9_3, f9_4, f9_5, f9_6, f9_7, f9_8, f9_9, f9_10, f9_11, st9⟩ := g0_10 i0 i1 i2 (1 : Int32) (0 : Int32) (0 : Int32) (1 : Int32) (own_b (i0 &&& (32 : Int32))) (own_b (i0 &&& (64 : Int32))) b5_0 b5_1 wOptional_EMPTY b7_0 b8_0 wOptional_EMPTY X8 hx hZ hw hby hml hown e8 O_K8 N8 (by decide) (by decide) (by decide) (by decide) B.2.2.2.2.2.2.2.2.2.2.1
  have O_K9 : Old Z n0 h9 := O_K8.keep K9 all0
  have Kp_K9 : Keep h0 h9 [] := Kp_K8.trans K9 all0
  obtain ⟨T10, L10, X10, e10, N10, st10⟩ := g0_8 i0 i1 i2 (1 : Int32) (1 : Int32) (0 : Int32) (1 : Int32) (own_b (i0 &&& (32 : Int32))) (own_b (i0 &&& (64 : Int32))) b5_0 b5_1 wOptional_EMPTY b7_0 b8_0 b9_0 wOptional_EMPTY X9 hx hZ hw hby hml hown e9 O_K9 N9 (by decide) (by decide) (by decide) (by decide) B.2.2.2.2.2.2.2.2.2.2.1
  have f11 := ((f7_2.keep K8).keep K9)
  have f12 := ((f7_3.keep K8 nin0).keep K9 nin0)
  obtain ⟨T13, L13, X13, e13, N13, st13⟩ := g0_18 i0 i1 i2 (1 : Int32) (0 : Int32) (0 : Int32) (own_b (i0 &&& (32 : Int32))) (own_b (i0 &&& (64 : Int32))) b5_0 b5_1 wOptional_EMPTY b7_0 b8_0 b9_0 wOptional_EMPTY b9_1 b7_0 b5_1 wRequestState_FAILED X10 hx hZ hw hby hml hown e10 O_K9 N10 (by decide) (by decide) (by decide) (by decide) f9_4 f9_5 f9_6 f9_10 f11 f12 B.2.2.2.2.2.2.2.2.1
  obtain ⟨fs, hr, hrun, hended, hW, hsame⟩ := X13.leave (v := some (.int (1 : Int32))) (fun h => by rw [Bd.returns] at h; cases h)
  refine ⟨_, _, pre0 _ ?_, hrun, hended, _, _, rfl, ?_, ⟨_, rfl⟩, hW, hsame.mono (by decide) (by decide)⟩
  · refine st1 _ ?_
    show St p e below T1 m 94 #[iv i0, iv i1, iv i2, iv (own_b (i0 &&& (1 : Int32))), iv (own_b (i0 &&& (2 : Int32))), iv (own_b (i0 &&& (4 : Int32))), iv (own_b (i0 &&& (8 : Int32))), iv (own_b (i0 &&& (16 : Int32))), iv (own_b (i0 &&& (32 : Int32))), iv (own_b (i0 &&& (64 : Int32))), .unset, .unset, .unset, .unset, .unset, .unset, .unset, .unset, .unset] [] _
    rw [pin0]
    rw [pin1]
    rw [pin2]
    rw [pin3]
    rw [pin4]
    refine st5 _ ?_
    refine st6 _ ?_
    refine st7 _ ?_
    refine st8 _ ?_
    refine st9 _ ?_
    refine st10 _ ?_
    refine st13 _ ?_
    show St p e below T13 m 320 #[iv i0, iv i1, iv i2, iv (1 : Int32), iv (1 : Int32), iv (0 : Int32), iv (0 : Int32), iv (1 : Int32), iv (own_b (i0 &&& (32 : Int32))), iv (own_b (i0 &&& (64 : Int32))), rv b5_0, rv b5_1, rv wOptional_EMPTY, rv b7_0, rv b8_0, rv b9_0, rv wOptional_EMPTY, rv wRequestState_FAILED, rv wRequestState_FAILED] [(.int (1 : Int32))] _
    exact retN X13 hx (t := .boolean) Bd.returns (by simp) (hb hby at_320) hr
  · show law_20Q Z wRequestState_UNKNOWN wRequestState_IN_PROGRESS wRequestState_REMOVED wRequestState_DONE wRequestState_FAILED wOptional_EMPTY wIntegerCache_cache zCOMPACT_STRINGS clC i0 i1 i2 h0 n0 _ T13.heap _
    rw [e13]
    exact ⟨rfl, N13⟩
def law_21Q (Z : State) (wRequestState_UNKNOWN : Addr) (wRequestState_IN_PROGRESS : Addr) (wRequestState_REMOVED : Addr) (wRequestState_DONE : Addr) (wRequestState_FAILED : Addr) (wOptional_EMPTY : Addr) (wIntegerCache_cache : Addr) (zCOMPACT_STRINGS : Int32) (clC : Cell) (i0 : Int32) (i1 : Int32) (i2 : Int32) (h0 : Heap) (n0 : Nat) (v : Option Value) (h : Heap) (L : List Loc) : Prop := v = some (.int (1 : Int32)) ∧ Fr n0 L
theorem law_21e (m : MethodId) (wRequestState_UNKNOWN : Addr) (wRequestState_IN_PROGRESS : Addr) (wRequestState_REMOVED : Addr) (wRequestState_DONE : Addr) (wRequestState_FAILED : Addr) (wOptional_EMPTY : Addr) (wIntegerCache_cache : Addr) (zCOMPACT_STRINGS : Int32) (clC : Cell) (i0 : Int32) (i1 : Int32) (i2 : Int32) : entryFrame m #[(.int i0), (.int i1), (.int i2)] maxLocals = mkF m 0 #[iv i0, iv i1, iv i2, .unset, .unset, .unset, .unset, .unset, .unset, .unset, .unset, .unset, .unset, .unset, .unset, .unset, .unset, .unset, .unset] [] := by first | (simp [entryFrame, mkF, argsToLocals, Value.category, maxLocals]; done) | rfl
set_option maxRecDepth 65536 in
set_option maxHeartbeats 40000000 in
theorem law_21 (l : Launch) (Z : State) (a0 : Array Value) (hw : HW a0 Z) (ws : List Jvm.Cond) (wRequestState_UNKNOWN : Addr) (wRequestState_IN_PROGRESS : Addr) (wRequestState_REMOVED : Addr) (wRequestState_DONE : Addr) (wRequestState_FAILED : Addr) (wOptional_EMPTY : Addr) (wIntegerCache_cache : Addr) (zCOMPACT_STRINGS : Int32) (clC : Cell) (B : Base Z wRequestState_UNKNOWN wRequestState_IN_PROGRESS wRequestState_REMOVED wRequestState_DONE wRequestState_FAILED wOptional_EMPTY wIntegerCache_cache zCOMPACT_STRINGS clC) (i0 : Int32) (i1 : Int32) (i2 : Int32) (h0 : Heap) (n0 : Nat) (O0 : Old Z n0 h0) (pin0 : (own_b (i0 &&& (1 : Int32))) = (0 : Int32)) (pin1 : (own_b (i0 &&& (2 : Int32))) = (0 : Int32)) (pin2 : (own_b (i0 &&& (4 : Int32))) = (1 : Int32)) (pin3 : (own_b (i0 &&& (8 : Int32))) = (0 : Int32)) (pin4 : (own_b (i0 &&& (16 : Int32))) = (1 : Int32)) (hc3 : ¬ ((255 : Int32) < ((i1 &&& (255 : Int32)).toUInt32.toUInt16.toUInt32.toInt32))) (hc4 : ¬ ((255 : Int32) < ((i2 &&& (255 : Int32)).toUInt32.toUInt16.toUInt32.toInt32))) :
    MetFree l x (head1 (Jvm.Cond.code x code maxLocals ret :: ws) room_1) (fun a U => a = #[(.int i0), (.int i1), (.int i2)] ∧ Z.Warmed39 U.vm ∧ U.heap = h0) (fun _ _ _ _ _ => True) (fun _ U o U' => ∃ v L, o = .returned v ∧ law_21Q Z wRequestState_UNKNOWN wRequestState_IN_PROGRESS wRequestState_REMOVED wRequestState_DONE wRequestState_FAILED wOptional_EMPTY wIntegerCache_cache zCOMPACT_STRINGS clC i0 i1 i2 h0 n0 v U'.heap L ∧ FrameEnd U o U' L room_1.cells room_1.slots) := by
  refine MetFree.of_bodySF (plainFor_of_name pn_com_example_agave_agave_store_RequestStateOfPinLaw) hisR ?_
  intro p e s m args below meth c s₁ Bd hml0 hP hK
  obtain ⟨rfl, hZ, hh⟩ := hP
  have hx := Bd.exec
  have hby := Bd.bytes
  have hml : c.maxLocals = 19 := hml0
  have hown : s.vm.findClass "com/example/agave/agave/store/RequestStateOfPinLaw" = some m.cls := findClass_of_methodNamed Bd.named
  have hnm := (name_of_methodNamed Bd.named Bd.method).1
  have X0 : Stand p l e room_1 s m #[(.int i0), (.int i1), (.int i2)] below meth c s₁ [] 0 0 := Stand.of_body Bd
  have e0 : s₁.heap = h0 := by rw [← hh, Bd.state]; rfl
  have N0 := Fr.nil n0
  have pre0 : ∀ t, Steps p.tables e below (s₁.setTop (mkF m 0 #[iv i0, iv i1, iv i2, .unset, .unset, .unset, .unset, .unset, .unset, .unset, .unset, .unset, .unset, .unset, .unset, .unset, .unset, .unset, .unset] [])) t → Steps p.tables e below (s₁.setTop (entryFrame m #[(.int i0), (.int i1), (.int i2)] maxLocals)) t := fun t k => castTop (law_21e m wRequestState_UNKNOWN wRequestState_IN_PROGRESS wRequestState_REMOVED wRequestState_DONE wRequestState_FAILED wOptional_EMPTY wIntegerCache_cache zCOMPACT_STRINGS clC i0 i1 i2) k
  obtain ⟨T1, L1, X1, e1, N1, st1⟩ := g0_1 i0 i1 i2 X0 hx hZ hw hby hml hown e0 O0 N0 (by decide) (by decide) (by decide) (by decide)
  obtain ⟨T5, h5, L5, b5_0, b5_1, b5_2, b5_3, k5_0, k5_1, X5, e5, N5, K5, lo5_1, lo5_2, lo5_3, lo5_4, nq5_5, nq5_6, nq5_7, nq5_8, nq5_9, nq5_10, f5_11, f5_12, f5_13, f5_14, f5_15, f5_16, f5_17, f5_18, f5_19, f5_20, st5⟩ := g0_2 i0 i1 i2 (0 : Int32) (0 : Int32) (1 : Int32) (0 : Int32) (1 : Int32) (own_b (i0 &&& (32 : Int32))) (own_b (i0 &&& (64 : Int32))) zCOMPACT_STRINGS X1 hx hZ hw hby hml hown e1 O0 N1 (by decide) (by decide) (by decide) (by decide) B.2.2.2.2.2.2.2.2.2.2.2.2.2.2.2.1 B.2.2.2.2.2.2.2.2.2.2.2.2.2.2.2.2.1 hc3 hc4
  have O_K5 : Old Z n0 h5 := O0.keep K5 all0
  have Kp_K5 : Keep h0 h5 [] := (Keep.refl h0 []).trans K5 all0
  obtain ⟨T6, L6, X6, e6, N6, st6⟩ := g0_3 i0 i1 i2 (0 : Int32) (0 : Int32) (1 : Int32) (1 : Int32) (own_b (i0 &&& (32 : Int32))) (own_b (i0 &&& (64 : Int32))) b5_0 b5_1 wOptional_EMPTY X5 hx hZ hw hby hml hown e5 O_K5 N5 (by decide) (by decide) (by decide) (by decide) B.2.2.2.2.2.2.2.2.2.2.1
  obtain ⟨T7, h7, L7, b7_0, X7, e7, N7, K7, lo7_1, f7_2, f7_3, st7⟩ := g0_17 i0 i1 i2 (0 : Int32) (0 : Int32) (1 : Int32) (0 : Int32) (own_b (i0 &&& (32 : Int32))) (own_b (i0 &&& (64 : Int32))) b5_0 b5_1 wOptional_EMPTY wOptional_EMPTY X6 hx hZ hw hby hml hown e6 O_K5 N6 (by decide) (by decide) (by decide) (by decide) B.2.2.2.2.2.2.2.2.2.2.1
  have O_K7 : Old Z n0 h7 := O_K5.keep K7 all0
  have Kp_K7 : Keep h0 h7 [] := Kp_K5.trans K7 all0
  obtain ⟨T8, h8, L8, b8_0, X8, e8, N8, K8, st8⟩ := m0_1 i0 i1 i2 (0 : Int32) (0 : Int32) (1 : Int32) (0 : Int32) (1 : Int32) (own_b (i0 &&& (32 : Int32))) (own_b (i0 &&& (64 : Int32))) b5_0 b5_1 wOptional_EMPTY b7_0 wOptional_EMPTY wIntegerCache_cache clC X7 hx hZ hw hby hml hown e7 O_K7 N7 (by decide) (by decide) (by decide) (by decide) B.2.2.2.2.2.2.2.2.2.2.1 B.2.2.2.2.2.2.2.2.2.2.1 B.2.2.2.2.2.2.2.2.2.2.2.2.1 B.2.2.2.2.2.2.2.2.2.2.2.2.2.1 B.2.2.2.2.2.2.2.2.2.2.2.2.2.2.2.2.2.2.2.2.2.2.2.2.2.2.2.2.2.1 B.2.2.2.2.2.2.2.2.2.2.2.2.2.2.2.2.2.2.2.2.2.2.2.2.2.2.2.2.2.2.1 B.2.2.2.2.2.2.2.2.2.2.2.2.2.2.2.2.2.2.2.2.2.2.2.2.2.2.2.2.2.2.2
  have O_K8 : Old Z n0 h8 := O_K7.keep K8 all0
  have Kp_K8 : Keep h0 h8 [] := Kp_K7.trans K8 all0
  obtain ⟨T9, L9, X9, e9, N9, st9⟩ := g0_7 i0 i1 i2 (0 : Int32) (1 : Int32) (0 : Int32) (1 : Int32) (own_b (i0 &&& (32 : Int32))) (own_b (i0 &&& (64 : Int32))) b5_0 b5_1 wOptional_EMPTY b7_0 b8_0 wOptional_EMPTY X8 hx hZ hw hby hml hown e8 O_K8 N8 (by decide) (by decide) (by decide) (by decide) B.2.2.2.2.2.2.2.2.2.2.1
  obtain ⟨T10, h10, L10, b10_0, b10_1, X10, e10, N10, K10, lo10_1, lo10_2, nq10_3, f10_4, f10_5, f10_6, f10_7, f10_8, f10_9, f10_10, st10⟩ := g0_13 i0 i1 i2 (0 : Int32) (0 : Int32) (0 : Int32) (1 : Int32) (own_b (i0 &&& (32 : Int32))) (own_b (i0 &&& (64 : Int32))) b5_0 b5_1 wOptional_EMPTY b7_0 b8_0 wOptional_EMPTY wOptional_EMPTY X9 hx hZ hw hby hml hown e9 O_K8 N9 (by decide) (by decide) (by decide) (by decide) B.2.2.2.2.2.2.2.2.2.2.1
  have O_K10 : Old Z n0 h10 := O_K8.keep K10 all0
  have Kp_K10 : Keep h0 h10 [] := Kp_K8.trans K10 all0
  obtain ⟨T11, L11, X11, e11, N11, st11⟩ := g0_14 i0 i1 i2 (0 : Int32) (1 : Int32) (own_b (i0 &&& (32 : Int32))) (own_b (i0 &&& (64 : Int32))) b5_0 b5_1 wOptional_EMPTY b7_0 b8_0 wOptional_EMPTY b10_0 b10_1 wRequestState_REMOVED X10 hx hZ hw hby hml hown e10 O_K10 N10 (by decide) (by decide) (by decide) (by decide) B.2.2.2.2.2.2.2.2.2.2.2.1 B.2.2.2.2.2.2.2.2.2.2.2.2.2.2.2.2.2.1 f10_4 f10_5 B.2.2.2.2.1
  obtain ⟨fs, hr, hrun, hended, hW, hsame⟩ := X11.leave (v := some (.int (1 : Int32))) (fun h => by rw [Bd.returns] at h; cases h)
  refine ⟨_, _, pre0 _ ?_, hrun, hended, _, _, rfl, ?_, ⟨_, rfl⟩, hW, hsame.mono (by decide) (by decide)⟩
  · refine st1 _ ?_
    show St p e below T1 m 94 #[iv i0, iv i1, iv i2, iv (own_b (i0 &&& (1 : Int32))), iv (own_b (i0 &&& (2 : Int32))), iv (own_b (i0 &&& (4 : Int32))), iv (own_b (i0 &&& (8 : Int32))), iv (own_b (i0 &&& (16 : Int32))), iv (own_b (i0 &&& (32 : Int32))), iv (own_b (i0 &&& (64 : Int32))), .unset, .unset, .unset, .unset, .unset, .unset, .unset, .unset, .unset] [] _
    rw [pin0]
    rw [pin1]
    rw [pin2]
    rw [pin3]
    rw [pin4]
    refine st5 _ ?_
    refine st6 _ ?_
    refine st7 _ ?_
    refine st8 _ ?_
    refine st9 _ ?_
    refine st10 _ ?_
    refine st11 _ ?_
    show St p e below T11 m 320 #[iv i0, iv i1, iv i2, iv (0 : Int32), iv (0 : Int32), iv (1 : Int32), iv (0 : Int32), iv (1 : Int32), iv (own_b (i0 &&& (32 : Int32))), iv (own_b (i0 &&& (64 : Int32))), rv b5_0, rv b5_1, rv wOptional_EMPTY, rv b7_0, rv b8_0, rv wOptional_EMPTY, rv b10_0, rv wRequestState_REMOVED, rv wRequestState_REMOVED] [(.int (1 : Int32))] _
    exact retN X11 hx (t := .boolean) Bd.returns (by simp) (hb hby at_320) hr
  · show law_21Q Z wRequestState_UNKNOWN wRequestState_IN_PROGRESS wRequestState_REMOVED wRequestState_DONE wRequestState_FAILED wOptional_EMPTY wIntegerCache_cache zCOMPACT_STRINGS clC i0 i1 i2 h0 n0 _ T11.heap _
    rw [e11]
    exact ⟨rfl, N11⟩
def law_22Q (Z : State) (wRequestState_UNKNOWN : Addr) (wRequestState_IN_PROGRESS : Addr) (wRequestState_REMOVED : Addr) (wRequestState_DONE : Addr) (wRequestState_FAILED : Addr) (wOptional_EMPTY : Addr) (wIntegerCache_cache : Addr) (zCOMPACT_STRINGS : Int32) (clC : Cell) (i0 : Int32) (i1 : Int32) (i2 : Int32) (h0 : Heap) (n0 : Nat) (v : Option Value) (h : Heap) (L : List Loc) : Prop := v = some (.int (1 : Int32)) ∧ Fr n0 L
theorem law_22e (m : MethodId) (wRequestState_UNKNOWN : Addr) (wRequestState_IN_PROGRESS : Addr) (wRequestState_REMOVED : Addr) (wRequestState_DONE : Addr) (wRequestState_FAILED : Addr) (wOptional_EMPTY : Addr) (wIntegerCache_cache : Addr) (zCOMPACT_STRINGS : Int32) (clC : Cell) (i0 : Int32) (i1 : Int32) (i2 : Int32) : entryFrame m #[(.int i0), (.int i1), (.int i2)] maxLocals = mkF m 0 #[iv i0, iv i1, iv i2, .unset, .unset, .unset, .unset, .unset, .unset, .unset, .unset, .unset, .unset, .unset, .unset, .unset, .unset, .unset, .unset] [] := by first | (simp [entryFrame, mkF, argsToLocals, Value.category, maxLocals]; done) | rfl
set_option maxRecDepth 65536 in
set_option maxHeartbeats 40000000 in
theorem law_22 (l : Launch) (Z : State) (a0 : Array Value) (hw : HW a0 Z) (ws : List Jvm.Cond) (wRequestState_UNKNOWN : Addr) (wRequestState_IN_PROGRESS : Addr) (wRequestState_REMOVED : Addr) (wRequestState_DONE : Addr) (wRequestState_FAILED : Addr) (wOptional_EMPTY : Addr) (wIntegerCache_cache : Addr) (zCOMPACT_STRINGS : Int32) (clC : Cell) (B : Base Z wRequestState_UNKNOWN wRequestState_IN_PROGRESS wRequestState_REMOVED wRequestState_DONE wRequestState_FAILED wOptional_EMPTY wIntegerCache_cache zCOMPACT_STRINGS clC) (i0 : Int32) (i1 : Int32) (i2 : Int32) (h0 : Heap) (n0 : Nat) (O0 : Old Z n0 h0) (pin0 : (own_b (i0 &&& (1 : Int32))) = (1 : Int32)) (pin1 : (own_b (i0 &&& (2 : Int32))) = (0 : Int32)) (pin2 : (own_b (i0 &&& (4 : Int32))) = (1 : Int32)) (pin3 : (own_b (i0 &&& (8 : Int32))) = (0 : Int32)) (pin4 : (own_b (i0 &&& (16 : Int32))) = (1 : Int32)) (hc3 : ¬ ((255 : Int32) < ((i1 &&& (255 : Int32)).toUInt32.toUInt16.toUInt32.toInt32))) (hc4 : ¬ ((255 : Int32) < ((i2 &&& (255 : Int32)).toUInt32.toUInt16.toUInt32.toInt32))) :
    MetFree l x (head1 (Jvm.Cond.code x code maxLocals ret :: ws) room_1) (fun a U => a = #[(.int i0), (.int i1), (.int i2)] ∧ Z.Warmed39 U.vm ∧ U.heap = h0) (fun _ _ _ _ _ => True) (fun _ U o U' => ∃ v L, o = .returned v ∧ law_22Q Z wRequestState_UNKNOWN wRequestState_IN_PROGRESS wRequestState_REMOVED wRequestState_DONE wRequestState_FAILED wOptional_EMPTY wIntegerCache_cache zCOMPACT_STRINGS clC i0 i1 i2 h0 n0 v U'.heap L ∧ FrameEnd U o U' L room_1.cells room_1.slots) := by
  refine MetFree.of_bodySF (plainFor_of_name pn_com_example_agave_agave_store_RequestStateOfPinLaw) hisR ?_
  intro p e s m args below meth c s₁ Bd hml0 hP hK
  obtain ⟨rfl, hZ, hh⟩ := hP
  have hx := Bd.exec
  have hby := Bd.bytes
  have hml : c.maxLocals = 19 := hml0
  have hown : s.vm.findClass "com/example/agave/agave/store/RequestStateOfPinLaw" = some m.cls := findClass_of_methodNamed Bd.named
  have hnm := (name_of_methodNamed Bd.named Bd.method).1
  have X0 : Stand p l e room_1 s m #[(.int i0), (.int i1), (.int i2)] below meth c s₁ [] 0 0 := Stand.of_body Bd
  have e0 : s₁.heap = h0 := by rw [← hh, Bd.state]; rfl
  have N0 := Fr.nil n0
  have pre0 : ∀ t, Steps p.tables e below (s₁.setTop (mkF m 0 #[iv i0, iv i1, iv i2, .unset, .unset, .unset, .unset, .unset, .unset, .unset, .unset, .unset, .unset, .unset, .unset, .unset, .unset, .unset, .unset] [])) t → Steps p.tables e below (s₁.setTop (entryFrame m #[(.int i0), (.int i1), (.int i2)] maxLocals)) t := fun t k => castTop (law_22e m wRequestState_UNKNOWN wRequestState_IN_PROGRESS wRequestState_REMOVED wRequestState_DONE wRequestState_FAILED wOptional_EMPTY wIntegerCache_cache zCOMPACT_STRINGS clC i0 i1 i2) k
  obtain ⟨T1, L1, X1, e1, N1, st1⟩ := g0_1 i0 i1 i2 X0 hx hZ hw hby hml hown e0 O0 N0 (by decide) (by decide) (by decide) (by decide)
  obtain ⟨T5, h5, L5, b5_0, b5_1, b5_2, b5_3, k5_0, k5_1, X5, e5, N5, K5, lo5_1, lo5_2, lo5_3, lo5_4, nq5_5, nq5_6, nq5_7, nq5_8, nq5_9, nq5_10, f5_11, f5_12, f5_13, f5_14, f5_15, f5_16, f5_17, f5_18, f5_19, f5_20, st5⟩ := g0_2 i0 i1 i2 (1 : Int32) (0 : Int32) (1 : Int32) (0 : Int32) (1 : Int32) (own_b (i0 &&& (32 : Int32))) (own_b (i0 &&& (64 : Int32))) zCOMPACT_STRINGS X1 hx hZ hw hby hml hown e1 O0 N1 (by decide) (by decide) (by decide) (by decide) B.2.2.2.2.2.2.2.2.2.2.2.2.2.2.2.1 B.2.2.2.2.2.2.2.2.2.2.2.2.2.2.2.2.1 hc3 hc4
  have O_K5 : Old Z n0 h5 := O0.keep K5 all0
  have Kp_K5 : Keep h0 h5 [] := (Keep.refl h0 []).trans K5 all0
  obtain ⟨T6, L6, X6, e6, N6, st6⟩ := g0_3 i0 i1 i2 (1 : Int32) (0 : Int32) (1 : Int32) (1 : Int32) (own_b (i0 &&& (32 : Int32))) (own_b (i0 &&& (64 : Int32))) b5_0 b5_1 wOptional_EMPTY X5 hx hZ hw hby hml hown e5 O_K5 N5 (by decide) (by decide) (by decide) (by decide) B.2.2.2.2.2.2.2.2.2.2.1
  obtain ⟨T7, h7, L7, b7_0, X7, e7, N7, K7, lo7_1, f7_2, f7_3, st7⟩ := g0_17 i0 i1 i2 (1 : Int32) (0 : Int32) (1 : Int32) (0 : Int32) (own_b (i0 &&& (32 : Int32))) (own_b (i0 &&& (64 : Int32))) b5_0 b5_1 wOptional_EMPTY wOptional_EMPTY X6 hx hZ hw hby hml hown e6 O_K5 N6 (by decide) (by decide) (by decide) (by decide) B.2.2.2.2.2.2.2.2.2.2.1
  have O_K7 : Old Z n0 h7 := O_K5.keep K7 all0
  have Kp_K7 : Keep h0 h7 [] := Kp_K5.trans K7 all0
  obtain ⟨T8, h8, L8, b8_0, X8, e8, N8, K8, st8⟩ := m0_1 i0 i1 i2 (1 : Int32) (0 : Int32) (1 : Int32) (0 : Int32) (1 : Int32) (own_b (i0 &&& (32 : Int32))) (own_b (i0 &&& (64 : Int32))) b5_0 b5_1 wOptional_EMPTY b7_0 wOptional_EMPTY wIntegerCache_cache clC X7 hx hZ hw hby hml hown e7 O_K7 N7 (by decide) (by decide) (by decide) (by decide) B.2.2.2.2.2.2.2.2.2.2.1 B.2.2.2.2.2.2.2.2.2.2.1 B.2.2.2.2.2.2.2.2.2.2.2.2.1 B.2.2.2.2.2.2.2.2.2.2.2.2.2.1 B.2.2.2.2.2.2.2.2.2.2.2.2.2.2.2.2.2.2.2.2.2.2.2.2.2.2.2.2.2.1 B.2.2.2.2.2.2.2.2.2.2.2.2.2.2.2.2.2.2.2.2.2.2.2.2.2.2.2.2.2.2.1 B.2.2.2.2.2.2.2.2.2.2.2.2.2.2.2.2.2.2.2.2.2.2.2.2.2.2.2.2.2.2.2
  have O_K8 : Old Z n0 h8 := O_K7.keep K8 all0
  have Kp_K8 : Keep h0 h8 [] := Kp_K7.trans K8 all0
  obtain ⟨T9, h9, L9, b9_0, b9_1, X9, e9, N9, K9, lo9_1, lo9_2, nq9_3, f9_4, f9_5, f9_6, f9_7, f9_8, f9_9, f9_10, f9_11, st9⟩ := g0_10 i0 i1 i2 (0 : Int32) (1 : Int32) (0 : Int32) (1 : Int32) (own_b (i0 &&& (32 : Int32))) (own_b (i0 &&& (64 : Int32))) b5_0 b5_1 wOptional_EMPTY b7_0 b8_0 wOptional_EMPTY X8 hx hZ hw hby hml hown e8 O_K8 N8 (by decide) (by decide) (by decide) (by decide) B.2.2.2.2.2.2.2.2.2.2.1
  have O_K9 : Old Z n0 h9 := O_K8.keep K9 all0
  have Kp_K9 : Keep h0 h9 [] := Kp_K8.trans K9 all0
  obtain ⟨T10, h10, L10, b10_0, b10_1, X10, e10, N10, K10, lo10_1, lo10_2, nq10_3, f10_4, f10_5, f10_6, f10_7, f10_8, f10_9, f10_10, st10⟩ := g0_13 i0 i1 i2 (1 : Int32) (0 : Int32) (0 : Int32) (1 : Int32) (own_b (i0 &&& (32 : Int32))) (own_b (i0 &&& (64 : Int32))) b5_0 b5_1 wOptional_EMPTY b7_0 b8_0 b9_0 wOptional_EMPTY X9 hx hZ hw hby hml hown e9 O_K9 N9 (by decide) (by decide) (by decide) (by decide) B.2.2.2.2.2.2.2.2.2.2.1
  have O_K10 : Old Z n0 h10 := O_K9.keep K10 all0
  have Kp_K10 : Keep h0 h10 [] := Kp_K9.trans K10 all0
  have f11 := (f9_4.keep K10)
  have f12 := (f9_5.keep K10 nin0)
  have f13 := (f9_6.keep K10)
  have f14 := (f9_10.keep K10 nin0)
  have f15 := (((f7_2.keep K8).keep K9).keep K10)
  have f16 := (((f7_3.keep K8 nin0).keep K9 nin0).keep K10 nin0)
  obtain ⟨T17, L17, X17, e17, N17, st17⟩ := g0_18 i0 i1 i2 (0 : Int32) (1 : Int32) (0 : Int32) (own_b (i0 &&& (32 : Int32))) (own_b (i0 &&& (64 : Int32))) b5_0 b5_1 wOptional_EMPTY b7_0 b8_0 b9_0 b10_0 b9_1 b7_0 b5_1 wRequestState_FAILED X10 hx hZ hw hby hml hown e10 O_K10 N10 (by decide) (by decide) (by decide) (by decide) f11 f12 f13 f14 f15 f16 B.2.2.2.2.2.2.2.2.1
  obtain ⟨fs, hr, hrun, hended, hW, hsame⟩ := X17.leave (v := some (.int (1 : Int32))) (fun h => by rw [Bd.returns] at h; cases h)
  refine ⟨_, _, pre0 _ ?_, hrun, hended, _, _, rfl, ?_, ⟨_, rfl⟩, hW, hsame.mono (by decide) (by decide)⟩
  · refine st1 _ ?_
    show St p e below T1 m 94 #[iv i0, iv i1, iv i2, iv (own_b (i0 &&& (1 : Int32))), iv (own_b (i0 &&& (2 : Int32))), iv (own_b (i0 &&& (4 : Int32))), iv (own_b (i0 &&& (8 : Int32))), iv (own_b (i0 &&& (16 : Int32))), iv (own_b (i0 &&& (32 : Int32))), iv (own_b (i0 &&& (64 : Int32))), .unset, .unset, .unset, .unset, .unset, .unset, .unset, .unset, .unset] [] _
    rw [pin0]
    rw [pin1]
    rw [pin2]
    rw [pin3]
    rw [pin4]
    refine st5 _ ?_
    refine st6 _ ?_
    refine st7 _ ?_
    refine st8 _ ?_
    refine st9 _ ?_
    refine st10 _ ?_
    refine st17 _ ?_
    show St p e below T17 m 320 #[iv i0, iv i1, iv i2, iv (1 : Int32), iv (0 : Int32), iv (1 : Int32), iv (0 : Int32), iv (1 : Int32), iv (own_b (i0 &&& (32 : Int32))), iv (own_b (i0 &&& (64 : Int32))), rv b5_0, rv b5_1, rv wOptional_EMPTY, rv b7_0, rv b8_0, rv b9_0, rv b10_0, rv wRequestState_FAILED, rv wRequestState_FAILED] [(.int (1 : Int32))] _
    exact retN X17 hx (t := .boolean) Bd.returns (by simp) (hb hby at_320) hr
  · show law_22Q Z wRequestState_UNKNOWN wRequestState_IN_PROGRESS wRequestState_REMOVED wRequestState_DONE wRequestState_FAILED wOptional_EMPTY wIntegerCache_cache zCOMPACT_STRINGS clC i0 i1 i2 h0 n0 _ T17.heap _
    rw [e17]
    exact ⟨rfl, N17⟩
def law_23Q (Z : State) (wRequestState_UNKNOWN : Addr) (wRequestState_IN_PROGRESS : Addr) (wRequestState_REMOVED : Addr) (wRequestState_DONE : Addr) (wRequestState_FAILED : Addr) (wOptional_EMPTY : Addr) (wIntegerCache_cache : Addr) (zCOMPACT_STRINGS : Int32) (clC : Cell) (i0 : Int32) (i1 : Int32) (i2 : Int32) (h0 : Heap) (n0 : Nat) (v : Option Value) (h : Heap) (L : List Loc) : Prop := v = some (.int (1 : Int32)) ∧ Fr n0 L
theorem law_23e (m : MethodId) (wRequestState_UNKNOWN : Addr) (wRequestState_IN_PROGRESS : Addr) (wRequestState_REMOVED : Addr) (wRequestState_DONE : Addr) (wRequestState_FAILED : Addr) (wOptional_EMPTY : Addr) (wIntegerCache_cache : Addr) (zCOMPACT_STRINGS : Int32) (clC : Cell) (i0 : Int32) (i1 : Int32) (i2 : Int32) : entryFrame m #[(.int i0), (.int i1), (.int i2)] maxLocals = mkF m 0 #[iv i0, iv i1, iv i2, .unset, .unset, .unset, .unset, .unset, .unset, .unset, .unset, .unset, .unset, .unset, .unset, .unset, .unset, .unset, .unset] [] := by first | (simp [entryFrame, mkF, argsToLocals, Value.category, maxLocals]; done) | rfl
set_option maxRecDepth 65536 in
set_option maxHeartbeats 40000000 in
theorem law_23 (l : Launch) (Z : State) (a0 : Array Value) (hw : HW a0 Z) (ws : List Jvm.Cond) (wRequestState_UNKNOWN : Addr) (wRequestState_IN_PROGRESS : Addr) (wRequestState_REMOVED : Addr) (wRequestState_DONE : Addr) (wRequestState_FAILED : Addr) (wOptional_EMPTY : Addr) (wIntegerCache_cache : Addr) (zCOMPACT_STRINGS : Int32) (clC : Cell) (B : Base Z wRequestState_UNKNOWN wRequestState_IN_PROGRESS wRequestState_REMOVED wRequestState_DONE wRequestState_FAILED wOptional_EMPTY wIntegerCache_cache zCOMPACT_STRINGS clC) (i0 : Int32) (i1 : Int32) (i2 : Int32) (h0 : Heap) (n0 : Nat) (O0 : Old Z n0 h0) (pin0 : (own_b (i0 &&& (1 : Int32))) = (0 : Int32)) (pin1 : (own_b (i0 &&& (2 : Int32))) = (1 : Int32)) (pin2 : (own_b (i0 &&& (4 : Int32))) = (1 : Int32)) (pin3 : (own_b (i0 &&& (8 : Int32))) = (0 : Int32)) (pin4 : (own_b (i0 &&& (16 : Int32))) = (1 : Int32)) (hc3 : ¬ ((255 : Int32) < ((i1 &&& (255 : Int32)).toUInt32.toUInt16.toUInt32.toInt32))) (hc4 : ¬ ((255 : Int32) < ((i2 &&& (255 : Int32)).toUInt32.toUInt16.toUInt32.toInt32))) :
    MetFree l x (head1 (Jvm.Cond.code x code maxLocals ret :: ws) room_1) (fun a U => a = #[(.int i0), (.int i1), (.int i2)] ∧ Z.Warmed39 U.vm ∧ U.heap = h0) (fun _ _ _ _ _ => True) (fun _ U o U' => ∃ v L, o = .returned v ∧ law_23Q Z wRequestState_UNKNOWN wRequestState_IN_PROGRESS wRequestState_REMOVED wRequestState_DONE wRequestState_FAILED wOptional_EMPTY wIntegerCache_cache zCOMPACT_STRINGS clC i0 i1 i2 h0 n0 v U'.heap L ∧ FrameEnd U o U' L room_1.cells room_1.slots) := by
  refine MetFree.of_bodySF (plainFor_of_name pn_com_example_agave_agave_store_RequestStateOfPinLaw) hisR ?_
  intro p e s m args below meth c s₁ Bd hml0 hP hK
  obtain ⟨rfl, hZ, hh⟩ := hP
  have hx := Bd.exec
  have hby := Bd.bytes
  have hml : c.maxLocals = 19 := hml0
  have hown : s.vm.findClass "com/example/agave/agave/store/RequestStateOfPinLaw" = some m.cls := findClass_of_methodNamed Bd.named
  have hnm := (name_of_methodNamed Bd.named Bd.method).1
  have X0 : Stand p l e room_1 s m #[(.int i0), (.int i1), (.int i2)] below meth c s₁ [] 0 0 := Stand.of_body Bd
  have e0 : s₁.heap = h0 := by rw [← hh, Bd.state]; rfl
  have N0 := Fr.nil n0
  have pre0 : ∀ t, Steps p.tables e below (s₁.setTop (mkF m 0 #[iv i0, iv i1, iv i2, .unset, .unset, .unset, .unset, .unset, .unset, .unset, .unset, .unset, .unset, .unset, .unset, .unset, .unset, .unset, .unset] [])) t → Steps p.tables e below (s₁.setTop (entryFrame m #[(.int i0), (.int i1), (.int i2)] maxLocals)) t := fun t k => castTop (law_23e m wRequestState_UNKNOWN wRequestState_IN_PROGRESS wRequestState_REMOVED wRequestState_DONE wRequestState_FAILED wOptional_EMPTY wIntegerCache_cache zCOMPACT_STRINGS clC i0 i1 i2) k
  obtain ⟨T1, L1, X1, e1, N1, st1⟩ := g0_1 i0 i1 i2 X0 hx hZ hw hby hml hown e0 O0 N0 (by decide) (by decide) (by decide) (by decide)
  obtain ⟨T5, h5, L5, b5_0, b5_1, b5_2, b5_3, k5_0, k5_1, X5, e5, N5, K5, lo5_1, lo5_2, lo5_3, lo5_4, nq5_5, nq5_6, nq5_7, nq5_8, nq5_9, nq5_10, f5_11, f5_12, f5_13, f5_14, f5_15, f5_16, f5_17, f5_18, f5_19, f5_20, st5⟩ := g0_2 i0 i1 i2 (0 : Int32) (1 : Int32) (1 : Int32) (0 : Int32) (1 : Int32) (own_b (i0 &&& (32 : Int32))) (own_b (i0 &&& (64 : Int32))) zCOMPACT_STRINGS X1 hx hZ hw hby hml hown e1 O0 N1 (by decide) (by decide) (by decide) (by decide) B.2.2.2.2.2.2.2.2.2.2.2.2.2.2.2.1 B.2.2.2.2.2.2.2.2.2.2.2.2.2.2.2.2.1 hc3 hc4
  have O_K5 : Old Z n0 h5 := O0.keep K5 all0
  have Kp_K5 : Keep h0 h5 [] := (Keep.refl h0 []).trans K5 all0
  obtain ⟨T6, L6, X6, e6, N6, st6⟩ := g0_3 i0 i1 i2 (0 : Int32) (1 : Int32) (1 : Int32) (1 : Int32) (own_b (i0 &&& (32 : Int32))) (own_b (i0 &&& (64 : Int32))) b5_0 b5_1 wOptional_EMPTY X5 hx hZ hw hby hml hown e5 O_K5 N5 (by decide) (by decide) (by decide) (by decide) B.2.2.2.2.2.2.2.2.2.2.1
  obtain ⟨T7, h7, L7, b7_0, X7, e7, N7, K7, lo7_1, f7_2, f7_3, st7⟩ := g0_17 i0 i1 i2 (0 : Int32) (1 : Int32) (1 : Int32) (0 : Int32) (own_b (i0 &&& (32 : Int32))) (own_b (i0 &&& (64 : Int32))) b5_0 b5_1 wOptional_EMPTY wOptional_EMPTY X6 hx hZ hw hby hml hown e6 O_K5 N6 (by decide) (by decide) (by decide) (by decide) B.2.2.2.2.2.2.2.2.2.2.1
  have O_K7 : Old Z n0 h7 := O_K5.keep K7 all0
  have Kp_K7 : Keep h0 h7 [] := Kp_K5.trans K7 all0
  obtain ⟨T8, h8, L8, b8_0, X8, e8, N8, K8, st8⟩ := m0_1 i0 i1 i2 (0 : Int32) (1 : Int32) (1 : Int32) (0 : Int32) (1 : Int32) (own_b (i0 &&& (32 : Int32))) (own_b (i0 &&& (64 : Int32))) b5_0 b5_1 wOptional_EMPTY b7_0 wOptional_EMPTY wIntegerCache_cache clC X7 hx hZ hw hby hml hown e7 O_K7 N7 (by decide) (by decide) (by decide) (by decide) B.2.2.2.2.2.2.2.2.2.2.1 B.2.2.2.2.2.2.2.2.2.2.1 B.2.2.2.2.2.2.2.2.2.2.2.2.1 B.2.2.2.2.2.2.2.2.2.2.2.2.2.1 B.2.2.2.2.2.2.2.2.2.2.2.2.2.2.2.2.2.2.2.2.2.2.2.2.2.2.2.2.2.1 B.2.2.2.2.2.2.2.2.2.2.2.2.2.2.2.2.2.2.2.2.2.2.2.2.2.2.2.2.2.2.1 B.2.2.2.2.2.2.2.2.2.2.2.2.2.2.2.2.2.2.2.2.2.2.2.2.2.2.2.2.2.2.2
  have O_K8 : Old Z n0 h8 := O_K7.keep K8 all0
  have Kp_K8 : Keep h0 h8 [] := Kp_K7.trans K8 all0
  obtain ⟨T9, L9, X9, e9, N9, st9⟩ := g0_7 i0 i1 i2 (1 : Int32) (1 : Int32) (0 : Int32) (1 : Int32) (own_b (i0 &&& (32 : Int32))) (own_b (i0 &&& (64 : Int32))) b5_0 b5_1 wOptional_EMPTY b7_0 b8_0 wOptional_EMPTY X8 hx hZ hw hby hml hown e8 O_K8 N8 (by decide) (by decide) (by decide) (by decide) B.2.2.2.2.2.2.2.2.2.2.1
  obtain ⟨T10, h10, L10, b10_0, b10_1, X10, e10, N10, K10, lo10_1, lo10_2, nq10_3, f10_4, f10_5, f10_6, f10_7, f10_8, f10_9, f10_10, st10⟩ := g0_13 i0 i1 i2 (0 : Int32) (1 : Int32) (0 : Int32) (1 : Int32) (own_b (i0 &&& (32 : Int32))) (own_b (i0 &&& (64 : Int32))) b5_0 b5_1 wOptional_EMPTY b7_0 b8_0 wOptional_EMPTY wOptional_EMPTY X9 hx hZ hw hby hml hown e9 O_K8 N9 (by decide) (by decide) (by decide) (by decide) B.2.2.2.2.2.2.2.2.2.2.1
  have O_K10 : Old Z n0 h10 := O_K8.keep K10 all0
  have Kp_K10 : Keep h0 h10 [] := Kp_K8.trans K10 all0
  obtain ⟨T11, L11, X11, e11, N11, st11⟩ := g0_12 i0 i1 i2 (1 : Int32) (0 : Int32) (1 : Int32) (own_b (i0 &&& (32 : Int32))) (own_b (i0 &&& (64 : Int32))) b5_0 b5_1 wOptional_EMPTY b7_0 b8_0 wOptional_EMPTY b10_0 wRequestState_IN_PROGRESS X10 hx hZ hw hby hml hown e10 O_K10 N10 (by decide) (by decide) (by decide) (by decide) B.2.2.2.2.2.2.2.2.2.2.2.1 B.2.2.2.2.2.2.2.2.2.2.2.2.2.2.2.2.2.1 B.2.2.1
  obtain ⟨fs, hr, hrun, hended, hW, hsame⟩ := X11.leave (v := some (.int (1 : Int32))) (fun h => by rw [Bd.returns] at h; cases h)
  refine ⟨_, _, pre0 _ ?_, hrun, hended, _, _, rfl, ?_, ⟨_, rfl⟩, hW, hsame.mono (by decide) (by decide)⟩
  · refine st1 _ ?_
    show St p e below T1 m 94 #[iv i0, iv i1, iv i2, iv (own_b (i0 &&& (1 : Int32))), iv (own_b (i0 &&& (2 : Int32))), iv (own_b (i0 &&& (4 : Int32))), iv (own_b (i0 &&& (8 : Int32))), iv (own_b (i0 &&& (16 : Int32))), iv (own_b (i0 &&& (32 : Int32))), iv (own_b (i0 &&& (64 : Int32))), .unset, .unset, .unset, .unset, .unset, .unset, .unset, .unset, .unset] [] _
    rw [pin0]
    rw [pin1]
    rw [pin2]
    rw [pin3]
    rw [pin4]
    refine st5 _ ?_
    refine st6 _ ?_
    refine st7 _ ?_
    refine st8 _ ?_
    refine st9 _ ?_
    refine st10 _ ?_
    refine st11 _ ?_
    show St p e below T11 m 320 #[iv i0, iv i1, iv i2, iv (0 : Int32), iv (1 : Int32), iv (1 : Int32), iv (0 : Int32), iv (1 : Int32), iv (own_b (i0 &&& (32 : Int32))), iv (own_b (i0 &&& (64 : Int32))), rv b5_0, rv b5_1, rv wOptional_EMPTY, rv b7_0, rv b8_0, rv wOptional_EMPTY, rv b10_0, rv wRequestState_IN_PROGRESS, rv wRequestState_IN_PROGRESS] [(.int (1 : Int32))] _
    exact retN X11 hx (t := .boolean) Bd.returns (by simp) (hb hby at_320) hr
  · show law_23Q Z wRequestState_UNKNOWN wRequestState_IN_PROGRESS wRequestState_REMOVED wRequestState_DONE wRequestState_FAILED wOptional_EMPTY wIntegerCache_cache zCOMPACT_STRINGS clC i0 i1 i2 h0 n0 _ T11.heap _
    rw [e11]
    exact ⟨rfl, N11⟩
def law_24Q (Z : State) (wRequestState_UNKNOWN : Addr) (wRequestState_IN_PROGRESS : Addr) (wRequestState_REMOVED : Addr) (wRequestState_DONE : Addr) (wRequestState_FAILED : Addr) (wOptional_EMPTY : Addr) (wIntegerCache_cache : Addr) (zCOMPACT_STRINGS : Int32) (clC : Cell) (i0 : Int32) (i1 : Int32) (i2 : Int32) (h0 : Heap) (n0 : Nat) (v : Option Value) (h : Heap) (L : List Loc) : Prop := v = some (.int (1 : Int32)) ∧ Fr n0 L
theorem law_24e (m : MethodId) (wRequestState_UNKNOWN : Addr) (wRequestState_IN_PROGRESS : Addr) (wRequestState_REMOVED : Addr) (wRequestState_DONE : Addr) (wRequestState_FAILED : Addr) (wOptional_EMPTY : Addr) (wIntegerCache_cache : Addr) (zCOMPACT_STRINGS : Int32) (clC : Cell) (i0 : Int32) (i1 : Int32) (i2 : Int32) : entryFrame m #[(.int i0), (.int i1), (.int i2)] maxLocals = mkF m 0 #[iv i0, iv i1, iv i2, .unset, .unset, .unset, .unset, .unset, .unset, .unset, .unset, .unset, .unset, .unset, .unset, .unset, .unset, .unset, .unset] [] := by first | (simp [entryFrame, mkF, argsToLocals, Value.category, maxLocals]; done) | rfl
set_option maxRecDepth 65536 in
set_option maxHeartbeats 40000000 in
theorem law_24 (l : Launch) (Z : State) (a0 : Array Value) (hw : HW a0 Z) (ws : List Jvm.Cond) (wRequestState_UNKNOWN : Addr) (wRequestState_IN_PROGRESS : Addr) (wRequestState_REMOVED : Addr) (wRequestState_DONE : Addr) (wRequestState_FAILED : Addr) (wOptional_EMPTY : Addr) (wIntegerCache_cache : Addr) (zCOMPACT_STRINGS : Int32) (clC : Cell) (B : Base Z wRequestState_UNKNOWN wRequestState_IN_PROGRESS wRequestState_REMOVED wRequestState_DONE wRequestState_FAILED wOptional_EMPTY wIntegerCache_cache zCOMPACT_STRINGS clC) (i0 : Int32) (i1 : Int32) (i2 : Int32) (h0 : Heap) (n0 : Nat) (O0 : Old Z n0 h0) (pin0 : (own_b (i0 &&& (1 : Int32))) = (1 : Int32)) (pin1 : (own_b (i0 &&& (2 : Int32))) = (1 : Int32)) (pin2 : (own_b (i0 &&& (4 : Int32))) = (1 : Int32)) (pin3 : (own_b (i0 &&& (8 : Int32))) = (0 : Int32)) (pin4 : (own_b (i0 &&& (16 : Int32))) = (1 : Int32)) (hc3 : ¬ ((255 : Int32) < ((i1 &&& (255 : Int32)).toUInt32.toUInt16.toUInt32.toInt32))) (hc4 : ¬ ((255 : Int32) < ((i2 &&& (255 : Int32)).toUInt32.toUInt16.toUInt32.toInt32))) :
    MetFree l x (head1 (Jvm.Cond.code x code maxLocals ret :: ws) room_1) (fun a U => a = #[(.int i0), (.int i1), (.int i2)] ∧ Z.Warmed39 U.vm ∧ U.heap = h0) (fun _ _ _ _ _ => True) (fun _ U o U' => ∃ v L, o = .returned v ∧ law_24Q Z wRequestState_UNKNOWN wRequestState_IN_PROGRESS wRequestState_REMOVED wRequestState_DONE wRequestState_FAILED wOptional_EMPTY wIntegerCache_cache zCOMPACT_STRINGS clC i0 i1 i2 h0 n0 v U'.heap L ∧ FrameEnd U o U' L room_1.cells room_1.slots) := by
  refine MetFree.of_bodySF (plainFor_of_name pn_com_example_agave_agave_store_RequestStateOfPinLaw) hisR ?_
  intro p e s m args below meth c s₁ Bd hml0 hP hK
  obtain ⟨rfl, hZ, hh⟩ := hP
  have hx := Bd.exec
  have hby := Bd.bytes
  have hml : c.maxLocals = 19 := hml0
  have hown : s.vm.findClass "com/example/agave/agave/store/RequestStateOfPinLaw" = some m.cls := findClass_of_methodNamed Bd.named
  have hnm := (name_of_methodNamed Bd.named Bd.method).1
  have X0 : Stand p l e room_1 s m #[(.int i0), (.int i1), (.int i2)] below meth c s₁ [] 0 0 := Stand.of_body Bd
  have e0 : s₁.heap = h0 := by rw [← hh, Bd.state]; rfl
  have N0 := Fr.nil n0
  have pre0 : ∀ t, Steps p.tables e below (s₁.setTop (mkF m 0 #[iv i0, iv i1, iv i2, .unset, .unset, .unset, .unset, .unset, .unset, .unset, .unset, .unset, .unset, .unset, .unset, .unset, .unset, .unset, .unset] [])) t → Steps p.tables e below (s₁.setTop (entryFrame m #[(.int i0), (.int i1), (.int i2)] maxLocals)) t := fun t k => castTop (law_24e m wRequestState_UNKNOWN wRequestState_IN_PROGRESS wRequestState_REMOVED wRequestState_DONE wRequestState_FAILED wOptional_EMPTY wIntegerCache_cache zCOMPACT_STRINGS clC i0 i1 i2) k
  obtain ⟨T1, L1, X1, e1, N1, st1⟩ := g0_1 i0 i1 i2 X0 hx hZ hw hby hml hown e0 O0 N0 (by decide) (by decide) (by decide) (by decide)
  obtain ⟨T5, h5, L5, b5_0, b5_1, b5_2, b5_3, k5_0, k5_1, X5, e5, N5, K5, lo5_1, lo5_2, lo5_3, lo5_4, nq5_5, nq5_6, nq5_7, nq5_8, nq5_9, nq5_10, f5_11, f5_12, f5_13, f5_14, f5_15, f5_16, f5_17, f5_18, f5_19, f5_20, st5⟩ := g0_2 i0 i1 i2 (1 : Int32) (1 : Int32) (1 : Int32) (0 : Int32) (1 : Int32) (own_b (i0 &&& (32 : Int32))) (own_b (i0 &&& (64 : Int32))) zCOMPACT_STRINGS X1 hx hZ hw hby hml hown e1 O0 N1 (by decide) (by decide) (by decide) (by decide) B.2.2.2.2.2.2.2.2.2.2.2.2.2.2.2.1 B.2.2.2.2.2.2.2.2.2.2.2.2.2.2.2.2.1 hc3 hc4
  have O_K5 : Old Z n0 h5 := O0.keep K5 all0
  have Kp_K5 : Keep h0 h5 [] := (Keep.refl h0 []).trans K5 all0
  obtain ⟨T6, L6, X6, e6, N6, st6⟩ := g0_3 i0 i1 i2 (1 : Int32) (1 : Int32) (1 : Int32) (1 : Int32) (own_b (i0 &&& (32 : Int32))) (own_b (i0 &&& (64 : Int32))) b5_0 b5_1 wOptional_EMPTY X5 hx hZ hw hby hml hown e5 O_K5 N5 (by decide) (by decide) (by decide) (by decide) B.2.2.2.2.2.2.2.2.2.2.1
  obtain ⟨T7, h7, L7, b7_0, X7, e7, N7, K7, lo7_1, f7_2, f7_3, st7⟩ := g0_17 i0 i1 i2 (1 : Int32) (1 : Int32) (1 : Int32) (0 : Int32) (own_b (i0 &&& (32 : Int32))) (own_b (i0 &&& (64 : Int32))) b5_0 b5_1 wOptional_EMPTY wOptional_EMPTY X6 hx hZ hw hby hml hown e6 O_K5 N6 (by decide) (by decide) (by decide) (by decide) B.2.2.2.2.2.2.2.2.2.2.1
  have O_K7 : Old Z n0 h7 := O_K5.keep K7 all0
  have Kp_K7 : Keep h0 h7 [] := Kp_K5.trans K7 all0
  obtain ⟨T8, h8, L8, b8_0, X8, e8, N8, K8, st8⟩ := m0_1 i0 i1 i2 (1 : Int32) (1 : Int32) (1 : Int32) (0 : Int32) (1 : Int32) (own_b (i0 &&& (32 : Int32))) (own_b (i0 &&& (64 : Int32))) b5_0 b5_1 wOptional_EMPTY b7_0 wOptional_EMPTY wIntegerCache_cache clC X7 hx hZ hw hby hml hown e7 O_K7 N7 (by decide) (by decide) (by decide) (by decide) B.2.2.2.2.2.2.2.2.2.2.1 B.2.2.2.2.2.2.2.2.2.2.1 B.2.2.2.2.2.2.2.2.2.2.2.2.1 B.2.2.2.2.2.2.2.2.2.2.2.2.2.1 B.2.2.2.2.2.2.2.2.2.2.2.2.2.2.2.2.2.2.2.2.2.2.2.2.2.2.2.2.2.1 B.2.2.2.2.2.2.2.2.2.2.2.2.2.2.2.2.2.2.2.2.2.2.2.2.2.2.2.2.2.2.1 B.2.2.2.2.2.2.2.2.2.2.2.2.2.2.2.2.2.2.2.2.2.2.2.2.2.2.2.2.2.2.2
  have O_K8 : Old Z n0 h8 := O_K7.keep K8 all0
  have Kp_K8 : Keep h0 h8 [] := Kp_K7.trans K8 all0
  obtain ⟨T9, h9, L9, b9_0, b9_1, X9, e9, N9, K9, lo9_1, lo9_2, nq9_3, f9_4, f9_5, f9_6, f9_7, f9_8, f9_9, f9_10, f9_11, st9⟩ := g0_10 i0 i1 i2 (1 : Int32) (1 : Int32) (0 : Int32) (1 : Int32) (own_b (i0 &&& (32 : Int32))) (own_b (i0 &&& (64 : Int32))) b5_0 b5_1 wOptional_EMPTY b7_0 b8_0 wOptional_EMPTY X8 hx hZ hw hby hml hown e8 O_K8 N8 (by decide) (by decide) (by decide) (by decide) B.2.2.2.2.2.2.2.2.2.2.1
  have O_K9 : Old Z n0 h9 := O_K8.keep K9 all0
  have Kp_K9 : Keep h0 h9 [] := Kp_K8.trans K9 all0
  obtain ⟨T10, h10, L10, b10_0, b10_1, X10, e10, N10, K10, lo10_1, lo10_2, nq10_3, f10_4, f10_5, f10_6, f10_7, f10_8, f10_9, f10_10, st10⟩ := g0_13 i0 i1 i2 (1 : Int32) (1 : Int32) (0 : Int32) (1 : Int32) (own_b (i0 &&& (32 : Int32))) (own_b (i0 &&& (64 : Int32))) b5_0 b5_1 wOptional_EMPTY b7_0 b8_0 b9_0 wOptional_EMPTY X9 hx hZ hw hby hml hown e9 O_K9 N9 (by decide) (by decide) (by decide) (by decide) B.2.2.2.2.2.2.2.2.2.2.1
  have O_K10 : Old Z n0 h10 := O_K9.keep K10 all0
  have Kp_K10 : Keep h0 h10 [] := Kp_K9.trans K10 all0
  have f11 := (f9_4.keep K10)
  have f12 := (f9_5.keep K10 nin0)
  have f13 := (f9_6.keep K10)
  have f14 := (f9_10.keep K10 nin0)
  have f15 := (((f7_2.keep K8).keep K9).keep K10)
  have f16 := (((f7_3.keep K8 nin0).keep K9 nin0).keep K10 nin0)
  obtain ⟨T17, L17, X17, e17, N17, st17⟩ := g0_18 i0 i1 i2 (1 : Int32) (1 : Int32) (0 : Int32) (own_b (i0 &&& (32 : Int32))) (own_b (i0 &&& (64 : Int32))) b5_0 b5_1 wOptional_EMPTY b7_0 b8_0 b9_0 b10_0 b9_1 b7_0 b5_1 wRequestState_FAILED X10 hx hZ hw hby hml hown e10 O_K10 N10 (by decide) (by decide) (by decide) (by decide) f11 f12 f13 f14 f15 f16 B.2.2.2.2.2.2.2.2.1
  obtain ⟨fs, hr, hrun, hended, hW, hsame⟩ := X17.leave (v := some (.int (1 : Int32))) (fun h => by rw [Bd.returns] at h; cases h)
  refine ⟨_, _, pre0 _ ?_, hrun, hended, _, _, rfl, ?_, ⟨_, rfl⟩, hW, hsame.mono (by decide) (by decide)⟩
  · refine st1 _ ?_
    show St p e below T1 m 94 #[iv i0, iv i1, iv i2, iv (own_b (i0 &&& (1 : Int32))), iv (own_b (i0 &&& (2 : Int32))), iv (own_b (i0 &&& (4 : Int32))), iv (own_b (i0 &&& (8 : Int32))), iv (own_b (i0 &&& (16 : Int32))), iv (own_b (i0 &&& (32 : Int32))), iv (own_b (i0 &&& (64 : Int32))), .unset, .unset, .unset, .unset, .unset, .unset, .unset, .unset, .unset] [] _
    rw [pin0]
    rw [pin1]
    rw [pin2]
    rw [pin3]
    rw [pin4]
    refine st5 _ ?_
    refine st6 _ ?_
    refine st7 _ ?_
    refine st8 _ ?_
    refine st9 _ ?_
    refine st10 _ ?_
    refine st17 _ ?_
    show St p e below T17 m 320 #[iv i0, iv i1, iv i2, iv (1 : Int32), iv (1 : Int32), iv (1 : Int32), iv (0 : Int32), iv (1 : Int32), iv (own_b (i0 &&& (32 : Int32))), iv (own_b (i0 &&& (64 : Int32))), rv b5_0, rv b5_1, rv wOptional_EMPTY, rv b7_0, rv b8_0, rv b9_0, rv b10_0, rv wRequestState_FAILED, rv wRequestState_FAILED] [(.int (1 : Int32))] _
    exact retN X17 hx (t := .boolean) Bd.returns (by simp) (hb hby at_320) hr
  · show law_24Q Z wRequestState_UNKNOWN wRequestState_IN_PROGRESS wRequestState_REMOVED wRequestState_DONE wRequestState_FAILED wOptional_EMPTY wIntegerCache_cache zCOMPACT_STRINGS clC i0 i1 i2 h0 n0 _ T17.heap _
    rw [e17]
    exact ⟨rfl, N17⟩
def law_25Q (Z : State) (wRequestState_UNKNOWN : Addr) (wRequestState_IN_PROGRESS : Addr) (wRequestState_REMOVED : Addr) (wRequestState_DONE : Addr) (wRequestState_FAILED : Addr) (wOptional_EMPTY : Addr) (wIntegerCache_cache : Addr) (zCOMPACT_STRINGS : Int32) (clC : Cell) (i0 : Int32) (i1 : Int32) (i2 : Int32) (h0 : Heap) (n0 : Nat) (v : Option Value) (h : Heap) (L : List Loc) : Prop := v = some (.int (1 : Int32)) ∧ Fr n0 L
theorem law_25e (m : MethodId) (wRequestState_UNKNOWN : Addr) (wRequestState_IN_PROGRESS : Addr) (wRequestState_REMOVED : Addr) (wRequestState_DONE : Addr) (wRequestState_FAILED : Addr) (wOptional_EMPTY : Addr) (wIntegerCache_cache : Addr) (zCOMPACT_STRINGS : Int32) (clC : Cell) (i0 : Int32) (i1 : Int32) (i2 : Int32) : entryFrame m #[(.int i0), (.int i1), (.int i2)] maxLocals = mkF m 0 #[iv i0, iv i1, iv i2, .unset, .unset, .unset, .unset, .unset, .unset, .unset, .unset, .unset, .unset, .unset, .unset, .unset, .unset, .unset, .unset] [] := by first | (simp [entryFrame, mkF, argsToLocals, Value.category, maxLocals]; done) | rfl
set_option maxRecDepth 65536 in
set_option maxHeartbeats 40000000 in
theorem law_25 (l : Launch) (Z : State) (a0 : Array Value) (hw : HW a0 Z) (ws : List Jvm.Cond) (wRequestState_UNKNOWN : Addr) (wRequestState_IN_PROGRESS : Addr) (wRequestState_REMOVED : Addr) (wRequestState_DONE : Addr) (wRequestState_FAILED : Addr) (wOptional_EMPTY : Addr) (wIntegerCache_cache : Addr) (zCOMPACT_STRINGS : Int32) (clC : Cell) (B : Base Z wRequestState_UNKNOWN wRequestState_IN_PROGRESS wRequestState_REMOVED wRequestState_DONE wRequestState_FAILED wOptional_EMPTY wIntegerCache_cache zCOMPACT_STRINGS clC) (i0 : Int32) (i1 : Int32) (i2 : Int32) (h0 : Heap) (n0 : Nat) (O0 : Old Z n0 h0) (pin0 : (own_b (i0 &&& (1 : Int32))) = (0 : Int32)) (pin1 : (own_b (i0 &&& (2 : Int32))) = (0 : Int32)) (pin2 : (own_b (i0 &&& (4 : Int32))) = (0 : Int32)) (pin3 : (own_b (i0 &&& (8 : Int32))) = (1 : Int32)) (pin4 : (own_b (i0 &&& (16 : Int32))) = (1 : Int32)) (hc3 : ¬ ((255 : Int32) < ((i1 &&& (255 : Int32)).toUInt32.toUInt16.toUInt32.toInt32))) (hc4 : ¬ ((255 : Int32) < ((i2 &&& (255 : Int32)).toUInt32.toUInt16.toUInt32.toInt32))) :
    MetFree l x (head1 (Jvm.Cond.code x code maxLocals ret :: ws) room_1) (fun a U => a = #[(.int i0), (.int i1), (.int i2)] ∧ Z.Warmed39 U.vm ∧ U.heap = h0) (fun _ _ _ _ _ => True) (fun _ U o U' => ∃ v L, o = .returned v ∧ law_25Q Z wRequestState_UNKNOWN wRequestState_IN_PROGRESS wRequestState_REMOVED wRequestState_DONE wRequestState_FAILED wOptional_EMPTY wIntegerCache_cache zCOMPACT_STRINGS clC i0 i1 i2 h0 n0 v U'.heap L ∧ FrameEnd U o U' L room_1.cells room_1.slots) := by
  refine MetFree.of_bodySF (plainFor_of_name pn_com_example_agave_agave_store_RequestStateOfPinLaw) hisR ?_
  intro p e s m args below meth c s₁ Bd hml0 hP hK
  obtain ⟨rfl, hZ, hh⟩ := hP
  have hx := Bd.exec
  have hby := Bd.bytes
  have hml : c.maxLocals = 19 := hml0
  have hown : s.vm.findClass "com/example/agave/agave/store/RequestStateOfPinLaw" = some m.cls := findClass_of_methodNamed Bd.named
  have hnm := (name_of_methodNamed Bd.named Bd.method).1
  have X0 : Stand p l e room_1 s m #[(.int i0), (.int i1), (.int i2)] below meth c s₁ [] 0 0 := Stand.of_body Bd
  have e0 : s₁.heap = h0 := by rw [← hh, Bd.state]; rfl
  have N0 := Fr.nil n0
  have pre0 : ∀ t, Steps p.tables e below (s₁.setTop (mkF m 0 #[iv i0, iv i1, iv i2, .unset, .unset, .unset, .unset, .unset, .unset, .unset, .unset, .unset, .unset, .unset, .unset, .unset, .unset, .unset, .unset] [])) t → Steps p.tables e below (s₁.setTop (entryFrame m #[(.int i0), (.int i1), (.int i2)] maxLocals)) t := fun t k => castTop (law_25e m wRequestState_UNKNOWN wRequestState_IN_PROGRESS wRequestState_REMOVED wRequestState_DONE wRequestState_FAILED wOptional_EMPTY wIntegerCache_cache zCOMPACT_STRINGS clC i0 i1 i2) k
  obtain ⟨T1, L1, X1, e1, N1, st1⟩ := g0_1 i0 i1 i2 X0 hx hZ hw hby hml hown e0 O0 N0 (by decide) (by decide) (by decide) (by decide)
  obtain ⟨T5, h5, L5, b5_0, b5_1, b5_2, b5_3, k5_0, k5_1, X5, e5, N5, K5, lo5_1, lo5_2, lo5_3, lo5_4, nq5_5, nq5_6, nq5_7, nq5_8, nq5_9, nq5_10, f5_11, f5_12, f5_13, f5_14, f5_15, f5_16, f5_17, f5_18, f5_19, f5_20, st5⟩ := g0_2 i0 i1 i2 (0 : Int32) (0 : Int32) (0 : Int32) (1 : Int32) (1 : Int32) (own_b (i0 &&& (32 : Int32))) (own_b (i0 &&& (64 : Int32))) zCOMPACT_STRINGS X1 hx hZ hw hby hml hown e1 O0 N1 (by decide) (by decide) (by decide) (by decide) B.2.2.2.2.2.2.2.2.2.2.2.2.2.2.2.1 B.2.2.2.2.2.2.2.2.2.2.2.2.2.2.2.2.1 hc3 hc4
  have O_K5 : Old Z n0 h5 := O0.keep K5 all0
  have Kp_K5 : Keep h0 h5 [] := (Keep.refl h0 []).trans K5 all0
  obtain ⟨T6, h6, L6, b6_0, X6, e6, N6, K6, lo6_1, f6_2, f6_3, st6⟩ := g0_15 i0 i1 i2 (0 : Int32) (0 : Int32) (0 : Int32) (1 : Int32) (own_b (i0 &&& (32 : Int32))) (own_b (i0 &&& (64 : Int32))) b5_0 b5_1 wOptional_EMPTY X5 hx hZ hw hby hml hown e5 O_K5 N5 (by decide) (by decide) (by decide) (by decide) B.2.2.2.2.2.2.2.2.2.2.1
  have O_K6 : Old Z n0 h6 := O_K5.keep K6 all0
  have Kp_K6 : Keep h0 h6 [] := Kp_K5.trans K6 all0
  obtain ⟨T7, h7, L7, b7_0, X7, e7, N7, K7, lo7_1, f7_2, f7_3, st7⟩ := g0_17 i0 i1 i2 (0 : Int32) (0 : Int32) (0 : Int32) (1 : Int32) (own_b (i0 &&& (32 : Int32))) (own_b (i0 &&& (64 : Int32))) b5_0 b5_1 b6_0 wOptional_EMPTY X6 hx hZ hw hby hml hown e6 O_K6 N6 (by decide) (by decide) (by decide) (by decide) B.2.2.2.2.2.2.2.2.2.2.1
  have O_K7 : Old Z n0 h7 := O_K6.keep K7 all0
  have Kp_K7 : Keep h0 h7 [] := Kp_K6.trans K7 all0
  obtain ⟨T8, h8, L8, b8_0, X8, e8, N8, K8, st8⟩ := m0_1 i0 i1 i2 (0 : Int32) (0 : Int32) (0 : Int32) (1 : Int32) (1 : Int32) (own_b (i0 &&& (32 : Int32))) (own_b (i0 &&& (64 : Int32))) b5_0 b5_1 b6_0 b7_0 wOptional_EMPTY wIntegerCache_cache clC X7 hx hZ hw hby hml hown e7 O_K7 N7 (by decide) (by decide) (by decide) (by decide) B.2.2.2.2.2.2.2.2.2.2.1 B.2.2.2.2.2.2.2.2.2.2.1 B.2.2.2.2.2.2.2.2.2.2.2.2.1 B.2.2.2.2.2.2.2.2.2.2.2.2.2.1 B.2.2.2.2.2.2.2.2.2.2.2.2.2.2.2.2.2.2.2.2.2.2.2.2.2.2.2.2.2.1 B.2.2.2.2.2.2.2.2.2.2.2.2.2.2.2.2.2.2.2.2.2.2.2.2.2.2.2.2.2.2.1 B.2.2.2.2.2.2.2.2.2.2.2.2.2.2.2.2.2.2.2.2.2.2.2.2.2.2.2.2.2.2.2
  have O_K8 : Old Z n0 h8 := O_K7.keep K8 all0
  have Kp_K8 : Keep h0 h8 [] := Kp_K7.trans K8 all0
  obtain ⟨T9, L9, X9, e9, N9, st9⟩ := g0_7 i0 i1 i2 (0 : Int32) (0 : Int32) (1 : Int32) (1 : Int32) (own_b (i0 &&& (32 : Int32))) (own_b (i0 &&& (64 : Int32))) b5_0 b5_1 b6_0 b7_0 b8_0 wOptional_EMPTY X8 hx hZ hw hby hml hown e8 O_K8 N8 (by decide) (by decide) (by decide) (by decide) B.2.2.2.2.2.2.2.2.2.2.1
  obtain ⟨T10, L10, X10, e10, N10, st10⟩ := g0_8 i0 i1 i2 (0 : Int32) (0 : Int32) (1 : Int32) (1 : Int32) (own_b (i0 &&& (32 : Int32))) (own_b (i0 &&& (64 : Int32))) b5_0 b5_1 b6_0 b7_0 b8_0 wOptional_EMPTY wOptional_EMPTY X9 hx hZ hw hby hml hown e9 O_K8 N9 (by decide) (by decide) (by decide) (by decide) B.2.2.2.2.2.2.2.2.2.2.1
  obtain ⟨T11, L11, X11, e11, N11, st11⟩ := g0_9 i0 i1 i2 (1 : Int32) (1 : Int32) (own_b (i0 &&& (32 : Int32))) (own_b (i0 &&& (64 : Int32))) b5_0 b5_1 b6_0 b7_0 b8_0 wOptional_EMPTY wRequestState_UNKNOWN X10 hx hZ hw hby hml hown e10 O_K8 N10 (by decide) (by decide) (by decide) (by decide) B.2.2.2.2.2.2.2.2.2.2.2.1 B.2.2.2.2.2.2.2.2.2.2.2.2.2.2.2.2.2.1 B.1
  obtain ⟨fs, hr, hrun, hended, hW, hsame⟩ := X11.leave (v := some (.int (1 : Int32))) (fun h => by rw [Bd.returns] at h; cases h)
  refine ⟨_, _, pre0 _ ?_, hrun, hended, _, _, rfl, ?_, ⟨_, rfl⟩, hW, hsame.mono (by decide) (by decide)⟩
  · refine st1 _ ?_
    show St p e below T1 m 94 #[iv i0, iv i1, iv i2, iv (own_b (i0 &&& (1 : Int32))), iv (own_b (i0 &&& (2 : Int32))), iv (own_b (i0 &&& (4 : Int32))), iv (own_b (i0 &&& (8 : Int32))), iv (own_b (i0 &&& (16 : Int32))), iv (own_b (i0 &&& (32 : Int32))), iv (own_b (i0 &&& (64 : Int32))), .unset, .unset, .unset, .unset, .unset, .unset, .unset, .unset, .unset] [] _
    rw [pin0]
    rw [pin1]
    rw [pin2]
    rw [pin3]
    rw [pin4]
    refine st5 _ ?_
    refine st6 _ ?_
    refine st7 _ ?_
    refine st8 _ ?_
    refine st9 _ ?_
    refine st10 _ ?_
    refine st11 _ ?_
    show St p e below T11 m 320 #[iv i0, iv i1, iv i2, iv (0 : Int32), iv (0 : Int32), iv (0 : Int32), iv (1 : Int32), iv (1 : Int32), iv (own_b (i0 &&& (32 : Int32))), iv (own_b (i0 &&& (64 : Int32))), rv b5_0, rv b5_1, rv b6_0, rv b7_0, rv b8_0, rv wOptional_EMPTY, rv wOptional_EMPTY, rv wRequestState_UNKNOWN, rv wRequestState_UNKNOWN] [(.int (1 : Int32))] _
    exact retN X11 hx (t := .boolean) Bd.returns (by simp) (hb hby at_320) hr
  · show law_25Q Z wRequestState_UNKNOWN wRequestState_IN_PROGRESS wRequestState_REMOVED wRequestState_DONE wRequestState_FAILED wOptional_EMPTY wIntegerCache_cache zCOMPACT_STRINGS clC i0 i1 i2 h0 n0 _ T11.heap _
    rw [e11]
    exact ⟨rfl, N11⟩
def law_26Q (Z : State) (wRequestState_UNKNOWN : Addr) (wRequestState_IN_PROGRESS : Addr) (wRequestState_REMOVED : Addr) (wRequestState_DONE : Addr) (wRequestState_FAILED : Addr) (wOptional_EMPTY : Addr) (wIntegerCache_cache : Addr) (zCOMPACT_STRINGS : Int32) (clC : Cell) (i0 : Int32) (i1 : Int32) (i2 : Int32) (h0 : Heap) (n0 : Nat) (v : Option Value) (h : Heap) (L : List Loc) : Prop := v = some (.int (1 : Int32)) ∧ Fr n0 L
theorem law_26e (m : MethodId) (wRequestState_UNKNOWN : Addr) (wRequestState_IN_PROGRESS : Addr) (wRequestState_REMOVED : Addr) (wRequestState_DONE : Addr) (wRequestState_FAILED : Addr) (wOptional_EMPTY : Addr) (wIntegerCache_cache : Addr) (zCOMPACT_STRINGS : Int32) (clC : Cell) (i0 : Int32) (i1 : Int32) (i2 : Int32) : entryFrame m #[(.int i0), (.int i1), (.int i2)] maxLocals = mkF m 0 #[iv i0, iv i1, iv i2, .unset, .unset, .unset, .unset, .unset, .unset, .unset, .unset, .unset, .unset, .unset, .unset, .unset, .unset, .unset, .unset] [] := by first | (simp [entryFrame, mkF, argsToLocals, Value.category, maxLocals]; done) | rfl
set_option maxRecDepth 65536 in
set_option maxHeartbeats 40000000 in
theorem law_26 (l : Launch) (Z : State) (a0 : Array Value) (hw : HW a0 Z) (ws : List Jvm.Cond) (wRequestState_UNKNOWN : Addr) (wRequestState_IN_PROGRESS : Addr) (wRequestState_REMOVED : Addr) (wRequestState_DONE : Addr) (wRequestState_FAILED : Addr) (wOptional_EMPTY : Addr) (wIntegerCache_cache : Addr) (zCOMPACT_STRINGS : Int32) (clC : Cell) (B : Base Z wRequestState_UNKNOWN wRequestState_IN_PROGRESS wRequestState_REMOVED wRequestState_DONE wRequestState_FAILED wOptional_EMPTY wIntegerCache_cache zCOMPACT_STRINGS clC) (i0 : Int32) (i1 : Int32) (i2 : Int32) (h0 : Heap) (n0 : Nat) (O0 : Old Z n0 h0) (pin0 : (own_b (i0 &&& (1 : Int32))) = (1 : Int32)) (pin1 : (own_b (i0 &&& (2 : Int32))) = (0 : Int32)) (pin2 : (own_b (i0 &&& (4 : Int32))) = (0 : Int32)) (pin3 : (own_b (i0 &&& (8 : Int32))) = (1 : Int32)) (pin4 : (own_b (i0 &&& (16 : Int32))) = (1 : Int32)) (hc3 : ¬ ((255 : Int32) < ((i1 &&& (255 : Int32)).toUInt32.toUInt16.toUInt32.toInt32))) (hc4 : ¬ ((255 : Int32) < ((i2 &&& (255 : Int32)).toUInt32.toUInt16.toUInt32.toInt32))) :
    MetFree l x (head1 (Jvm.Cond.code x code maxLocals ret :: ws) room_1) (fun a U => a = #[(.int i0), (.int i1), (.int i2)] ∧ Z.Warmed39 U.vm ∧ U.heap = h0) (fun _ _ _ _ _ => True) (fun _ U o U' => ∃ v L, o = .returned v ∧ law_26Q Z wRequestState_UNKNOWN wRequestState_IN_PROGRESS wRequestState_REMOVED wRequestState_DONE wRequestState_FAILED wOptional_EMPTY wIntegerCache_cache zCOMPACT_STRINGS clC i0 i1 i2 h0 n0 v U'.heap L ∧ FrameEnd U o U' L room_1.cells room_1.slots) := by
  refine MetFree.of_bodySF (plainFor_of_name pn_com_example_agave_agave_store_RequestStateOfPinLaw) hisR ?_
  intro p e s m args below meth c s₁ Bd hml0 hP hK
  obtain ⟨rfl, hZ, hh⟩ := hP
  have hx := Bd.exec
  have hby := Bd.bytes
  have hml : c.maxLocals = 19 := hml0
  have hown : s.vm.findClass "com/example/agave/agave/store/RequestStateOfPinLaw" = some m.cls := findClass_of_methodNamed Bd.named
  have hnm := (name_of_methodNamed Bd.named Bd.method).1
  have X0 : Stand p l e room_1 s m #[(.int i0), (.int i1), (.int i2)] below meth c s₁ [] 0 0 := Stand.of_body Bd
  have e0 : s₁.heap = h0 := by rw [← hh, Bd.state]; rfl
  have N0 := Fr.nil n0
  have pre0 : ∀ t, Steps p.tables e below (s₁.setTop (mkF m 0 #[iv i0, iv i1, iv i2, .unset, .unset, .unset, .unset, .unset, .unset, .unset, .unset, .unset, .unset, .unset, .unset, .unset, .unset, .unset, .unset] [])) t → Steps p.tables e below (s₁.setTop (entryFrame m #[(.int i0), (.int i1), (.int i2)] maxLocals)) t := fun t k => castTop (law_26e m wRequestState_UNKNOWN wRequestState_IN_PROGRESS wRequestState_REMOVED wRequestState_DONE wRequestState_FAILED wOptional_EMPTY wIntegerCache_cache zCOMPACT_STRINGS clC i0 i1 i2) k
  obtain ⟨T1, L1, X1, e1, N1, st1⟩ := g0_1 i0 i1 i2 X0 hx hZ hw hby hml hown e0 O0 N0 (by decide) (by decide) (by decide) (by decide)
  obtain ⟨T5, h5, L5, b5_0, b5_1, b5_2, b5_3, k5_0, k5_1, X5, e5, N5, K5, lo5_1, lo5_2, lo5_3, lo5_4, nq5_5, nq5_6, nq5_7, nq5_8, nq5_9, nq5_10, f5_11, f5_12, f5_13, f5_14, f5_15, f5_16, f5_17, f5_18, f5_19, f5_20, st5⟩ := g0_2 i0 i1 i2 (1 : Int32) (0 : Int32) (0 : Int32) (1 : Int32) (1 : Int32) (own_b (i0 &&& (32 : Int32))) (own_b (i0 &&& (64 : Int32))) zCOMPACT_STRINGS X1 hx hZ hw hby hml hown e1 O0 N1 (by decide) (by decide) (by decide) (by decide) B.2.2.2.2.2.2.2.2.2.2.2.2.2.2.2.1 B.2.2.2.2.2.2.2.2.2.2.2.2.2.2.2.2.1 hc3 hc4
  have O_K5 : Old Z n0 h5 := O0.keep K5 all0
  have Kp_K5 : Keep h0 h5 [] := (Keep.refl h0 []).trans K5 all0
  obtain ⟨T6, h6, L6, b6_0, X6, e6, N6, K6, lo6_1, f6_2, f6_3, st6⟩ := g0_15 i0 i1 i2 (1 : Int32) (0 : Int32) (0 : Int32) (1 : Int32) (own_b (i0 &&& (32 : Int32))) (own_b (i0 &&& (64 : Int32))) b5_0 b5_1 wOptional_EMPTY X5 hx hZ hw hby hml hown e5 O_K5 N5 (by decide) (by decide) (by decide) (by decide) B.2.2.2.2.2.2.2.2.2.2.1
  have O_K6 : Old Z n0 h6 := O_K5.keep K6 all0
  have Kp_K6 : Keep h0 h6 [] := Kp_K5.trans K6 all0
  obtain ⟨T7, h7, L7, b7_0, X7, e7, N7, K7, lo7_1, f7_2, f7_3, st7⟩ := g0_17 i0 i1 i2 (1 : Int32) (0 : Int32) (0 : Int32) (1 : Int32) (own_b (i0 &&& (32 : Int32))) (own_b (i0 &&& (64 : Int32))) b5_0 b5_1 b6_0 wOptional_EMPTY X6 hx hZ hw hby hml hown e6 O_K6 N6 (by decide) (by decide) (by decide) (by decide) B.2.2.2.2.2.2.2.2.2.2.1
  have O_K7 : Old Z n0 h7 := O_K6.keep K7 all0
  have Kp_K7 : Keep h0 h7 [] := Kp_K6.trans K7 all0
  obtain ⟨T8, h8, L8, b8_0, X8, e8, N8, K8, st8⟩ := m0_1 i0 i1 i2 (1 : Int32) (0 : Int32) (0 : Int32) (1 : Int32) (1 : Int32) (own_b (i0 &&& (32 : Int32))) (own_b (i0 &&& (64 : Int32))) b5_0 b5_1 b6_0 b7_0 wOptional_EMPTY wIntegerCache_cache clC X7 hx hZ hw hby hml hown e7 O_K7 N7 (by decide) (by decide) (by decide) (by decide) B.2.2.2.2.2.2.2.2.2.2.1 B.2.2.2.2.2.2.2.2.2.2.1 B.2.2.2.2.2.2.2.2.2.2.2.2.1 B.2.2.2.2.2.2.2.2.2.2.2.2.2.1 B.2.2.2.2.2.2.2.2.2.2.2.2.2.2.2.2.2.2.2.2.2.2.2.2.2.2.2.2.2.1 B.2.2.2.2.2.2.2.2.2.2.2.2.2.2.2.2.2.2.2.2.2.2.2.2.2.2.2.2.2.2.1 B.2.2.2.2.2.2.2.2.2.2.2.2.2.2.2.2.2.2.2.2.2.2.2.2.2.2.2.2.2.2.2
  have O_K8 : Old Z n0 h8 := O_K7.keep K8 all0
  have Kp_K8 : Keep h0 h8 [] := Kp_K7.trans K8 all0
  obtain ⟨T9, h9, L9, b9_0, b9_1, X9, e9, N9, K9, lo9_1, lo9_2, nq9_3, f9_4, f9_5, f9_6, f9_7, f9_8, f9_9, f9_10, f9_11, st9⟩ := g0_10 i0 i1 i2 (0 : Int32) (0 : Int32) (1 : Int32) (1 : Int32) (own_b (i0 &&& (32 : Int32))) (own_b (i0 &&& (64 : Int32))) b5_0 b5_1 b6_0 b7_0 b8_0 wOptional_EMPTY X8 hx hZ hw hby hml hown e8 O_K8 N8 (by decide) (by decide) (by decide) (by decide) B.2.2.2.2.2.2.2.2.2.2.1
  have O_K9 : Old Z n0 h9 := O_K8.keep K9 all0
  have Kp_K9 : Keep h0 h9 [] := Kp_K8.trans K9 all0
  obtain ⟨T10, L10, X10, e10, N10, st10⟩ := g0_8 i0 i1 i2 (1 : Int32) (0 : Int32) (1 : Int32) (1 : Int32) (own_b (i0 &&& (32 : Int32))) (own_b (i0 &&& (64 : Int32))) b5_0 b5_1 b6_0 b7_0 b8_0 b9_0 wOptional_EMPTY X9 hx hZ hw hby hml hown e9 O_K9 N9 (by decide) (by decide) (by decide) (by decide) B.2.2.2.2.2.2.2.2.2.2.1
  have f11 := ((f7_2.keep K8).keep K9)
  have f12 := ((f7_3.keep K8 nin0).keep K9 nin0)
  obtain ⟨T13, L13, X13, e13, N13, st13⟩ := g0_18 i0 i1 i2 (0 : Int32) (0 : Int32) (1 : Int32) (own_b (i0 &&& (32 : Int32))) (own_b (i0 &&& (64 : Int32))) b5_0 b5_1 b6_0 b7_0 b8_0 b9_0 wOptional_EMPTY b9_1 b7_0 b5_1 wRequestState_FAILED X10 hx hZ hw hby hml hown e10 O_K9 N10 (by decide) (by decide) (by decide) (by decide) f9_4 f9_5 f9_6 f9_10 f11 f12 B.2.2.2.2.2.2.2.2.1
  obtain ⟨fs, hr, hrun, hended, hW, hsame⟩ := X13.leave (v := some (.int (1 : Int32))) (fun h => by rw [Bd.returns] at h; cases h)
  refine ⟨_, _, pre0 _ ?_, hrun, hended, _, _, rfl, ?_, ⟨_, rfl⟩, hW, hsame.mono (by decide) (by decide)⟩
  · refine st1 _ ?_
    show St p e below T1 m 94 #[iv i0, iv i1, iv i2, iv (own_b (i0 &&& (1 : Int32))), iv (own_b (i0 &&& (2 : Int32))), iv (own_b (i0 &&& (4 : Int32))), iv (own_b (i0 &&& (8 : Int32))), iv (own_b (i0 &&& (16 : Int32))), iv (own_b (i0 &&& (32 : Int32))), iv (own_b (i0 &&& (64 : Int32))), .unset, .unset, .unset, .unset, .unset, .unset, .unset, .unset, .unset] [] _
    rw [pin0]
    rw [pin1]
    rw [pin2]
    rw [pin3]
    rw [pin4]
    refine st5 _ ?_
    refine st6 _ ?_
    refine st7 _ ?_
    refine st8 _ ?_
    refine st9 _ ?_
    refine st10 _ ?_
    refine st13 _ ?_
    show St p e below T13 m 320 #[iv i0, iv i1, iv i2, iv (1 : Int32), iv (0 : Int32), iv (0 : Int32), iv (1 : Int32), iv (1 : Int32), iv (own_b (i0 &&& (32 : Int32))), iv (own_b (i0 &&& (64 : Int32))), rv b5_0, rv b5_1, rv b6_0, rv b7_0, rv b8_0, rv b9_0, rv wOptional_EMPTY, rv wRequestState_FAILED, rv wRequestState_FAILED] [(.int (1 : Int32))] _
    exact retN X13 hx (t := .boolean) Bd.returns (by simp) (hb hby at_320) hr
  · show law_26Q Z wRequestState_UNKNOWN wRequestState_IN_PROGRESS wRequestState_REMOVED wRequestState_DONE wRequestState_FAILED wOptional_EMPTY wIntegerCache_cache zCOMPACT_STRINGS clC i0 i1 i2 h0 n0 _ T13.heap _
    rw [e13]
    exact ⟨rfl, N13⟩
def law_27Q (Z : State) (wRequestState_UNKNOWN : Addr) (wRequestState_IN_PROGRESS : Addr) (wRequestState_REMOVED : Addr) (wRequestState_DONE : Addr) (wRequestState_FAILED : Addr) (wOptional_EMPTY : Addr) (wIntegerCache_cache : Addr) (zCOMPACT_STRINGS : Int32) (clC : Cell) (i0 : Int32) (i1 : Int32) (i2 : Int32) (h0 : Heap) (n0 : Nat) (v : Option Value) (h : Heap) (L : List Loc) : Prop := v = some (.int (1 : Int32)) ∧ Fr n0 L
theorem law_27e (m : MethodId) (wRequestState_UNKNOWN : Addr) (wRequestState_IN_PROGRESS : Addr) (wRequestState_REMOVED : Addr) (wRequestState_DONE : Addr) (wRequestState_FAILED : Addr) (wOptional_EMPTY : Addr) (wIntegerCache_cache : Addr) (zCOMPACT_STRINGS : Int32) (clC : Cell) (i0 : Int32) (i1 : Int32) (i2 : Int32) : entryFrame m #[(.int i0), (.int i1), (.int i2)] maxLocals = mkF m 0 #[iv i0, iv i1, iv i2, .unset, .unset, .unset, .unset, .unset, .unset, .unset, .unset, .unset, .unset, .unset, .unset, .unset, .unset, .unset, .unset] [] := by first | (simp [entryFrame, mkF, argsToLocals, Value.category, maxLocals]; done) | rfl
set_option maxRecDepth 65536 in
set_option maxHeartbeats 40000000 in
theorem law_27 (l : Launch) (Z : State) (a0 : Array Value) (hw : HW a0 Z) (ws : List Jvm.Cond) (wRequestState_UNKNOWN : Addr) (wRequestState_IN_PROGRESS : Addr) (wRequestState_REMOVED : Addr) (wRequestState_DONE : Addr) (wRequestState_FAILED : Addr) (wOptional_EMPTY : Addr) (wIntegerCache_cache : Addr) (zCOMPACT_STRINGS : Int32) (clC : Cell) (B : Base Z wRequestState_UNKNOWN wRequestState_IN_PROGRESS wRequestState_REMOVED wRequestState_DONE wRequestState_FAILED wOptional_EMPTY wIntegerCache_cache zCOMPACT_STRINGS clC) (i0 : Int32) (i1 : Int32) (i2 : Int32) (h0 : Heap) (n0 : Nat) (O0 : Old Z n0 h0) (pin0 : (own_b (i0 &&& (1 : Int32))) = (0 : Int32)) (pin1 : (own_b (i0 &&& (2 : Int32))) = (1 : Int32)) (pin2 : (own_b (i0 &&& (4 : Int32))) = (0 : Int32)) (pin3 : (own_b (i0 &&& (8 : Int32))) = (1 : Int32)) (pin4 : (own_b (i0 &&& (16 : Int32))) = (1 : Int32)) (hc3 : ¬ ((255 : Int32) < ((i1 &&& (255 : Int32)).toUInt32.toUInt16.toUInt32.toInt32))) (hc4 : ¬ ((255 : Int32) < ((i2 &&& (255 : Int32)).toUInt32.toUInt16.toUInt32.toInt32))) :
    MetFree l x (head1 (Jvm.Cond.code x code maxLocals ret :: ws) room_1) (fun a U => a = #[(.int i0), (.int i1), (.int i2)] ∧ Z.Warmed39 U.vm ∧ U.heap = h0) (fun _ _ _ _ _ => True) (fun _ U o U' => ∃ v L, o = .returned v ∧ law_27Q Z wRequestState_UNKNOWN wRequestState_IN_PROGRESS wRequestState_REMOVED wRequestState_DONE wRequestState_FAILED wOptional_EMPTY wIntegerCache_cache zCOMPACT_STRINGS clC i0 i1 i2 h0 n0 v U'.heap L ∧ FrameEnd U o U' L room_1.cells room_1.slots) := by
  refine MetFree.of_bodySF (plainFor_of_name pn_com_example_agave_agave_store_RequestStateOfPinLaw) hisR ?_
  intro p e s m args below meth c s₁ Bd hml0 hP hK
  obtain ⟨rfl, hZ, hh⟩ := hP
  have hx := Bd.exec
  have hby := Bd.bytes
  have hml : c.maxLocals = 19 := hml0
  have hown : s.vm.findClass "com/example/agave/agave/store/RequestStateOfPinLaw" = some m.cls := findClass_of_methodNamed Bd.named
  have hnm := (name_of_methodNamed Bd.named Bd.method).1
  have X0 : Stand p l e room_1 s m #[(.int i0), (.int i1), (.int i2)] below meth c s₁ [] 0 0 := Stand.of_body Bd
  have e0 : s₁.heap = h0 := by rw [← hh, Bd.state]; rfl
  have N0 := Fr.nil n0
  have pre0 : ∀ t, Steps p.tables e below (s₁.setTop (mkF m 0 #[iv i0, iv i1, iv i2, .unset, .unset, .unset, .unset, .unset, .unset, .unset, .unset, .unset, .unset, .unset, .unset, .unset, .unset, .unset, .unset] [])) t → Steps p.tables e below (s₁.setTop (entryFrame m #[(.int i0), (.int i1), (.int i2)] maxLocals)) t := fun t k => castTop (law_27e m wRequestState_UNKNOWN wRequestState_IN_PROGRESS wRequestState_REMOVED wRequestState_DONE wRequestState_FAILED wOptional_EMPTY wIntegerCache_cache zCOMPACT_STRINGS clC i0 i1 i2) k
  obtain ⟨T1, L1, X1, e1, N1, st1⟩ := g0_1 i0 i1 i2 X0 hx hZ hw hby hml hown e0 O0 N0 (by decide) (by decide) (by decide) (by decide)
  obtain ⟨T5, h5, L5, b5_0, b5_1, b5_2, b5_3, k5_0, k5_1, X5, e5, N5, K5, lo5_1, lo5_2, lo5_3, lo5_4, nq5_5, nq5_6, nq5_7, nq5_8, nq5_9, nq5_10, f5_11, f5_12, f5_13, f5_14, f5_15, f5_16, f5_17, f5_18, f5_19, f5_20, st5⟩ := g0_2 i0 i1 i2 (0 : Int32) (1 : Int32) (0 : Int32) (1 : Int32) (1 : Int32) (own_b (i0 &&& (32 : Int32))) (own_b (i0 &&& (64 : Int32))) zCOMPACT_STRINGS X1 hx hZ hw hby hml hown e1 O0 N1 (by decide) (by decide) (by decide) (by decide) B.2.2.2.2.2.2.2.2.2.2.2.2.2.2.2.1 B.2.2.2.2.2.2.2.2.2.2.2.2.2.2.2.2.1 hc3 hc4
  have O_K5 : Old Z n0 h5 := O0.keep K5 all0
  have Kp_K5 : Keep h0 h5 [] := (Keep.refl h0 []).trans K5 all0
  obtain ⟨T6, h6, L6, b6_0, X6, e6, N6, K6, lo6_1, f6_2, f6_3, st6⟩ := g0_15 i0 i1 i2 (0 : Int32) (1 : Int32) (0 : Int32) (1 : Int32) (own_b (i0 &&& (32 : Int32))) (own_b (i0 &&& (64 : Int32))) b5_0 b5_1 wOptional_EMPTY X5 hx hZ hw hby hml hown e5 O_K5 N5 (by decide) (by decide) (by decide) (by decide) B.2.2.2.2.2.2.2.2.2.2.1
  have O_K6 : Old Z n0 h6 := O_K5.keep K6 all0
  have Kp_K6 : Keep h0 h6 [] := Kp_K5.trans K6 all0
  obtain ⟨T7, h7, L7, b7_0, X7, e7, N7, K7, lo7_1, f7_2, f7_3, st7⟩ := g0_17 i0 i1 i2 (0 : Int32) (1 : Int32) (0 : Int32) (1 : Int32) (own_b (i0 &&& (32 : Int32))) (own_b (i0 &&& (64 : Int32))) b5_0 b5_1 b6_0 wOptional_EMPTY X6 hx hZ hw hby hml hown e6 O_K6 N6 (by decide) (by decide) (by decide) (by decide) B.2.2.2.2.2.2.2.2.2.2.1
  have O_K7 : Old Z n0 h7 := O_K6.keep K7 all0
  have Kp_K7 : Keep h0 h7 [] := Kp_K6.trans K7 all0
  obtain ⟨T8, h8, L8, b8_0, X8, e8, N8, K8, st8⟩ := m0_1 i0 i1 i2 (0 : Int32) (1 : Int32) (0 : Int32) (1 : Int32) (1 : Int32) (own_b (i0 &&& (32 : Int32))) (own_b (i0 &&& (64 : Int32))) b5_0 b5_1 b6_0 b7_0 wOptional_EMPTY wIntegerCache_cache clC X7 hx hZ hw hby hml hown e7 O_K7 N7 (by decide) (by decide) (by decide) (by decide) B.2.2.2.2.2.2.2.2.2.2.1 B.2.2.2.2.2.2.2.2.2.2.1 B.2.2.2.2.2.2.2.2.2.2.2.2.1 B.2.2.2.2.2.2.2.2.2.2.2.2.2.1 B.2.2.2.2.2.2.2.2.2.2.2.2.2.2.2.2.2.2.2.2.2.2.2.2.2.2.2.2.2.1 B.2.2.2.2.2.2.2.2.2.2.2.2.2.2.2.2.2.2.2.2.2.2.2.2.2.2.2.2.2.2.1 B.2.2.2.2.2.2.2.2.2.2.2.2.2.2.2.2.2.2.2.2.2.2.2.2.2.2.2.2.2.2.2
  have O_K8 : Old Z n0 h8 := O_K7.keep K8 all0
  have Kp_K8 : Keep h0 h8 [] := Kp_K7.trans K8 all0
  obtain ⟨T9, L9, X9, e9, N9, st9⟩ := g0_7 i0 i1 i2 (1 : Int32) (0 : Int32) (1 : Int32) (1 : Int32) (own_b (i0 &&& (32 : Int32))) (own_b (i0 &&& (64 : Int32))) b5_0 b5_1 b6_0 b7_0 b8_0 wOptional_EMPTY X8 hx hZ hw hby hml hown e8 O_K8 N8 (by decide) (by decide) (by decide) (by decide) B.2.2.2.2.2.2.2.2.2.2.1
  obtain ⟨T10, L10, X10, e10, N10, st10⟩ := g0_8 i0 i1 i2 (0 : Int32) (1 : Int32) (1 : Int32) (1 : Int32) (own_b (i0 &&& (32 : Int32))) (own_b (i0 &&& (64 : Int32))) b5_0 b5_1 b6_0 b7_0 b8_0 wOptional_EMPTY wOptional_EMPTY X9 hx hZ hw hby hml hown e9 O_K8 N9 (by decide) (by decide) (by decide) (by decide) B.2.2.2.2.2.2.2.2.2.2.1
  obtain ⟨T11, L11, X11, e11, N11, st11⟩ := g0_12 i0 i1 i2 (0 : Int32) (1 : Int32) (1 : Int32) (own_b (i0 &&& (32 : Int32))) (own_b (i0 &&& (64 : Int32))) b5_0 b5_1 b6_0 b7_0 b8_0 wOptional_EMPTY wOptional_EMPTY wRequestState_IN_PROGRESS X10 hx hZ hw hby hml hown e10 O_K8 N10 (by decide) (by decide) (by decide) (by decide) B.2.2.2.2.2.2.2.2.2.2.2.1 B.2.2.2.2.2.2.2.2.2.2.2.2.2.2.2.2.2.1 B.2.2.1
  obtain ⟨fs, hr, hrun, hended, hW, hsame⟩ := X11.leave (v := some (.int (1 : Int32))) (fun h => by rw [Bd.returns] at h; cases h)
  refine ⟨_, _, pre0 _ ?_, hrun, hended, _, _, rfl, ?_, ⟨_, rfl⟩, hW, hsame.mono (by decide) (by decide)⟩
  · refine st1 _ ?_
    show St p e below T1 m 94 #[iv i0, iv i1, iv i2, iv (own_b (i0 &&& (1 : Int32))), iv (own_b (i0 &&& (2 : Int32))), iv (own_b (i0 &&& (4 : Int32))), iv (own_b (i0 &&& (8 : Int32))), iv (own_b (i0 &&& (16 : Int32))), iv (own_b (i0 &&& (32 : Int32))), iv (own_b (i0 &&& (64 : Int32))), .unset, .unset, .unset, .unset, .unset, .unset, .unset, .unset, .unset] [] _
    rw [pin0]
    rw [pin1]
    rw [pin2]
    rw [pin3]
    rw [pin4]
    refine st5 _ ?_
    refine st6 _ ?_
    refine st7 _ ?_
    refine st8 _ ?_
    refine st9 _ ?_
    refine st10 _ ?_
    refine st11 _ ?_
    show St p e below T11 m 320 #[iv i0, iv i1, iv i2, iv (0 : Int32), iv (1 : Int32), iv (0 : Int32), iv (1 : Int32), iv (1 : Int32), iv (own_b (i0 &&& (32 : Int32))), iv (own_b (i0 &&& (64 : Int32))), rv b5_0, rv b5_1, rv b6_0, rv b7_0, rv b8_0, rv wOptional_EMPTY, rv wOptional_EMPTY, rv wRequestState_IN_PROGRESS, rv wRequestState_IN_PROGRESS] [(.int (1 : Int32))] _
    exact retN X11 hx (t := .boolean) Bd.returns (by simp) (hb hby at_320) hr
  · show law_27Q Z wRequestState_UNKNOWN wRequestState_IN_PROGRESS wRequestState_REMOVED wRequestState_DONE wRequestState_FAILED wOptional_EMPTY wIntegerCache_cache zCOMPACT_STRINGS clC i0 i1 i2 h0 n0 _ T11.heap _
    rw [e11]
    exact ⟨rfl, N11⟩
def law_28Q (Z : State) (wRequestState_UNKNOWN : Addr) (wRequestState_IN_PROGRESS : Addr) (wRequestState_REMOVED : Addr) (wRequestState_DONE : Addr) (wRequestState_FAILED : Addr) (wOptional_EMPTY : Addr) (wIntegerCache_cache : Addr) (zCOMPACT_STRINGS : Int32) (clC : Cell) (i0 : Int32) (i1 : Int32) (i2 : Int32) (h0 : Heap) (n0 : Nat) (v : Option Value) (h : Heap) (L : List Loc) : Prop := v = some (.int (1 : Int32)) ∧ Fr n0 L
theorem law_28e (m : MethodId) (wRequestState_UNKNOWN : Addr) (wRequestState_IN_PROGRESS : Addr) (wRequestState_REMOVED : Addr) (wRequestState_DONE : Addr) (wRequestState_FAILED : Addr) (wOptional_EMPTY : Addr) (wIntegerCache_cache : Addr) (zCOMPACT_STRINGS : Int32) (clC : Cell) (i0 : Int32) (i1 : Int32) (i2 : Int32) : entryFrame m #[(.int i0), (.int i1), (.int i2)] maxLocals = mkF m 0 #[iv i0, iv i1, iv i2, .unset, .unset, .unset, .unset, .unset, .unset, .unset, .unset, .unset, .unset, .unset, .unset, .unset, .unset, .unset, .unset] [] := by first | (simp [entryFrame, mkF, argsToLocals, Value.category, maxLocals]; done) | rfl
set_option maxRecDepth 65536 in
set_option maxHeartbeats 40000000 in
theorem law_28 (l : Launch) (Z : State) (a0 : Array Value) (hw : HW a0 Z) (ws : List Jvm.Cond) (wRequestState_UNKNOWN : Addr) (wRequestState_IN_PROGRESS : Addr) (wRequestState_REMOVED : Addr) (wRequestState_DONE : Addr) (wRequestState_FAILED : Addr) (wOptional_EMPTY : Addr) (wIntegerCache_cache : Addr) (zCOMPACT_STRINGS : Int32) (clC : Cell) (B : Base Z wRequestState_UNKNOWN wRequestState_IN_PROGRESS wRequestState_REMOVED wRequestState_DONE wRequestState_FAILED wOptional_EMPTY wIntegerCache_cache zCOMPACT_STRINGS clC) (i0 : Int32) (i1 : Int32) (i2 : Int32) (h0 : Heap) (n0 : Nat) (O0 : Old Z n0 h0) (pin0 : (own_b (i0 &&& (1 : Int32))) = (1 : Int32)) (pin1 : (own_b (i0 &&& (2 : Int32))) = (1 : Int32)) (pin2 : (own_b (i0 &&& (4 : Int32))) = (0 : Int32)) (pin3 : (own_b (i0 &&& (8 : Int32))) = (1 : Int32)) (pin4 : (own_b (i0 &&& (16 : Int32))) = (1 : Int32)) (hc3 : ¬ ((255 : Int32) < ((i1 &&& (255 : Int32)).toUInt32.toUInt16.toUInt32.toInt32))) (hc4 : ¬ ((255 : Int32) < ((i2 &&& (255 : Int32)).toUInt32.toUInt16.toUInt32.toInt32))) :
    MetFree l x (head1 (Jvm.Cond.code x code maxLocals ret :: ws) room_1) (fun a U => a = #[(.int i0), (.int i1), (.int i2)] ∧ Z.Warmed39 U.vm ∧ U.heap = h0) (fun _ _ _ _ _ => True) (fun _ U o U' => ∃ v L, o = .returned v ∧ law_28Q Z wRequestState_UNKNOWN wRequestState_IN_PROGRESS wRequestState_REMOVED wRequestState_DONE wRequestState_FAILED wOptional_EMPTY wIntegerCache_cache zCOMPACT_STRINGS clC i0 i1 i2 h0 n0 v U'.heap L ∧ FrameEnd U o U' L room_1.cells room_1.slots) := by
  refine MetFree.of_bodySF (plainFor_of_name pn_com_example_agave_agave_store_RequestStateOfPinLaw) hisR ?_
  intro p e s m args below meth c s₁ Bd hml0 hP hK
  obtain ⟨rfl, hZ, hh⟩ := hP
  have hx := Bd.exec
  have hby := Bd.bytes
  have hml : c.maxLocals = 19 := hml0
  have hown : s.vm.findClass "com/example/agave/agave/store/RequestStateOfPinLaw" = some m.cls := findClass_of_methodNamed Bd.named
  have hnm := (name_of_methodNamed Bd.named Bd.method).1
  have X0 : Stand p l e room_1 s m #[(.int i0), (.int i1), (.int i2)] below meth c s₁ [] 0 0 := Stand.of_body Bd
  have e0 : s₁.heap = h0 := by rw [← hh, Bd.state]; rfl
  have N0 := Fr.nil n0
  have pre0 : ∀ t, Steps p.tables e below (s₁.setTop (mkF m 0 #[iv i0, iv i1, iv i2, .unset, .unset, .unset, .unset, .unset, .unset, .unset, .unset, .unset, .unset, .unset, .unset, .unset, .unset, .unset, .unset] [])) t → Steps p.tables e below (s₁.setTop (entryFrame m #[(.int i0), (.int i1), (.int i2)] maxLocals)) t := fun t k => castTop (law_28e m wRequestState_UNKNOWN wRequestState_IN_PROGRESS wRequestState_REMOVED wRequestState_DONE wRequestState_FAILED wOptional_EMPTY wIntegerCache_cache zCOMPACT_STRINGS clC i0 i1 i2) k
  obtain ⟨T1, L1, X1, e1, N1, st1⟩ := g0_1 i0 i1 i2 X0 hx hZ hw hby hml hown e0 O0 N0 (by decide) (by decide) (by decide) (by decide)
  obtain ⟨T5, h5, L5, b5_0, b5_1, b5_2, b5_3, k5_0, k5_1, X5, e5, N5, K5, lo5_1, lo5_2, lo5_3, lo5_4, nq5_5, nq5_6, nq5_7, nq5_8, nq5_9, nq5_10, f5_11, f5_12, f5_13, f5_14, f5_15, f5_16, f5_17, f5_18, f5_19, f5_20, st5⟩ := g0_2 i0 i1 i2 (1 : Int32) (1 : Int32) (0 : Int32) (1 : Int32) (1 : Int32) (own_b (i0 &&& (32 : Int32))) (own_b (i0 &&& (64 : Int32))) zCOMPACT_STRINGS X1 hx hZ hw hby hml hown e1 O0 N1 (by decide) (by decide) (by decide) (by decide) B.2.2.2.2.2.2.2.2.2.2.2.2.2.2.2.1 B.2.2.2.2.2.2.2.2.2.2.2.2.2.2.2.2.1 hc3 hc4
  have O_K5 : Old Z n0 h5 := O0.keep K5 all0
  have Kp_K5 : Keep h0 h5 [] := (Keep.refl h0 []).trans K5 all0
  obtain ⟨T6, h6, L6, b6_0, X6, e6, N6, K6, lo6_1, f6_2, f6_3, st6⟩ := g0_15 i0 i1 i2 (1 : Int32) (1 : Int32) (0 : Int32) (1 : Int32) (own_b (i0 &&& (32 : Int32))) (own_b (i0 &&& (64 : Int32))) b5_0 b5_1 wOptional_EMPTY X5 hx hZ hw hby hml hown e5 O_K5 N5 (by decide) (by decide) (by decide) (by decide) B.2.2.2.2.2.2.2.2.2.2.1
  have O_K6 : Old Z n0 h6 := O_K5.keep K6 all0
  have Kp_K6 : Keep h0 h6 [] := Kp_K5.trans K6 all0
  obtain ⟨T7, h7, L7, b7_0, X7, e7, N7, K7, lo7_1, f7_2, f7_3, st7⟩ := g0_17 i0 i1 i2 (1 : Int32) (1 : Int32) (0 : Int32) (1 : Int32) (own_b (i0 &&& (32 : Int32))) (own_b (i0 &&& (64 : Int32))) b5_0 b5_1 b6_0 wOptional_EMPTY X6 hx hZ hw hby hml hown e6 O_K6 N6 (by decide) (by decide) (by decide) (by decide) B.2.2.2.2.2.2.2.2.2.2.1
  have O_K7 : Old Z n0 h7 := O_K6.keep K7 all0
  have Kp_K7 : Keep h0 h7 [] := Kp_K6.trans K7 all0
  obtain ⟨T8, h8, L8, b8_0, X8, e8, N8, K8, st8⟩ := m0_1 i0 i1 i2 (1 : Int32) (1 : Int32) (0 : Int32) (1 : Int32) (1 : Int32) (own_b (i0 &&& (32 : Int32))) (own_b (i0 &&& (64 : Int32))) b5_0 b5_1 b6_0 b7_0 wOptional_EMPTY wIntegerCache_cache clC X7 hx hZ hw hby hml hown e7 O_K7 N7 (by decide) (by decide) (by decide) (by decide) B.2.2.2.2.2.2.2.2.2.2.1 B.2.2.2.2.2.2.2.2.2.2.1 B.2.2.2.2.2.2.2.2.2.2.2.2.1 B.2.2.2.2.2.2.2.2.2.2.2.2.2.1 B.2.2.2.2.2.2.2.2.2.2.2.2.2.2.2.2.2.2.2.2.2.2.2.2.2.2.2.2.2.1 B.2.2.2.2.2.2.2.2.2.2.2.2.2.2.2.2.2.2.2.2.2.2.2.2.2.2.2.2.2.2.1 B.2.2.2.2.2.2.2.2.2.2.2.2.2.2.2.2.2.2.2.2.2.2.2.2.2.2.2.2.2.2.2
  have O_K8 : Old Z n0 h8 := O_K7.keep K8 all0
  have Kp_K8 : Keep h0 h8 [] := Kp_K7.trans K8 all0
  obtain ⟨T9, h9, L9, b9_0, b9_1, X9, e9, N9, K9, lo9_1, lo9_2, nq9_3, f9_4, f9_5, f9_6, f9_7, f9_8, f9_9, f9_10, f9_11, st9⟩ := g0_10 i0 i1 i2 (1 : Int32) (0 : Int32) (1 : Int32) (1 : Int32) (own_b (i0 &&& (32 : Int32))) (own_b (i0 &&& (64 : Int32))) b5_0 b5_1 b6_0 b7_0 b8_0 wOptional_EMPTY X8 hx hZ hw hby hml hown e8 O_K8 N8 (by decide) (by decide) (by decide) (by decide) B.2.2.2.2.2.2.2.2.2.2.1
  have O_K9 : Old Z n0 h9 := O_K8.keep K9 all0
  have Kp_K9 : Keep h0 h9 [] := Kp_K8.trans K9 all0
  obtain ⟨T10, L10, X10, e10, N10, st10⟩ := g0_8 i0 i1 i2 (1 : Int32) (1 : Int32) (1 : Int32) (1 : Int32) (own_b (i0 &&& (32 : Int32))) (own_b (i0 &&& (64 : Int32))) b5_0 b5_1 b6_0 b7_0 b8_0 b9_0 wOptional_EMPTY X9 hx hZ hw hby hml hown e9 O_K9 N9 (by decide) (by decide) (by decide) (by decide) B.2.2.2.2.2.2.2.2.2.2.1
  have f11 := ((f7_2.keep K8).keep K9)
  have f12 := ((f7_3.keep K8 nin0).keep K9 nin0)
  obtain ⟨T13, L13, X13, e13, N13, st13⟩ := g0_18 i0 i1 i2 (1 : Int32) (0 : Int32) (1 : Int32) (own_b (i0 &&& (32 : Int32))) (own_b (i0 &&& (64 : Int32))) b5_0 b5_1 b6_0 b7_0 b8_0 b9_0 wOptional_EMPTY b9_1 b7_0 b5_1 wRequestState_FAILED X10 hx hZ hw hby hml hown e10 O_K9 N10 (by decide) (by decide) (by decide) (by decide) f9_4 f9_5 f9_6 f9_10 f11 f12 B.2.2.2.2.2.2.2.2.1
  obtain ⟨fs, hr, hrun, hended, hW, hsame⟩ := X13.leave (v := some (.int (1 : Int32))) (fun h => by rw [Bd.returns] at h; cases h)
  refine ⟨_, _, pre0 _ ?_, hrun, hended, _, _, rfl, ?_, ⟨_, rfl⟩, hW, hsame.mono (by decide) (by decide)⟩
  · refine st1 _ ?_
    show St p e below T1 m 94 #[iv i0, iv i1, iv i2, iv (own_b (i0 &&& (1 : Int32))), iv (own_b (i0 &&& (2 : Int32))), iv (own_b (i0 &&& (4 : Int32))), iv (own_b (i0 &&& (8 : Int32))), iv (own_b (i0 &&& (16 : Int32))), iv (own_b (i0 &&& (32 : Int32))), iv (own_b (i0 &&& (64 : Int32))), .unset, .unset, .unset, .unset, .unset, .unset, .unset, .unset, .unset] [] _
    rw [pin0]
    rw [pin1]
    rw [pin2]
    rw [pin3]
    rw [pin4]
    refine st5 _ ?_
    refine st6 _ ?_
    refine st7 _ ?_
    refine st8 _ ?_
    refine st9 _ ?_
    refine st10 _ ?_
    refine st13 _ ?_
    show St p e below T13 m 320 #[iv i0, iv i1, iv i2, iv (1 : Int32), iv (1 : Int32), iv (0 : Int32), iv (1 : Int32), iv (1 : Int32), iv (own_b (i0 &&& (32 : Int32))), iv (own_b (i0 &&& (64 : Int32))), rv b5_0, rv b5_1, rv b6_0, rv b7_0, rv b8_0, rv b9_0, rv wOptional_EMPTY, rv wRequestState_FAILED, rv wRequestState_FAILED] [(.int (1 : Int32))] _
    exact retN X13 hx (t := .boolean) Bd.returns (by simp) (hb hby at_320) hr
  · show law_28Q Z wRequestState_UNKNOWN wRequestState_IN_PROGRESS wRequestState_REMOVED wRequestState_DONE wRequestState_FAILED wOptional_EMPTY wIntegerCache_cache zCOMPACT_STRINGS clC i0 i1 i2 h0 n0 _ T13.heap _
    rw [e13]
    exact ⟨rfl, N13⟩
def law_29Q (Z : State) (wRequestState_UNKNOWN : Addr) (wRequestState_IN_PROGRESS : Addr) (wRequestState_REMOVED : Addr) (wRequestState_DONE : Addr) (wRequestState_FAILED : Addr) (wOptional_EMPTY : Addr) (wIntegerCache_cache : Addr) (zCOMPACT_STRINGS : Int32) (clC : Cell) (i0 : Int32) (i1 : Int32) (i2 : Int32) (h0 : Heap) (n0 : Nat) (v : Option Value) (h : Heap) (L : List Loc) : Prop := v = some (.int (1 : Int32)) ∧ Fr n0 L
theorem law_29e (m : MethodId) (wRequestState_UNKNOWN : Addr) (wRequestState_IN_PROGRESS : Addr) (wRequestState_REMOVED : Addr) (wRequestState_DONE : Addr) (wRequestState_FAILED : Addr) (wOptional_EMPTY : Addr) (wIntegerCache_cache : Addr) (zCOMPACT_STRINGS : Int32) (clC : Cell) (i0 : Int32) (i1 : Int32) (i2 : Int32) : entryFrame m #[(.int i0), (.int i1), (.int i2)] maxLocals = mkF m 0 #[iv i0, iv i1, iv i2, .unset, .unset, .unset, .unset, .unset, .unset, .unset, .unset, .unset, .unset, .unset, .unset, .unset, .unset, .unset, .unset] [] := by first | (simp [entryFrame, mkF, argsToLocals, Value.category, maxLocals]; done) | rfl
set_option maxRecDepth 65536 in
set_option maxHeartbeats 40000000 in
theorem law_29 (l : Launch) (Z : State) (a0 : Array Value) (hw : HW a0 Z) (ws : List Jvm.Cond) (wRequestState_UNKNOWN : Addr) (wRequestState_IN_PROGRESS : Addr) (wRequestState_REMOVED : Addr) (wRequestState_DONE : Addr) (wRequestState_FAILED : Addr) (wOptional_EMPTY : Addr) (wIntegerCache_cache : Addr) (zCOMPACT_STRINGS : Int32) (clC : Cell) (B : Base Z wRequestState_UNKNOWN wRequestState_IN_PROGRESS wRequestState_REMOVED wRequestState_DONE wRequestState_FAILED wOptional_EMPTY wIntegerCache_cache zCOMPACT_STRINGS clC) (i0 : Int32) (i1 : Int32) (i2 : Int32) (h0 : Heap) (n0 : Nat) (O0 : Old Z n0 h0) (pin0 : (own_b (i0 &&& (1 : Int32))) = (0 : Int32)) (pin1 : (own_b (i0 &&& (2 : Int32))) = (0 : Int32)) (pin2 : (own_b (i0 &&& (4 : Int32))) = (1 : Int32)) (pin3 : (own_b (i0 &&& (8 : Int32))) = (1 : Int32)) (pin4 : (own_b (i0 &&& (16 : Int32))) = (1 : Int32)) (hc3 : ¬ ((255 : Int32) < ((i1 &&& (255 : Int32)).toUInt32.toUInt16.toUInt32.toInt32))) (hc4 : ¬ ((255 : Int32) < ((i2 &&& (255 : Int32)).toUInt32.toUInt16.toUInt32.toInt32))) :
    MetFree l x (head1 (Jvm.Cond.code x code maxLocals ret :: ws) room_1) (fun a U => a = #[(.int i0), (.int i1), (.int i2)] ∧ Z.Warmed39 U.vm ∧ U.heap = h0) (fun _ _ _ _ _ => True) (fun _ U o U' => ∃ v L, o = .returned v ∧ law_29Q Z wRequestState_UNKNOWN wRequestState_IN_PROGRESS wRequestState_REMOVED wRequestState_DONE wRequestState_FAILED wOptional_EMPTY wIntegerCache_cache zCOMPACT_STRINGS clC i0 i1 i2 h0 n0 v U'.heap L ∧ FrameEnd U o U' L room_1.cells room_1.slots) := by
  refine MetFree.of_bodySF (plainFor_of_name pn_com_example_agave_agave_store_RequestStateOfPinLaw) hisR ?_
  intro p e s m args below meth c s₁ Bd hml0 hP hK
  obtain ⟨rfl, hZ, hh⟩ := hP
  have hx := Bd.exec
  have hby := Bd.bytes
  have hml : c.maxLocals = 19 := hml0
  have hown : s.vm.findClass "com/example/agave/agave/store/RequestStateOfPinLaw" = some m.cls := findClass_of_methodNamed Bd.named
  have hnm := (name_of_methodNamed Bd.named Bd.method).1
  have X0 : Stand p l e room_1 s m #[(.int i0), (.int i1), (.int i2)] below meth c s₁ [] 0 0 := Stand.of_body Bd
  have e0 : s₁.heap = h0 := by rw [← hh, Bd.state]; rfl
  have N0 := Fr.nil n0
  have pre0 : ∀ t, Steps p.tables e below (s₁.setTop (mkF m 0 #[iv i0, iv i1, iv i2, .unset, .unset, .unset, .unset, .unset, .unset, .unset, .unset, .unset, .unset, .unset, .unset, .unset, .unset, .unset, .unset] [])) t → Steps p.tables e below (s₁.setTop (entryFrame m #[(.int i0), (.int i1), (.int i2)] maxLocals)) t := fun t k => castTop (law_29e m wRequestState_UNKNOWN wRequestState_IN_PROGRESS wRequestState_REMOVED wRequestState_DONE wRequestState_FAILED wOptional_EMPTY wIntegerCache_cache zCOMPACT_STRINGS clC i0 i1 i2) k
  obtain ⟨T1, L1, X1, e1, N1, st1⟩ := g0_1 i0 i1 i2 X0 hx hZ hw hby hml hown e0 O0 N0 (by decide) (by decide) (by decide) (by decide)
  obtain ⟨T5, h5, L5, b5_0, b5_1, b5_2, b5_3, k5_0, k5_1, X5, e5, N5, K5, lo5_1, lo5_2, lo5_3, lo5_4, nq5_5, nq5_6, nq5_7, nq5_8, nq5_9, nq5_10, f5_11, f5_12, f5_13, f5_14, f5_15, f5_16, f5_17, f5_18, f5_19, f5_20, st5⟩ := g0_2 i0 i1 i2 (0 : Int32) (0 : Int32) (1 : Int32) (1 : Int32) (1 : Int32) (own_b (i0 &&& (32 : Int32))) (own_b (i0 &&& (64 : Int32))) zCOMPACT_STRINGS X1 hx hZ hw hby hml hown e1 O0 N1 (by decide) (by decide) (by decide) (by decide) B.2.2.2.2.2.2.2.2.2.2.2.2.2.2.2.1 B.2.2.2.2.2.2.2.2.2.2.2.2.2.2.2.2.1 hc3 hc4
  have O_K5 : Old Z n0 h5 := O0.keep K5 all0
  have Kp_K5 : Keep h0 h5 [] := (Keep.refl h0 []).trans K5 all0
  obtain ⟨T6, h6, L6, b6_0, X6, e6, N6, K6, lo6_1, f6_2, f6_3, st6⟩ := g0_15 i0 i1 i2 (0 : Int32) (0 : Int32) (1 : Int32) (1 : Int32) (own_b (i0 &&& (32 : Int32))) (own_b (i0 &&& (64 : Int32))) b5_0 b5_1 wOptional_EMPTY X5 hx hZ hw hby hml hown e5 O_K5 N5 (by decide) (by decide) (by decide) (by decide) B.2.2.2.2.2.2.2.2.2.2.1
  have O_K6 : Old Z n0 h6 := O_K5.keep K6 all0
  have Kp_K6 : Keep h0 h6 [] := Kp_K5.trans K6 all0
  obtain ⟨T7, h7, L7, b7_0, X7, e7, N7, K7, lo7_1, f7_2, f7_3, st7⟩ := g0_17 i0 i1 i2 (0 : Int32) (0 : Int32) (1 : Int32) (1 : Int32) (own_b (i0 &&& (32 : Int32))) (own_b (i0 &&& (64 : Int32))) b5_0 b5_1 b6_0 wOptional_EMPTY X6 hx hZ hw hby hml hown e6 O_K6 N6 (by decide) (by decide) (by decide) (by decide) B.2.2.2.2.2.2.2.2.2.2.1
  have O_K7 : Old Z n0 h7 := O_K6.keep K7 all0
  have Kp_K7 : Keep h0 h7 [] := Kp_K6.trans K7 all0
  obtain ⟨T8, h8, L8, b8_0, X8, e8, N8, K8, st8⟩ := m0_1 i0 i1 i2 (0 : Int32) (0 : Int32) (1 : Int32) (1 : Int32) (1 : Int32) (own_b (i0 &&& (32 : Int32))) (own_b (i0 &&& (64 : Int32))) b5_0 b5_1 b6_0 b7_0 wOptional_EMPTY wIntegerCache_cache clC X7 hx hZ hw hby hml hown e7 O_K7 N7 (by decide) (by decide) (by decide) (by decide) B.2.2.2.2.2.2.2.2.2.2.1 B.2.2.2.2.2.2.2.2.2.2.1 B.2.2.2.2.2.2.2.2.2.2.2.2.1 B.2.2.2.2.2.2.2.2.2.2.2.2.2.1 B.2.2.2.2.2.2.2.2.2.2.2.2.2.2.2.2.2.2.2.2.2.2.2.2.2.2.2.2.2.1 B.2.2.2.2.2.2.2.2.2.2.2.2.2.2.2.2.2.2.2.2.2.2.2.2.2.2.2.2.2.2.1 B.2.2.2.2.2.2.2.2.2.2.2.2.2.2.2.2.2.2.2.2.2.2.2.2.2.2.2.2.2.2.2
  have O_K8 : Old Z n0 h8 := O_K7.keep K8 all0
  have Kp_K8 : Keep h0 h8 [] := Kp_K7.trans K8 all0
  obtain ⟨T9, L9, X9, e9, N9, st9⟩ := g0_7 i0 i1 i2 (0 : Int32) (1 : Int32) (1 : Int32) (1 : Int32) (own_b (i0 &&& (32 : Int32))) (own_b (i0 &&& (64 : Int32))) b5_0 b5_1 b6_0 b7_0 b8_0 wOptional_EMPTY X8 hx hZ hw hby hml hown e8 O_K8 N8 (by decide) (by decide) (by decide) (by decide) B.2.2.2.2.2.2.2.2.2.2.1
  obtain ⟨T10, h10, L10, b10_0, b10_1, X10, e10, N10, K10, lo10_1, lo10_2, nq10_3, f10_4, f10_5, f10_6, f10_7, f10_8, f10_9, f10_10, st10⟩ := g0_13 i0 i1 i2 (0 : Int32) (0 : Int32) (1 : Int32) (1 : Int32) (own_b (i0 &&& (32 : Int32))) (own_b (i0 &&& (64 : Int32))) b5_0 b5_1 b6_0 b7_0 b8_0 wOptional_EMPTY wOptional_EMPTY X9 hx hZ hw hby hml hown e9 O_K8 N9 (by decide) (by decide) (by decide) (by decide) B.2.2.2.2.2.2.2.2.2.2.1
  have O_K10 : Old Z n0 h10 := O_K8.keep K10 all0
  have Kp_K10 : Keep h0 h10 [] := Kp_K8.trans K10 all0
  obtain ⟨T11, L11, X11, e11, N11, st11⟩ := g0_14 i0 i1 i2 (1 : Int32) (1 : Int32) (own_b (i0 &&& (32 : Int32))) (own_b (i0 &&& (64 : Int32))) b5_0 b5_1 b6_0 b7_0 b8_0 wOptional_EMPTY b10_0 b10_1 wRequestState_REMOVED X10 hx hZ hw hby hml hown e10 O_K10 N10 (by decide) (by decide) (by decide) (by decide) B.2.2.2.2.2.2.2.2.2.2.2.1 B.2.2.2.2.2.2.2.2.2.2.2.2.2.2.2.2.2.1 f10_4 f10_5 B.2.2.2.2.1
  obtain ⟨fs, hr, hrun, hended, hW, hsame⟩ := X11.leave (v := some (.int (1 : Int32))) (fun h => by rw [Bd.returns] at h; cases h)
  refine ⟨_, _, pre0 _ ?_, hrun, hended, _, _, rfl, ?_, ⟨_, rfl⟩, hW, hsame.mono (by decide) (by decide)⟩
  · refine st1 _ ?_
    show St p e below T1 m 94 #[iv i0, iv i1, iv i2, iv (own_b (i0 &&& (1 : Int32))), iv (own_b (i0 &&& (2 : Int32))), iv (own_b (i0 &&& (4 : Int32))), iv (own_b (i0 &&& (8 : Int32))), iv (own_b (i0 &&& (16 : Int32))), iv (own_b (i0 &&& (32 : Int32))), iv (own_b (i0 &&& (64 : Int32))), .unset, .unset, .unset, .unset, .unset, .unset, .unset, .unset, .unset] [] _
    rw [pin0]
    rw [pin1]
    rw [pin2]
    rw [pin3]
    rw [pin4]
    refine st5 _ ?_
    refine st6 _ ?_
    refine st7 _ ?_
    refine st8 _ ?_
    refine st9 _ ?_
    refine st10 _ ?_
    refine st11 _ ?_
    show St p e below T11 m 320 #[iv i0, iv i1, iv i2, iv (0 : Int32), iv (0 : Int32), iv (1 : Int32), iv (1 : Int32), iv (1 : Int32), iv (own_b (i0 &&& (32 : Int32))), iv (own_b (i0 &&& (64 : Int32))), rv b5_0, rv b5_1, rv b6_0, rv b7_0, rv b8_0, rv wOptional_EMPTY, rv b10_0, rv wRequestState_REMOVED, rv wRequestState_REMOVED] [(.int (1 : Int32))] _
    exact retN X11 hx (t := .boolean) Bd.returns (by simp) (hb hby at_320) hr
  · show law_29Q Z wRequestState_UNKNOWN wRequestState_IN_PROGRESS wRequestState_REMOVED wRequestState_DONE wRequestState_FAILED wOptional_EMPTY wIntegerCache_cache zCOMPACT_STRINGS clC i0 i1 i2 h0 n0 _ T11.heap _
    rw [e11]
    exact ⟨rfl, N11⟩
def law_30Q (Z : State) (wRequestState_UNKNOWN : Addr) (wRequestState_IN_PROGRESS : Addr) (wRequestState_REMOVED : Addr) (wRequestState_DONE : Addr) (wRequestState_FAILED : Addr) (wOptional_EMPTY : Addr) (wIntegerCache_cache : Addr) (zCOMPACT_STRINGS : Int32) (clC : Cell) (i0 : Int32) (i1 : Int32) (i2 : Int32) (h0 : Heap) (n0 : Nat) (v : Option Value) (h : Heap) (L : List Loc) : Prop := v = some (.int (1 : Int32)) ∧ Fr n0 L
theorem law_30e (m : MethodId) (wRequestState_UNKNOWN : Addr) (wRequestState_IN_PROGRESS : Addr) (wRequestState_REMOVED : Addr) (wRequestState_DONE : Addr) (wRequestState_FAILED : Addr) (wOptional_EMPTY : Addr) (wIntegerCache_cache : Addr) (zCOMPACT_STRINGS : Int32) (clC : Cell) (i0 : Int32) (i1 : Int32) (i2 : Int32) : entryFrame m #[(.int i0), (.int i1), (.int i2)] maxLocals = mkF m 0 #[iv i0, iv i1, iv i2, .unset, .unset, .unset, .unset, .unset, .unset, .unset, .unset, .unset, .unset, .unset, .unset, .unset, .unset, .unset, .unset] [] := by first | (simp [entryFrame, mkF, argsToLocals, Value.category, maxLocals]; done) | rfl
set_option maxRecDepth 65536 in
set_option maxHeartbeats 40000000 in
theorem law_30 (l : Launch) (Z : State) (a0 : Array Value) (hw : HW a0 Z) (ws : List Jvm.Cond) (wRequestState_UNKNOWN : Addr) (wRequestState_IN_PROGRESS : Addr) (wRequestState_REMOVED : Addr) (wRequestState_DONE : Addr) (wRequestState_FAILED : Addr) (wOptional_EMPTY : Addr) (wIntegerCache_cache : Addr) (zCOMPACT_STRINGS : Int32) (clC : Cell) (B : Base Z wRequestState_UNKNOWN wRequestState_IN_PROGRESS wRequestState_REMOVED wRequestState_DONE wRequestState_FAILED wOptional_EMPTY wIntegerCache_cache zCOMPACT_STRINGS clC) (i0 : Int32) (i1 : Int32) (i2 : Int32) (h0 : Heap) (n0 : Nat) (O0 : Old Z n0 h0) (pin0 : (own_b (i0 &&& (1 : Int32))) = (1 : Int32)) (pin1 : (own_b (i0 &&& (2 : Int32))) = (0 : Int32)) (pin2 : (own_b (i0 &&& (4 : Int32))) = (1 : Int32)) (pin3 : (own_b (i0 &&& (8 : Int32))) = (1 : Int32)) (pin4 : (own_b (i0 &&& (16 : Int32))) = (1 : Int32)) (hc3 : ¬ ((255 : Int32) < ((i1 &&& (255 : Int32)).toUInt32.toUInt16.toUInt32.toInt32))) (hc4 : ¬ ((255 : Int32) < ((i2 &&& (255 : Int32)).toUInt32.toUInt16.toUInt32.toInt32))) :
    MetFree l x (head1 (Jvm.Cond.code x code maxLocals ret :: ws) room_1) (fun a U => a = #[(.int i0), (.int i1), (.int i2)] ∧ Z.Warmed39 U.vm ∧ U.heap = h0) (fun _ _ _ _ _ => True) (fun _ U o U' => ∃ v L, o = .returned v ∧ law_30Q Z wRequestState_UNKNOWN wRequestState_IN_PROGRESS wRequestState_REMOVED wRequestState_DONE wRequestState_FAILED wOptional_EMPTY wIntegerCache_cache zCOMPACT_STRINGS clC i0 i1 i2 h0 n0 v U'.heap L ∧ FrameEnd U o U' L room_1.cells room_1.slots) := by
  refine MetFree.of_bodySF (plainFor_of_name pn_com_example_agave_agave_store_RequestStateOfPinLaw) hisR ?_
  intro p e s m args below meth c s₁ Bd hml0 hP hK
  obtain ⟨rfl, hZ, hh⟩ := hP
  have hx := Bd.exec
  have hby := Bd.bytes
  have hml : c.maxLocals = 19 := hml0
  have hown : s.vm.findClass "com/example/agave/agave/store/RequestStateOfPinLaw" = some m.cls := findClass_of_methodNamed Bd.named
  have hnm := (name_of_methodNamed Bd.named Bd.method).1
  have X0 : Stand p l e room_1 s m #[(.int i0), (.int i1), (.int i2)] below meth c s₁ [] 0 0 := Stand.of_body Bd
  have e0 : s₁.heap = h0 := by rw [← hh, Bd.state]; rfl
  have N0 := Fr.nil n0
  have pre0 : ∀ t, Steps p.tables e below (s₁.setTop (mkF m 0 #[iv i0, iv i1, iv i2, .unset, .unset, .unset, .unset, .unset, .unset, .unset, .unset, .unset, .unset, .unset, .unset, .unset, .unset, .unset, .unset] [])) t → Steps p.tables e below (s₁.setTop (entryFrame m #[(.int i0), (.int i1), (.int i2)] maxLocals)) t := fun t k => castTop (law_30e m wRequestState_UNKNOWN wRequestState_IN_PROGRESS wRequestState_REMOVED wRequestState_DONE wRequestState_FAILED wOptional_EMPTY wIntegerCache_cache zCOMPACT_STRINGS clC i0 i1 i2) k
  obtain ⟨T1, L1, X1, e1, N1, st1⟩ := g0_1 i0 i1 i2 X0 hx hZ hw hby hml hown e0 O0 N0 (by decide) (by decide) (by decide) (by decide)
  obtain ⟨T5, h5, L5, b5_0, b5_1, b5_2, b5_3, k5_0, k5_1, X5, e5, N5, K5, lo5_1, lo5_2, lo5_3, lo5_4, nq5_5, nq5_6, nq5_7, nq5_8, nq5_9, nq5_10, f5_11, f5_12, f5_13, f5_14, f5_15, f5_16, f5_17, f5_18, f5_19, f5_20, st5⟩ := g0_2 i0 i1 i2 (1 : Int32) (0 : Int32) (1 : Int32) (1 : Int32) (1 : Int32) (own_b (i0 &&& (32 : Int32))) (own_b (i0 &&& (64 : Int32))) zCOMPACT_STRINGS X1 hx hZ hw hby hml hown e1 O0 N1 (by decide) (by decide) (by decide) (by decide) B.2.2.2.2.2.2.2.2.2.2.2.2.2.2.2.1 B.2.2.2.2.2.2.2.2.2.2.2.2.2.2.2.2.1 hc3 hc4
  have O_K5 : Old Z n0 h5 := O0.keep K5 all0
  have Kp_K5 : Keep h0 h5 [] := (Keep.refl h0 []).trans K5 all0
  obtain ⟨T6, h6, L6, b6_0, X6, e6, N6, K6, lo6_1, f6_2, f6_3, st6⟩ := g0_15 i0 i1 i2 (1 : Int32) (0 : Int32) (1 : Int32) (1 : Int32) (own_b (i0 &&& (32 : Int32))) (own_b (i0 &&& (64 : Int32))) b5_0 b5_1 wOptional_EMPTY X5 hx hZ hw hby hml hown e5 O_K5 N5 (by decide) (by decide) (by decide) (by decide) B.2.2.2.2.2.2.2.2.2.2.1
  have O_K6 : Old Z n0 h6 := O_K5.keep K6 all0
  have Kp_K6 : Keep h0 h6 [] := Kp_K5.trans K6 all0
  obtain ⟨T7, h7, L7, b7_0, X7, e7, N7, K7, lo7_1, f7_2, f7_3, st7⟩ := g0_17 i0 i1 i2 (1 : Int32) (0 : Int32) (1 : Int32) (1 : Int32) (own_b (i0 &&& (32 : Int32))) (own_b (i0 &&& (64 : Int32))) b5_0 b5_1 b6_0 wOptional_EMPTY X6 hx hZ hw hby hml hown e6 O_K6 N6 (by decide) (by decide) (by decide) (by decide) B.2.2.2.2.2.2.2.2.2.2.1
  have O_K7 : Old Z n0 h7 := O_K6.keep K7 all0
  have Kp_K7 : Keep h0 h7 [] := Kp_K6.trans K7 all0
  obtain ⟨T8, h8, L8, b8_0, X8, e8, N8, K8, st8⟩ := m0_1 i0 i1 i2 (1 : Int32) (0 : Int32) (1 : Int32) (1 : Int32) (1 : Int32) (own_b (i0 &&& (32 : Int32))) (own_b (i0 &&& (64 : Int32))) b5_0 b5_1 b6_0 b7_0 wOptional_EMPTY wIntegerCache_cache clC X7 hx hZ hw hby hml hown e7 O_K7 N7 (by decide) (by decide) (by decide) (by decide) B.2.2.2.2.2.2.2.2.2.2.1 B.2.2.2.2.2.2.2.2.2.2.1 B.2.2.2.2.2.2.2.2.2.2.2.2.1 B.2.2.2.2.2.2.2.2.2.2.2.2.2.1 B.2.2.2.2.2.2.2.2.2.2.2.2.2.2.2.2.2.2.2.2.2.2.2.2.2.2.2.2.2.1 B.2.2.2.2.2.2.2.2.2.2.2.2.2.2.2.2.2.2.2.2.2.2.2.2.2.2.2.2.2.2.1 B.2.2.2.2.2.2.2.2.2.2.2.2.2.2.2.2.2.2.2.2.2.2.2.2.2.2.2.2.2.2.2
  have O_K8 : Old Z n0 h8 := O_K7.keep K8 all0
  have Kp_K8 : Keep h0 h8 [] := Kp_K7.trans K8 all0
  obtain ⟨T9, h9, L9, b9_0, b9_1, X9, e9, N9, K9, lo9_1, lo9_2, nq9_3, f9_4, f9_5, f9_6, f9_7, f9_8, f9_9, f9_10, f9_11, st9⟩ := g0_10 i0 i1 i2 (0 : Int32) (1 : Int32) (1 : Int32) (1 : Int32) (own_b (i0 &&& (32 : Int32))) (own_b (i0 &&& (64 : Int32))) b5_0 b5_1 b6_0 b7_0 b8_0 wOptional_EMPTY X8 hx hZ hw hby hml hown e8 O_K8 N8 (by decide) (by decide) (by decide) (by decide) B.2.2.2.2.2.2.2.2.2.2.1
  have O_K9 : Old Z n0 h9 := O_K8.keep K9 all0
  have Kp_K9 : Keep h0 h9 [] := Kp_K8.trans K9 all0
  obtain ⟨T10, h10, L10, b10_0, b10_1, X10, e10, N10, K10, lo10_1, lo10_2, nq10_3, f10_4, f10_5, f10_6, f10_7, f10_8, f10_9, f10_10, st10⟩ := g0_13 i0 i1 i2 (1 : Int32) (0 : Int32) (1 : Int32) (1 : Int32) (own_b (i0 &&& (32 : Int32))) (own_b (i0 &&& (64 : Int32))) b5_0 b5_1 b6_0 b7_0 b8_0 b9_0 wOptional_EMPTY X9 hx hZ hw hby hml hown e9 O_K9 N9 (by decide) (by decide) (by decide) (by decide) B.2.2.2.2.2.2.2.2.2.2.1
  have O_K10 : Old Z n0 h10 := O_K9.keep K10 all0
  have Kp_K10 : Keep h0 h10 [] := Kp_K9.trans K10 all0
  have f11 := (f9_4.keep K10)
  have f12 := (f9_5.keep K10 nin0)
  have f13 := (f9_6.keep K10)
  have f14 := (f9_10.keep K10 nin0)
  have f15 := (((f7_2.keep K8).keep K9).keep K10)
  have f16 := (((f7_3.keep K8 nin0).keep K9 nin0).keep K10 nin0)
  obtain ⟨T17, L17, X17, e17, N17, st17⟩ := g0_18 i0 i1 i2 (0 : Int32) (1 : Int32) (1 : Int32) (own_b (i0 &&& (32 : Int32))) (own_b (i0 &&& (64 : Int32))) b5_0 b5_1 b6_0 b7_0 b8_0 b9_0 b10_0 b9_1 b7_0 b5_1 wRequestState_FAILED X10 hx hZ hw hby hml hown e10 O_K10 N10 (by decide) (by decide) (by decide) (by decide) f11 f12 f13 f14 f15 f16 B.2.2.2.2.2.2.2.2.1
  obtain ⟨fs, hr, hrun, hended, hW, hsame⟩ := X17.leave (v := some (.int (1 : Int32))) (fun h => by rw [Bd.returns] at h; cases h)
  refine ⟨_, _, pre0 _ ?_, hrun, hended, _, _, rfl, ?_, ⟨_, rfl⟩, hW, hsame.mono (by decide) (by decide)⟩
  · refine st1 _ ?_
    show St p e below T1 m 94 #[iv i0, iv i1, iv i2, iv (own_b (i0 &&& (1 : Int32))), iv (own_b (i0 &&& (2 : Int32))), iv (own_b (i0 &&& (4 : Int32))), iv (own_b (i0 &&& (8 : Int32))), iv (own_b (i0 &&& (16 : Int32))), iv (own_b (i0 &&& (32 : Int32))), iv (own_b (i0 &&& (64 : Int32))), .unset, .unset, .unset, .unset, .unset, .unset, .unset, .unset, .unset] [] _
    rw [pin0]
    rw [pin1]
    rw [pin2]
    rw [pin3]
    rw [pin4]
    refine st5 _ ?_
    refine st6 _ ?_
    refine st7 _ ?_
    refine st8 _ ?_
    refine st9 _ ?_
    refine st10 _ ?_
    refine st17 _ ?_
    show St p e below T17 m 320 #[iv i0, iv i1, iv i2, iv (1 : Int32), iv (0 : Int32), iv (1 : Int32), iv (1 : Int32), iv (1 : Int32), iv (own_b (i0 &&& (32 : Int32))), iv (own_b (i0 &&& (64 : Int32))), rv b5_0, rv b5_1, rv b6_0, rv b7_0, rv b8_0, rv b9_0, rv b10_0, rv wRequestState_FAILED, rv wRequestState_FAILED] [(.int (1 : Int32))] _
    exact retN X17 hx (t := .boolean) Bd.returns (by simp) (hb hby at_320) hr
  · show law_30Q Z wRequestState_UNKNOWN wRequestState_IN_PROGRESS wRequestState_REMOVED wRequestState_DONE wRequestState_FAILED wOptional_EMPTY wIntegerCache_cache zCOMPACT_STRINGS clC i0 i1 i2 h0 n0 _ T17.heap _
    rw [e17]
    exact ⟨rfl, N17⟩
def law_31Q (Z : State) (wRequestState_UNKNOWN : Addr) (wRequestState_IN_PROGRESS : Addr) (wRequestState_REMOVED : Addr) (wRequestState_DONE : Addr) (wRequestState_FAILED : Addr) (wOptional_EMPTY : Addr) (wIntegerCache_cache : Addr) (zCOMPACT_STRINGS : Int32) (clC : Cell) (i0 : Int32) (i1 : Int32) (i2 : Int32) (h0 : Heap) (n0 : Nat) (v : Option Value) (h : Heap) (L : List Loc) : Prop := v = some (.int (1 : Int32)) ∧ Fr n0 L
theorem law_31e (m : MethodId) (wRequestState_UNKNOWN : Addr) (wRequestState_IN_PROGRESS : Addr) (wRequestState_REMOVED : Addr) (wRequestState_DONE : Addr) (wRequestState_FAILED : Addr) (wOptional_EMPTY : Addr) (wIntegerCache_cache : Addr) (zCOMPACT_STRINGS : Int32) (clC : Cell) (i0 : Int32) (i1 : Int32) (i2 : Int32) : entryFrame m #[(.int i0), (.int i1), (.int i2)] maxLocals = mkF m 0 #[iv i0, iv i1, iv i2, .unset, .unset, .unset, .unset, .unset, .unset, .unset, .unset, .unset, .unset, .unset, .unset, .unset, .unset, .unset, .unset] [] := by first | (simp [entryFrame, mkF, argsToLocals, Value.category, maxLocals]; done) | rfl
set_option maxRecDepth 65536 in
set_option maxHeartbeats 40000000 in
theorem law_31 (l : Launch) (Z : State) (a0 : Array Value) (hw : HW a0 Z) (ws : List Jvm.Cond) (wRequestState_UNKNOWN : Addr) (wRequestState_IN_PROGRESS : Addr) (wRequestState_REMOVED : Addr) (wRequestState_DONE : Addr) (wRequestState_FAILED : Addr) (wOptional_EMPTY : Addr) (wIntegerCache_cache : Addr) (zCOMPACT_STRINGS : Int32) (clC : Cell) (B : Base Z wRequestState_UNKNOWN wRequestState_IN_PROGRESS wRequestState_REMOVED wRequestState_DONE wRequestState_FAILED wOptional_EMPTY wIntegerCache_cache zCOMPACT_STRINGS clC) (i0 : Int32) (i1 : Int32) (i2 : Int32) (h0 : Heap) (n0 : Nat) (O0 : Old Z n0 h0) (pin0 : (own_b (i0 &&& (1 : Int32))) = (0 : Int32)) (pin1 : (own_b (i0 &&& (2 : Int32))) = (1 : Int32)) (pin2 : (own_b (i0 &&& (4 : Int32))) = (1 : Int32)) (pin3 : (own_b (i0 &&& (8 : Int32))) = (1 : Int32)) (pin4 : (own_b (i0 &&& (16 : Int32))) = (1 : Int32)) (hc3 : ¬ ((255 : Int32) < ((i1 &&& (255 : Int32)).toUInt32.toUInt16.toUInt32.toInt32))) (hc4 : ¬ ((255 : Int32) < ((i2 &&& (255 : Int32)).toUInt32.toUInt16.toUInt32.toInt32))) :
    MetFree l x (head1 (Jvm.Cond.code x code maxLocals ret :: ws) room_1) (fun a U => a = #[(.int i0), (.int i1), (.int i2)] ∧ Z.Warmed39 U.vm ∧ U.heap = h0) (fun _ _ _ _ _ => True) (fun _ U o U' => ∃ v L, o = .returned v ∧ law_31Q Z wRequestState_UNKNOWN wRequestState_IN_PROGRESS wRequestState_REMOVED wRequestState_DONE wRequestState_FAILED wOptional_EMPTY wIntegerCache_cache zCOMPACT_STRINGS clC i0 i1 i2 h0 n0 v U'.heap L ∧ FrameEnd U o U' L room_1.cells room_1.slots) := by
  refine MetFree.of_bodySF (plainFor_of_name pn_com_example_agave_agave_store_RequestStateOfPinLaw) hisR ?_
  intro p e s m args below meth c s₁ Bd hml0 hP hK
  obtain ⟨rfl, hZ, hh⟩ := hP
  have hx := Bd.exec
  have hby := Bd.bytes
  have hml : c.maxLocals = 19 := hml0
  have hown : s.vm.findClass "com/example/agave/agave/store/RequestStateOfPinLaw" = some m.cls := findClass_of_methodNamed Bd.named
  have hnm := (name_of_methodNamed Bd.named Bd.method).1
  have X0 : Stand p l e room_1 s m #[(.int i0), (.int i1), (.int i2)] below meth c s₁ [] 0 0 := Stand.of_body Bd
  have e0 : s₁.heap = h0 := by rw [← hh, Bd.state]; rfl
  have N0 := Fr.nil n0
  have pre0 : ∀ t, Steps p.tables e below (s₁.setTop (mkF m 0 #[iv i0, iv i1, iv i2, .unset, .unset, .unset, .unset, .unset, .unset, .unset, .unset, .unset, .unset, .unset, .unset, .unset, .unset, .unset, .unset] [])) t → Steps p.tables e below (s₁.setTop (entryFrame m #[(.int i0), (.int i1), (.int i2)] maxLocals)) t := fun t k => castTop (law_31e m wRequestState_UNKNOWN wRequestState_IN_PROGRESS wRequestState_REMOVED wRequestState_DONE wRequestState_FAILED wOptional_EMPTY wIntegerCache_cache zCOMPACT_STRINGS clC i0 i1 i2) k
  obtain ⟨T1, L1, X1, e1, N1, st1⟩ := g0_1 i0 i1 i2 X0 hx hZ hw hby hml hown e0 O0 N0 (by decide) (by decide) (by decide) (by decide)
  obtain ⟨T5, h5, L5, b5_0, b5_1, b5_2, b5_3, k5_0, k5_1, X5, e5, N5, K5, lo5_1, lo5_2, lo5_3, lo5_4, nq5_5, nq5_6, nq5_7, nq5_8, nq5_9, nq5_10, f5_11, f5_12, f5_13, f5_14, f5_15, f5_16, f5_17, f5_18, f5_19, f5_20, st5⟩ := g0_2 i0 i1 i2 (0 : Int32) (1 : Int32) (1 : Int32) (1 : Int32) (1 : Int32) (own_b (i0 &&& (32 : Int32))) (own_b (i0 &&& (64 : Int32))) zCOMPACT_STRINGS X1 hx hZ hw hby hml hown e1 O0 N1 (by decide) (by decide) (by decide) (by decide) B.2.2.2.2.2.2.2.2.2.2.2.2.2.2.2.1 B.2.2.2.2.2.2.2.2.2.2.2.2.2.2.2.2.1 hc3 hc4
  have O_K5 : Old Z n0 h5 := O0.keep K5 all0
  have Kp_K5 : Keep h0 h5 [] := (Keep.refl h0 []).trans K5 all0
  obtain ⟨T6, h6, L6, b6_0, X6, e6, N6, K6, lo6_1, f6_2, f6_3, st6⟩ := g0_15 i0 i1 i2 (0 : Int32) (1 : Int32) (1 : Int32) (1 : Int32) (own_b (i0 &&& (32 : Int32))) (own_b (i0 &&& (64 : Int32))) b5_0 b5_1 wOptional_EMPTY X5 hx hZ hw hby hml hown e5 O_K5 N5 (by decide) (by decide) (by decide) (by decide) B.2.2.2.2.2.2.2.2.2.2.1
  have O_K6 : Old Z n0 h6 := O_K5.keep K6 all0
  have Kp_K6 : Keep h0 h6 [] := Kp_K5.trans K6 all0
  obtain ⟨T7, h7, L7, b7_0, X7, e7, N7, K7, lo7_1, f7_2, f7_3, st7⟩ := g0_17 i0 i1 i2 (0 : Int32) (1 : Int32) (1 : Int32) (1 : Int32) (own_b (i0 &&& (32 : Int32))) (own_b (i0 &&& (64 : Int32))) b5_0 b5_1 b6_0 wOptional_EMPTY X6 hx hZ hw hby hml hown e6 O_K6 N6 (by decide) (by decide) (by decide) (by decide) B.2.2.2.2.2.2.2.2.2.2.1
  have O_K7 : Old Z n0 h7 := O_K6.keep K7 all0
  have Kp_K7 : Keep h0 h7 [] := Kp_K6.trans K7 all0
  obtain ⟨T8, h8, L8, b8_0, X8, e8, N8, K8, st8⟩ := m0_1 i0 i1 i2 (0 : Int32) (1 : Int32) (1 : Int32) (1 : Int32) (1 : Int32) (own_b (i0 &&& (32 : Int32))) (own_b (i0 &&& (64 : Int32))) b5_0 b5_1 b6_0 b7_0 wOptional_EMPTY wIntegerCache_cache clC X7 hx hZ hw hby hml hown e7 O_K7 N7 (by decide) (by decide) (by decide) (by decide) B.2.2.2.2.2.2.2.2.2.2.1 B.2.2.2.2.2.2.2.2.2.2.1 B.2.2.2.2.2.2.2.2.2.2.2.2.1 B.2.2.2.2.2.2.2.2.2.2.2.2.2.1 B.2.2.2.2.2.2.2.2.2.2.2.2.2.2.2.2.2.2.2.2.2.2.2.2.2.2.2.2.2.1 B.2.2.2.2.2.2.2.2.2.2.2.2.2.2.2.2.2.2.2.2.2.2.2.2.2.2.2.2.2.2.1 B.2.2.2.2.2.2.2.2.2.2.2.2.2.2.2.2.2.2.2.2.2.2.2.2.2.2.2.2.2.2.2
  have O_K8 : Old Z n0 h8 := O_K7.keep K8 all0
  have Kp_K8 : Keep h0 h8 [] := Kp_K7.trans K8 all0
  obtain ⟨T9, L9, X9, e9, N9, st9⟩ := g0_7 i0 i1 i2 (1 : Int32) (1 : Int32) (1 : Int32) (1 : Int32) (own_b (i0 &&& (32 : Int32))) (own_b (i0 &&& (64 : Int32))) b5_0 b5_1 b6_0 b7_0 b8_0 wOptional_EMPTY X8 hx hZ hw hby hml hown e8 O_K8 N8 (by decide) (by decide) (by decide) (by decide) B.2.2.2.2.2.2.2.2.2.2.1
  obtain ⟨T10, h10, L10, b10_0, b10_1, X10, e10, N10, K10, lo10_1, lo10_2, nq10_3, f10_4, f10_5, f10_6, f10_7, f10_8, f10_9, f10_10, st10⟩ := g0_13 i0 i1 i2 (0 : Int32) (1 : Int32) (1 : Int32) (1 : Int32) (own_b (i0 &&& (32 : Int32))) (own_b (i0 &&& (64 : Int32))) b5_0 b5_1 b6_0 b7_0 b8_0 wOptional_EMPTY wOptional_EMPTY X9 hx hZ hw hby hml hown e9 O_K8 N9 (by decide) (by decide) (by decide) (by decide) B.2.2.2.2.2.2.2.2.2.2.1
  have O_K10 : Old Z n0 h10 := O_K8.keep K10 all0
  have Kp_K10 : Keep h0 h10 [] := Kp_K8.trans K10 all0
  obtain ⟨T11, L11, X11, e11, N11, st11⟩ := g0_12 i0 i1 i2 (1 : Int32) (1 : Int32) (1 : Int32) (own_b (i0 &&& (32 : Int32))) (own_b (i0 &&& (64 : Int32))) b5_0 b5_1 b6_0 b7_0 b8_0 wOptional_EMPTY b10_0 wRequestState_IN_PROGRESS X10 hx hZ hw hby hml hown e10 O_K10 N10 (by decide) (by decide) (by decide) (by decide) B.2.2.2.2.2.2.2.2.2.2.2.1 B.2.2.2.2.2.2.2.2.2.2.2.2.2.2.2.2.2.1 B.2.2.1
  obtain ⟨fs, hr, hrun, hended, hW, hsame⟩ := X11.leave (v := some (.int (1 : Int32))) (fun h => by rw [Bd.returns] at h; cases h)
  refine ⟨_, _, pre0 _ ?_, hrun, hended, _, _, rfl, ?_, ⟨_, rfl⟩, hW, hsame.mono (by decide) (by decide)⟩
  · refine st1 _ ?_
    show St p e below T1 m 94 #[iv i0, iv i1, iv i2, iv (own_b (i0 &&& (1 : Int32))), iv (own_b (i0 &&& (2 : Int32))), iv (own_b (i0 &&& (4 : Int32))), iv (own_b (i0 &&& (8 : Int32))), iv (own_b (i0 &&& (16 : Int32))), iv (own_b (i0 &&& (32 : Int32))), iv (own_b (i0 &&& (64 : Int32))), .unset, .unset, .unset, .unset, .unset, .unset, .unset, .unset, .unset] [] _
    rw [pin0]
    rw [pin1]
    rw [pin2]
    rw [pin3]
    rw [pin4]
    refine st5 _ ?_
    refine st6 _ ?_
    refine st7 _ ?_
    refine st8 _ ?_
    refine st9 _ ?_
    refine st10 _ ?_
    refine st11 _ ?_
    show St p e below T11 m 320 #[iv i0, iv i1, iv i2, iv (0 : Int32), iv (1 : Int32), iv (1 : Int32), iv (1 : Int32), iv (1 : Int32), iv (own_b (i0 &&& (32 : Int32))), iv (own_b (i0 &&& (64 : Int32))), rv b5_0, rv b5_1, rv b6_0, rv b7_0, rv b8_0, rv wOptional_EMPTY, rv b10_0, rv wRequestState_IN_PROGRESS, rv wRequestState_IN_PROGRESS] [(.int (1 : Int32))] _
    exact retN X11 hx (t := .boolean) Bd.returns (by simp) (hb hby at_320) hr
  · show law_31Q Z wRequestState_UNKNOWN wRequestState_IN_PROGRESS wRequestState_REMOVED wRequestState_DONE wRequestState_FAILED wOptional_EMPTY wIntegerCache_cache zCOMPACT_STRINGS clC i0 i1 i2 h0 n0 _ T11.heap _
    rw [e11]
    exact ⟨rfl, N11⟩
def law_32Q (Z : State) (wRequestState_UNKNOWN : Addr) (wRequestState_IN_PROGRESS : Addr) (wRequestState_REMOVED : Addr) (wRequestState_DONE : Addr) (wRequestState_FAILED : Addr) (wOptional_EMPTY : Addr) (wIntegerCache_cache : Addr) (zCOMPACT_STRINGS : Int32) (clC : Cell) (i0 : Int32) (i1 : Int32) (i2 : Int32) (h0 : Heap) (n0 : Nat) (v : Option Value) (h : Heap) (L : List Loc) : Prop := v = some (.int (1 : Int32)) ∧ Fr n0 L
theorem law_32e (m : MethodId) (wRequestState_UNKNOWN : Addr) (wRequestState_IN_PROGRESS : Addr) (wRequestState_REMOVED : Addr) (wRequestState_DONE : Addr) (wRequestState_FAILED : Addr) (wOptional_EMPTY : Addr) (wIntegerCache_cache : Addr) (zCOMPACT_STRINGS : Int32) (clC : Cell) (i0 : Int32) (i1 : Int32) (i2 : Int32) : entryFrame m #[(.int i0), (.int i1), (.int i2)] maxLocals = mkF m 0 #[iv i0, iv i1, iv i2, .unset, .unset, .unset, .unset, .unset, .unset, .unset, .unset, .unset, .unset, .unset, .unset, .unset, .unset, .unset, .unset] [] := by first | (simp [entryFrame, mkF, argsToLocals, Value.category, maxLocals]; done) | rfl
set_option maxRecDepth 65536 in
set_option maxHeartbeats 40000000 in
theorem law_32 (l : Launch) (Z : State) (a0 : Array Value) (hw : HW a0 Z) (ws : List Jvm.Cond) (wRequestState_UNKNOWN : Addr) (wRequestState_IN_PROGRESS : Addr) (wRequestState_REMOVED : Addr) (wRequestState_DONE : Addr) (wRequestState_FAILED : Addr) (wOptional_EMPTY : Addr) (wIntegerCache_cache : Addr) (zCOMPACT_STRINGS : Int32) (clC : Cell) (B : Base Z wRequestState_UNKNOWN wRequestState_IN_PROGRESS wRequestState_REMOVED wRequestState_DONE wRequestState_FAILED wOptional_EMPTY wIntegerCache_cache zCOMPACT_STRINGS clC) (i0 : Int32) (i1 : Int32) (i2 : Int32) (h0 : Heap) (n0 : Nat) (O0 : Old Z n0 h0) (pin0 : (own_b (i0 &&& (1 : Int32))) = (1 : Int32)) (pin1 : (own_b (i0 &&& (2 : Int32))) = (1 : Int32)) (pin2 : (own_b (i0 &&& (4 : Int32))) = (1 : Int32)) (pin3 : (own_b (i0 &&& (8 : Int32))) = (1 : Int32)) (pin4 : (own_b (i0 &&& (16 : Int32))) = (1 : Int32)) (hc3 : ¬ ((255 : Int32) < ((i1 &&& (255 : Int32)).toUInt32.toUInt16.toUInt32.toInt32))) (hc4 : ¬ ((255 : Int32) < ((i2 &&& (255 : Int32)).toUInt32.toUInt16.toUInt32.toInt32))) :
    MetFree l x (head1 (Jvm.Cond.code x code maxLocals ret :: ws) room_1) (fun a U => a = #[(.int i0), (.int i1), (.int i2)] ∧ Z.Warmed39 U.vm ∧ U.heap = h0) (fun _ _ _ _ _ => True) (fun _ U o U' => ∃ v L, o = .returned v ∧ law_32Q Z wRequestState_UNKNOWN wRequestState_IN_PROGRESS wRequestState_REMOVED wRequestState_DONE wRequestState_FAILED wOptional_EMPTY wIntegerCache_cache zCOMPACT_STRINGS clC i0 i1 i2 h0 n0 v U'.heap L ∧ FrameEnd U o U' L room_1.cells room_1.slots) := by
  refine MetFree.of_bodySF (plainFor_of_name pn_com_example_agave_agave_store_RequestStateOfPinLaw) hisR ?_
  intro p e s m args below meth c s₁ Bd hml0 hP hK
  obtain ⟨rfl, hZ, hh⟩ := hP
  have hx := Bd.exec
  have hby := Bd.bytes
  have hml : c.maxLocals = 19 := hml0
  have hown : s.vm.findClass "com/example/agave/agave/store/RequestStateOfPinLaw" = some m.cls := findClass_of_methodNamed Bd.named
  have hnm := (name_of_methodNamed Bd.named Bd.method).1
  have X0 : Stand p l e room_1 s m #[(.int i0), (.int i1), (.int i2)] below meth c s₁ [] 0 0 := Stand.of_body Bd
  have e0 : s₁.heap = h0 := by rw [← hh, Bd.state]; rfl
  have N0 := Fr.nil n0
  have pre0 : ∀ t, Steps p.tables e below (s₁.setTop (mkF m 0 #[iv i0, iv i1, iv i2, .unset, .unset, .unset, .unset, .unset, .unset, .unset, .unset, .unset, .unset, .unset, .unset, .unset, .unset, .unset, .unset] [])) t → Steps p.tables e below (s₁.setTop (entryFrame m #[(.int i0), (.int i1), (.int i2)] maxLocals)) t := fun t k => castTop (law_32e m wRequestState_UNKNOWN wRequestState_IN_PROGRESS wRequestState_REMOVED wRequestState_DONE wRequestState_FAILED wOptional_EMPTY wIntegerCache_cache zCOMPACT_STRINGS clC i0 i1 i2) k
  obtain ⟨T1, L1, X1, e1, N1, st1⟩ := g0_1 i0 i1 i2 X0 hx hZ hw hby hml hown e0 O0 N0 (by decide) (by decide) (by decide) (by decide)
  obtain ⟨T5, h5, L5, b5_0, b5_1, b5_2, b5_3, k5_0, k5_1, X5, e5, N5, K5, lo5_1, lo5_2, lo5_3, lo5_4, nq5_5, nq5_6, nq5_7, nq5_8, nq5_9, nq5_10, f5_11, f5_12, f5_13, f5_14, f5_15, f5_16, f5_17, f5_18, f5_19, f5_20, st5⟩ := g0_2 i0 i1 i2 (1 : Int32) (1 : Int32) (1 : Int32) (1 : Int32) (1 : Int32) (own_b (i0 &&& (32 : Int32))) (own_b (i0 &&& (64 : Int32))) zCOMPACT_STRINGS X1 hx hZ hw hby hml hown e1 O0 N1 (by decide) (by decide) (by decide) (by decide) B.2.2.2.2.2.2.2.2.2.2.2.2.2.2.2.1 B.2.2.2.2.2.2.2.2.2.2.2.2.2.2.2.2.1 hc3 hc4
  have O_K5 : Old Z n0 h5 := O0.keep K5 all0
  have Kp_K5 : Keep h0 h5 [] := (Keep.refl h0 []).trans K5 all0
  obtain ⟨T6, h6, L6, b6_0, X6, e6, N6, K6, lo6_1, f6_2, f6_3, st6⟩ := g0_15 i0 i1 i2 (1 : Int32) (1 : Int32) (1 : Int32) (1 : Int32) (own_b (i0 &&& (32 : Int32))) (own_b (i0 &&& (64 : Int32))) b5_0 b5_1 wOptional_EMPTY X5 hx hZ hw hby hml hown e5 O_K5 N5 (by decide) (by decide) (by decide) (by decide) B.2.2.2.2.2.2.2.2.2.2.1
  have O_K6 : Old Z n0 h6 := O_K5.keep K6 all0
  have Kp_K6 : Keep h0 h6 [] := Kp_K5.trans K6 all0
  obtain ⟨T7, h7, L7, b7_0, X7, e7, N7, K7, lo7_1, f7_2, f7_3, st7⟩ := g0_17 i0 i1 i2 (1 : Int32) (1 : Int32) (1 : Int32) (1 : Int32) (own_b (i0 &&& (32 : Int32))) (own_b (i0 &&& (64 : Int32))) b5_0 b5_1 b6_0 wOptional_EMPTY X6 hx hZ hw hby hml hown e6 O_K6 N6 (by decide) (by decide) (by decide) (by decide) B.2.2.2.2.2.2.2.2.2.2.1
  have O_K7 : Old Z n0 h7 := O_K6.keep K7 all0
  have Kp_K7 : Keep h0 h7 [] := Kp_K6.trans K7 all0
  obtain ⟨T8, h8, L8, b8_0, X8, e8, N8, K8, st8⟩ := m0_1 i0 i1 i2 (1 : Int32) (1 : Int32) (1 : Int32) (1 : Int32) (1 : Int32) (own_b (i0 &&& (32 : Int32))) (own_b (i0 &&& (64 : Int32))) b5_0 b5_1 b6_0 b7_0 wOptional_EMPTY wIntegerCache_cache clC X7 hx hZ hw hby hml hown e7 O_K7 N7 (by decide) (by decide) (by decide) (by decide) B.2.2.2.2.2.2.2.2.2.2.1 B.2.2.2.2.2.2.2.2.2.2.1 B.2.2.2.2.2.2.2.2.2.2.2.2.1 B.2.2.2.2.2.2.2.2.2.2.2.2.2.1 B.2.2.2.2.2.2.2.2.2.2.2.2.2.2.2.2.2.2.2.2.2.2.2.2.2.2.2.2.2.1 B.2.2.2.2.2.2.2.2.2.2.2.2.2.2.2.2.2.2.2.2.2.2.2.2.2.2.2.2.2.2.1 B.2.2.2.2.2.2.2.2.2.2.2.2.2.2.2.2.2.2.2.2.2.2.2.2.2.2.2.2.2.2.2
  have O_K8 : Old Z n0 h8 := O_K7.keep K8 all0
  have Kp_K8 : Keep h0 h8 [] := Kp_K7.trans K8 all0
  obtain ⟨T9, h9, L9, b9_0, b9_1, X9, e9, N9, K9, lo9_1, lo9_2, nq9_3, f9_4, f9_5, f9_6, f9_7, f9_8, f9_9, f9_10, f9_11, st9⟩ := g0_10 i0 i1 i2 (1 : Int32) (1 : Int32) (1 : Int32) (1 : Int32) (own_b (i0 &&& (32 : Int32))) (own_b (i0 &&& (64 : Int32))) b5_0 b5_1 b6_0 b7_0 b8_0 wOptional_EMPTY X8 hx hZ hw hby hml hown e8 O_K8 N8 (by decide) (by decide) (by decide) (by decide) B.2.2.2.2.2.2.2.2.2.2.1
  have O_K9 : Old Z n0 h9 := O_K8.keep K9 all0
  have Kp_K9 : Keep h0 h9 [] := Kp_K8.trans K9 all0
  obtain ⟨T10, h10, L10, b10_0, b10_1, X10, e10, N10, K10, lo10_1, lo10_2, nq10_3, f10_4, f10_5, f10_6, f10_7, f10_8, f10_9, f10_10, st10⟩ := g0_13 i0 i1 i2 (1 : Int32) (1 : Int32) (1 : Int32) (1 : Int32) (own_b (i0 &&& (32 : Int32))) (own_b (i0 &&& (64 : Int32))) b5_0 b5_1 b6_0 b7_0 b8_0 b9_0 wOptional_EMPTY X9 hx hZ hw hby hml hown e9 O_K9 N9 (by decide) (by decide) (by decide) (by decide) B.2.2.2.2.2.2.2.2.2.2.1
  have O_K10 : Old Z n0 h10 := O_K9.keep K10 all0
  have Kp_K10 : Keep h0 h10 [] := Kp_K9.trans K10 all0
  have f11 := (f9_4.keep K10)
  have f12 := (f9_5.keep K10 nin0)
  have f13 := (f9_6.keep K10)
  have f14 := (f9_10.keep K10 nin0)
  have f15 := (((f7_2.keep K8).keep K9).keep K10)
  have f16 := (((f7_3.keep K8 nin0).keep K9 nin0).keep K10 nin0)
  obtain ⟨T17, L17, X17, e17, N17, st17⟩ := g0_18 i0 i1 i2 (1 : Int32) (1 : Int32) (1 : Int32) (own_b (i0 &&& (32 : Int32))) (own_b (i0 &&& (64 : Int32))) b5_0 b5_1 b6_0 b7_0 b8_0 b9_0 b10_0 b9_1 b7_0 b5_1 wRequestState_FAILED X10 hx hZ hw hby hml hown e10 O_K10 N10 (by decide) (by decide) (by decide) (by decide) f11 f12 f13 f14 f15 f16 B.2.2.2.2.2.2.2.2.1
  obtain ⟨fs, hr, hrun, hended, hW, hsame⟩ := X17.leave (v := some (.int (1 : Int32))) (fun h => by rw [Bd.returns] at h; cases h)
  refine ⟨_, _, pre0 _ ?_, hrun, hended, _, _, rfl, ?_, ⟨_, rfl⟩, hW, hsame.mono (by decide) (by decide)⟩
  · refine st1 _ ?_
    show St p e below T1 m 94 #[iv i0, iv i1, iv i2, iv (own_b (i0 &&& (1 : Int32))), iv (own_b (i0 &&& (2 : Int32))), iv (own_b (i0 &&& (4 : Int32))), iv (own_b (i0 &&& (8 : Int32))), iv (own_b (i0 &&& (16 : Int32))), iv (own_b (i0 &&& (32 : Int32))), iv (own_b (i0 &&& (64 : Int32))), .unset, .unset, .unset, .unset, .unset, .unset, .unset, .unset, .unset] [] _
    rw [pin0]
    rw [pin1]
    rw [pin2]
    rw [pin3]
    rw [pin4]
    refine st5 _ ?_
    refine st6 _ ?_
    refine st7 _ ?_
    refine st8 _ ?_
    refine st9 _ ?_
    refine st10 _ ?_
    refine st17 _ ?_
    show St p e below T17 m 320 #[iv i0, iv i1, iv i2, iv (1 : Int32), iv (1 : Int32), iv (1 : Int32), iv (1 : Int32), iv (1 : Int32), iv (own_b (i0 &&& (32 : Int32))), iv (own_b (i0 &&& (64 : Int32))), rv b5_0, rv b5_1, rv b6_0, rv b7_0, rv b8_0, rv b9_0, rv b10_0, rv wRequestState_FAILED, rv wRequestState_FAILED] [(.int (1 : Int32))] _
    exact retN X17 hx (t := .boolean) Bd.returns (by simp) (hb hby at_320) hr
  · show law_32Q Z wRequestState_UNKNOWN wRequestState_IN_PROGRESS wRequestState_REMOVED wRequestState_DONE wRequestState_FAILED wOptional_EMPTY wIntegerCache_cache zCOMPACT_STRINGS clC i0 i1 i2 h0 n0 _ T17.heap _
    rw [e17]
    exact ⟨rfl, N17⟩
theorem own_b01 (x : Int32) : own_b x = (0 : Int32) ∨ own_b x = (1 : Int32) := by
  unfold own_b
  split
  · exact Or.inl rfl
  · exact Or.inr rfl
theorem own_all {args : Array Value} {s : State} {t : Term} {a : Addr} {cl : Cell} {ty : FieldType} {C : String} {d : Jvm.Cond} (ev : ∀ idx, t.eval args s none idx s = some (.ref a)) (A : Arr s s.heap a cl ty) (h31 : cl.slots.size < 2 ^ 31) (h : (Jvm.Cond.all t (.and (.exactly (.elem t (.index 0)) C) d)).value args s none s [] = some true) {j : Int32} (hj : ¬ (j < 0 ∨ cl.slots.size ≤ j.toNatClampNeg)) : ∃ r : Addr, cl.slots[j.toNatClampNeg]? = some (.ref r) := by
  have q := A.fin (Vm.Alike.refl _)
  have hlt : j.toNatClampNeg < cl.slots.size := Nat.lt_of_not_le fun z => hj (Or.inr z)
  have hv := Cond.all_elim (ev []) q h j.toNatClampNeg hlt
  obtain ⟨h1, -⟩ := and_e hv
  obtain ⟨r, hr⟩ := exa_v h1
  have hi : (Term.index 0).eval args s none [j.toNatClampNeg] s = some (.int j) := by
    show some (Value.int j.toNatClampNeg.toInt32) = _
    rw [(back32 fun z => hj (Or.inl z)).1]
  exact ⟨r, (elem_in hr (ev _) hi A.1).2⟩
theorem own_enc (x : Int32) : ¬ ((255 : Int32) < ((x &&& (255 : Int32)).toUInt32.toUInt16.toUInt32.toInt32)) := by
  have a := c_mask x 255 8 (by decide) (by decide)
  have b := c_i2c (x &&& 255)
  have e : (255 : Int32).toInt = 255 := by decide
  rw [Int32.lt_iff_toInt_lt, e]
  omega
theorem all_roads (l : Launch) (Z : State) (a0 : Array Value) (hw : ∀ d ∈ tables_1, d.before a0 Z = true) (ws : List Jvm.Cond) (wRequestState_UNKNOWN : Addr) (wRequestState_IN_PROGRESS : Addr) (wRequestState_REMOVED : Addr) (wRequestState_DONE : Addr) (wRequestState_FAILED : Addr) (wOptional_EMPTY : Addr) (wIntegerCache_cache : Addr) (zCOMPACT_STRINGS : Int32) (clC : Cell) (B : Base Z wRequestState_UNKNOWN wRequestState_IN_PROGRESS wRequestState_REMOVED wRequestState_DONE wRequestState_FAILED wOptional_EMPTY wIntegerCache_cache zCOMPACT_STRINGS clC) (i0 : Int32) (i1 : Int32) (i2 : Int32) (h0 : Heap) (n0 : Nat) (O0 : Old Z n0 h0) :
    MetFree l x (head1 (Jvm.Cond.code x code maxLocals ret :: ws) room_1) (fun a U => a = #[(.int i0), (.int i1), (.int i2)] ∧ Z.Warmed39 U.vm ∧ U.heap = h0) (fun _ _ _ _ _ => True) (fun _ U o U' => ∃ v L, o = .returned v ∧ (v = some (.int (1 : Int32)) ∧ Fr n0 L) ∧ FrameEnd U o U' L room_1.cells room_1.slots) := by
  have e1 := own_enc i1
  have e2 := own_enc i2
  rcases own_b01 (i0 &&& (1 : Int32)) with p1 | p1
  · rcases own_b01 (i0 &&& (2 : Int32)) with p2 | p2
    · rcases own_b01 (i0 &&& (4 : Int32)) with p4 | p4
      · rcases own_b01 (i0 &&& (8 : Int32)) with p8 | p8
        · rcases own_b01 (i0 &&& (16 : Int32)) with p16 | p16
          · exact law_1 l Z a0 hw ws wRequestState_UNKNOWN wRequestState_IN_PROGRESS wRequestState_REMOVED wRequestState_DONE wRequestState_FAILED wOptional_EMPTY wIntegerCache_cache zCOMPACT_STRINGS clC B i0 i1 i2 h0 n0 O0 p1 p2 p4 p8 p16 e1 e2
          · exact law_17 l Z a0 hw ws wRequestState_UNKNOWN wRequestState_IN_PROGRESS wRequestState_REMOVED wRequestState_DONE wRequestState_FAILED wOptional_EMPTY wIntegerCache_cache zCOMPACT_STRINGS clC B i0 i1 i2 h0 n0 O0 p1 p2 p4 p8 p16 e1 e2
        · rcases own_b01 (i0 &&& (16 : Int32)) with p16 | p16
          · exact law_9 l Z a0 hw ws wRequestState_UNKNOWN wRequestState_IN_PROGRESS wRequestState_REMOVED wRequestState_DONE wRequestState_FAILED wOptional_EMPTY wIntegerCache_cache zCOMPACT_STRINGS clC B i0 i1 i2 h0 n0 O0 p1 p2 p4 p8 p16 e1 e2
          · exact law_25 l Z a0 hw ws wRequestState_UNKNOWN wRequestState_IN_PROGRESS wRequestState_REMOVED wRequestState_DONE wRequestState_FAILED wOptional_EMPTY wIntegerCache_cache zCOMPACT_STRINGS clC B i0 i1 i2 h0 n0 O0 p1 p2 p4 p8 p16 e1 e2
      · rcases own_b01 (i0 &&& (8 : Int32)) with p8 | p8
        · rcases own_b01 (i0 &&& (16 : Int32)) with p16 | p16
          · exact law_5 l Z a0 hw ws wRequestState_UNKNOWN wRequestState_IN_PROGRESS wRequestState_REMOVED wRequestState_DONE wRequestState_FAILED wOptional_EMPTY wIntegerCache_cache zCOMPACT_STRINGS clC B i0 i1 i2 h0 n0 O0 p1 p2 p4 p8 p16 e1 e2
          · exact law_21 l Z a0 hw ws wRequestState_UNKNOWN wRequestState_IN_PROGRESS wRequestState_REMOVED wRequestState_DONE wRequestState_FAILED wOptional_EMPTY wIntegerCache_cache zCOMPACT_STRINGS clC B i0 i1 i2 h0 n0 O0 p1 p2 p4 p8 p16 e1 e2
        · rcases own_b01 (i0 &&& (16 : Int32)) with p16 | p16
          · exact law_13 l Z a0 hw ws wRequestState_UNKNOWN wRequestState_IN_PROGRESS wRequestState_REMOVED wRequestState_DONE wRequestState_FAILED wOptional_EMPTY wIntegerCache_cache zCOMPACT_STRINGS clC B i0 i1 i2 h0 n0 O0 p1 p2 p4 p8 p16 e1 e2
          · exact law_29 l Z a0 hw ws wRequestState_UNKNOWN wRequestState_IN_PROGRESS wRequestState_REMOVED wRequestState_DONE wRequestState_FAILED wOptional_EMPTY wIntegerCache_cache zCOMPACT_STRINGS clC B i0 i1 i2 h0 n0 O0 p1 p2 p4 p8 p16 e1 e2
    · rcases own_b01 (i0 &&& (4 : Int32)) with p4 | p4
      · rcases own_b01 (i0 &&& (8 : Int32)) with p8 | p8
        · rcases own_b01 (i0 &&& (16 : Int32)) with p16 | p16
          · exact law_3 l Z a0 hw ws wRequestState_UNKNOWN wRequestState_IN_PROGRESS wRequestState_REMOVED wRequestState_DONE wRequestState_FAILED wOptional_EMPTY wIntegerCache_cache zCOMPACT_STRINGS clC B i0 i1 i2 h0 n0 O0 p1 p2 p4 p8 p16 e1 e2
          · exact law_19 l Z a0 hw ws wRequestState_UNKNOWN wRequestState_IN_PROGRESS wRequestState_REMOVED wRequestState_DONE wRequestState_FAILED wOptional_EMPTY wIntegerCache_cache zCOMPACT_STRINGS clC B i0 i1 i2 h0 n0 O0 p1 p2 p4 p8 p16 e1 e2
        · rcases own_b01 (i0 &&& (16 : Int32)) with p16 | p16
          · exact law_11 l Z a0 hw ws wRequestState_UNKNOWN wRequestState_IN_PROGRESS wRequestState_REMOVED wRequestState_DONE wRequestState_FAILED wOptional_EMPTY wIntegerCache_cache zCOMPACT_STRINGS clC B i0 i1 i2 h0 n0 O0 p1 p2 p4 p8 p16 e1 e2
          · exact law_27 l Z a0 hw ws wRequestState_UNKNOWN wRequestState_IN_PROGRESS wRequestState_REMOVED wRequestState_DONE wRequestState_FAILED wOptional_EMPTY wIntegerCache_cache zCOMPACT_STRINGS clC B i0 i1 i2 h0 n0 O0 p1 p2 p4 p8 p16 e1 e2
      · rcases own_b01 (i0 &&& (8 : Int32)) with p8 | p8
        · rcases own_b01 (i0 &&& (16 : Int32)) with p16 | p16
          · exact law_7 l Z a0 hw ws wRequestState_UNKNOWN wRequestState_IN_PROGRESS wRequestState_REMOVED wRequestState_DONE wRequestState_FAILED wOptional_EMPTY wIntegerCache_cache zCOMPACT_STRINGS clC B i0 i1 i2 h0 n0 O0 p1 p2 p4 p8 p16 e1 e2
          · exact law_23 l Z a0 hw ws wRequestState_UNKNOWN wRequestState_IN_PROGRESS wRequestState_REMOVED wRequestState_DONE wRequestState_FAILED wOptional_EMPTY wIntegerCache_cache zCOMPACT_STRINGS clC B i0 i1 i2 h0 n0 O0 p1 p2 p4 p8 p16 e1 e2
        · rcases own_b01 (i0 &&& (16 : Int32)) with p16 | p16
          · exact law_15 l Z a0 hw ws wRequestState_UNKNOWN wRequestState_IN_PROGRESS wRequestState_REMOVED wRequestState_DONE wRequestState_FAILED wOptional_EMPTY wIntegerCache_cache zCOMPACT_STRINGS clC B i0 i1 i2 h0 n0 O0 p1 p2 p4 p8 p16 e1 e2
          · exact law_31 l Z a0 hw ws wRequestState_UNKNOWN wRequestState_IN_PROGRESS wRequestState_REMOVED wRequestState_DONE wRequestState_FAILED wOptional_EMPTY wIntegerCache_cache zCOMPACT_STRINGS clC B i0 i1 i2 h0 n0 O0 p1 p2 p4 p8 p16 e1 e2
  · rcases own_b01 (i0 &&& (2 : Int32)) with p2 | p2
    · rcases own_b01 (i0 &&& (4 : Int32)) with p4 | p4
      · rcases own_b01 (i0 &&& (8 : Int32)) with p8 | p8
        · rcases own_b01 (i0 &&& (16 : Int32)) with p16 | p16
          · exact law_2 l Z a0 hw ws wRequestState_UNKNOWN wRequestState_IN_PROGRESS wRequestState_REMOVED wRequestState_DONE wRequestState_FAILED wOptional_EMPTY wIntegerCache_cache zCOMPACT_STRINGS clC B i0 i1 i2 h0 n0 O0 p1 p2 p4 p8 p16 e1 e2
          · exact law_18 l Z a0 hw ws wRequestState_UNKNOWN wRequestState_IN_PROGRESS wRequestState_REMOVED wRequestState_DONE wRequestState_FAILED wOptional_EMPTY wIntegerCache_cache zCOMPACT_STRINGS clC B i0 i1 i2 h0 n0 O0 p1 p2 p4 p8 p16 e1 e2
        · rcases own_b01 (i0 &&& (16 : Int32)) with p16 | p16
          · exact law_10 l Z a0 hw ws wRequestState_UNKNOWN wRequestState_IN_PROGRESS wRequestState_REMOVED wRequestState_DONE wRequestState_FAILED wOptional_EMPTY wIntegerCache_cache zCOMPACT_STRINGS clC B i0 i1 i2 h0 n0 O0 p1 p2 p4 p8 p16 e1 e2
          · exact law_26 l Z a0 hw ws wRequestState_UNKNOWN wRequestState_IN_PROGRESS wRequestState_REMOVED wRequestState_DONE wRequestState_FAILED wOptional_EMPTY wIntegerCache_cache zCOMPACT_STRINGS clC B i0 i1 i2 h0 n0 O0 p1 p2 p4 p8 p16 e1 e2
      · rcases own_b01 (i0 &&& (8 : Int32)) with p8 | p8
        · rcases own_b01 (i0 &&& (16 : Int32)) with p16 | p16
          · exact law_6 l Z a0 hw ws wRequestState_UNKNOWN wRequestState_IN_PROGRESS wRequestState_REMOVED wRequestState_DONE wRequestState_FAILED wOptional_EMPTY wIntegerCache_cache zCOMPACT_STRINGS clC B i0 i1 i2 h0 n0 O0 p1 p2 p4 p8 p16 e1 e2
          · exact law_22 l Z a0 hw ws wRequestState_UNKNOWN wRequestState_IN_PROGRESS wRequestState_REMOVED wRequestState_DONE wRequestState_FAILED wOptional_EMPTY wIntegerCache_cache zCOMPACT_STRINGS clC B i0 i1 i2 h0 n0 O0 p1 p2 p4 p8 p16 e1 e2
        · rcases own_b01 (i0 &&& (16 : Int32)) with p16 | p16
          · exact law_14 l Z a0 hw ws wRequestState_UNKNOWN wRequestState_IN_PROGRESS wRequestState_REMOVED wRequestState_DONE wRequestState_FAILED wOptional_EMPTY wIntegerCache_cache zCOMPACT_STRINGS clC B i0 i1 i2 h0 n0 O0 p1 p2 p4 p8 p16 e1 e2
          · exact law_30 l Z a0 hw ws wRequestState_UNKNOWN wRequestState_IN_PROGRESS wRequestState_REMOVED wRequestState_DONE wRequestState_FAILED wOptional_EMPTY wIntegerCache_cache zCOMPACT_STRINGS clC B i0 i1 i2 h0 n0 O0 p1 p2 p4 p8 p16 e1 e2
    · rcases own_b01 (i0 &&& (4 : Int32)) with p4 | p4
      · rcases own_b01 (i0 &&& (8 : Int32)) with p8 | p8
        · rcases own_b01 (i0 &&& (16 : Int32)) with p16 | p16
          · exact law_4 l Z a0 hw ws wRequestState_UNKNOWN wRequestState_IN_PROGRESS wRequestState_REMOVED wRequestState_DONE wRequestState_FAILED wOptional_EMPTY wIntegerCache_cache zCOMPACT_STRINGS clC B i0 i1 i2 h0 n0 O0 p1 p2 p4 p8 p16 e1 e2
          · exact law_20 l Z a0 hw ws wRequestState_UNKNOWN wRequestState_IN_PROGRESS wRequestState_REMOVED wRequestState_DONE wRequestState_FAILED wOptional_EMPTY wIntegerCache_cache zCOMPACT_STRINGS clC B i0 i1 i2 h0 n0 O0 p1 p2 p4 p8 p16 e1 e2
        · rcases own_b01 (i0 &&& (16 : Int32)) with p16 | p16
          · exact law_12 l Z a0 hw ws wRequestState_UNKNOWN wRequestState_IN_PROGRESS wRequestState_REMOVED wRequestState_DONE wRequestState_FAILED wOptional_EMPTY wIntegerCache_cache zCOMPACT_STRINGS clC B i0 i1 i2 h0 n0 O0 p1 p2 p4 p8 p16 e1 e2
          · exact law_28 l Z a0 hw ws wRequestState_UNKNOWN wRequestState_IN_PROGRESS wRequestState_REMOVED wRequestState_DONE wRequestState_FAILED wOptional_EMPTY wIntegerCache_cache zCOMPACT_STRINGS clC B i0 i1 i2 h0 n0 O0 p1 p2 p4 p8 p16 e1 e2
      · rcases own_b01 (i0 &&& (8 : Int32)) with p8 | p8
        · rcases own_b01 (i0 &&& (16 : Int32)) with p16 | p16
          · exact law_8 l Z a0 hw ws wRequestState_UNKNOWN wRequestState_IN_PROGRESS wRequestState_REMOVED wRequestState_DONE wRequestState_FAILED wOptional_EMPTY wIntegerCache_cache zCOMPACT_STRINGS clC B i0 i1 i2 h0 n0 O0 p1 p2 p4 p8 p16 e1 e2
          · exact law_24 l Z a0 hw ws wRequestState_UNKNOWN wRequestState_IN_PROGRESS wRequestState_REMOVED wRequestState_DONE wRequestState_FAILED wOptional_EMPTY wIntegerCache_cache zCOMPACT_STRINGS clC B i0 i1 i2 h0 n0 O0 p1 p2 p4 p8 p16 e1 e2
        · rcases own_b01 (i0 &&& (16 : Int32)) with p16 | p16
          · exact law_16 l Z a0 hw ws wRequestState_UNKNOWN wRequestState_IN_PROGRESS wRequestState_REMOVED wRequestState_DONE wRequestState_FAILED wOptional_EMPTY wIntegerCache_cache zCOMPACT_STRINGS clC B i0 i1 i2 h0 n0 O0 p1 p2 p4 p8 p16 e1 e2
          · exact law_32 l Z a0 hw ws wRequestState_UNKNOWN wRequestState_IN_PROGRESS wRequestState_REMOVED wRequestState_DONE wRequestState_FAILED wOptional_EMPTY wIntegerCache_cache zCOMPACT_STRINGS clC B i0 i1 i2 h0 n0 O0 p1 p2 p4 p8 p16 e1 e2
set_option maxRecDepth 65536 in
set_option maxHeartbeats 40000000 in
theorem comes_1 {Post : Tables → Env → Array Value → State → Outcome → State → Prop} (hpost : ∀ tb e args s v u, (limb_1_1.after args s (.returned v) u = true ∧ limb_1_2.after args s (.returned v) u = true ∧ True) → FrameEnd s (.returned v) u (Jvm.fieldLocs frame_1_writes args s ++ Jvm.arrayLocs frame_1_arrays args s ++ Jvm.staticLocs frame_1_statics s) 32 128 → Post tb e args s (.returned v) u) :
    ArmFor flags0 classFile x code maxLocals ret World_1 tables_1 room_1 Calls_1 rest_1 Pre_1 Post := by
  intro l hfl _ _ p e ha hc hk s m args below hf hA hF happ hP
  obtain ⟨hcalls, hrest, hpre⟩ := hP
  obtain ⟨-, -, -, hnamed, -, -, -, hat⟩ := (Spec.applies_iff hf).mp happ
  obtain ⟨hg, hn⟩ := and_e (Cond.before_iff.mp (show (Jvm.Cond.and given_1 narrow_1).before args s = true from hpre))
  obtain ⟨gg1, gg2⟩ := and_e hg
  obtain ⟨gg3, gg4⟩ := and_e gg2
  obtain ⟨gg5, gg6⟩ := and_e gg4
  obtain ⟨w0, w1, w2, rfl⟩ : ∃ w0 w1 w2 : Value, args = #[w0, w1, w2] := by
    have hs : args.size = 3 := by simpa [Cond.value, given_1] using gg1
    obtain ⟨L⟩ := args
    match L, hs with
    | [w0, w1, w2], _ => exact ⟨w0, w1, w2, rfl⟩
  have hw := fun d (hd : d ∈ tables_1) => atoms_spec (ws := Jvm.Cond.code x code maxLocals ret :: tables_1) hat d (List.mem_cons_of_mem _ hd)
  have hfit : Fit s := fun {y c} hc i hi => by
    obtain ⟨ha, rfl⟩ := Array.getElem?_eq_some_iff.mp hc
    have q := List.all_eq_true.mp ((Array.all_eq_true_iff_forall_mem.mp hF) _ (Array.getElem_mem ha)) i (List.mem_range.mpr hi)
    simpa [Array.getElem?_eq_getElem hi] using q
  obtain ⟨hsets, hown0⟩ := atoms_of _ (rest_1_c_eq ▸ (show rest_1_c.before _ s = true from hrest))
  obtain ⟨i0, ei0⟩ := is_v gg3
  obtain rfl : w0 = (.int i0) := Option.some.inj ei0
  obtain ⟨i1, ei1⟩ := is_v gg5
  obtain rfl : w1 = (.int i1) := Option.some.inj ei1
  obtain ⟨i2, ei2⟩ := is_v gg6
  obtain rfl : w2 = (.int i2) := Option.some.inj ei2
  obtain ⟨nr1, hn⟩ := and_e hn
  obtain ⟨nr2, hn⟩ := and_e hn
  obtain ⟨nr3, hn⟩ := and_e hn
  obtain ⟨nr4, hn⟩ := and_e hn
  have nr5 := hn
  obtain ⟨wRequestState_UNKNOWN, ev_wRequestState_UNKNOWN⟩ := exa_v nr1
  obtain ⟨wRequestState_IN_PROGRESS, ev_wRequestState_IN_PROGRESS⟩ := exa_v nr2
  obtain ⟨wRequestState_REMOVED, ev_wRequestState_REMOVED⟩ := exa_v nr3
  obtain ⟨wRequestState_DONE, ev_wRequestState_DONE⟩ := exa_v nr4
  obtain ⟨wRequestState_FAILED, ev_wRequestState_FAILED⟩ := exa_v nr5
  obtain ⟨wOptional_EMPTY, ev_wOptional_EMPTY⟩ := exa_v (Cond.before_iff.mp (hsets _ (List.mem_of_getElem? (i := 11) rfl)))
  obtain ⟨wIntegerCache_cache, ev_wIntegerCache_cache⟩ := exa_v (Cond.before_iff.mp (hsets _ (List.mem_of_getElem? (i := 18) rfl)))
  obtain ⟨zCOMPACT_STRINGS, ev_zCOMPACT_STRINGS⟩ := is_v (Cond.before_iff.mp (hsets _ (List.mem_of_getElem? (i := 1) rfl)))
  have fz_wOptional_EMPTY_value := null_v (Cond.before_iff.mp (hsets _ (List.mem_of_getElem? (i := 12) rfl)))
  rw [fld_at ev_wOptional_EMPTY] at fz_wOptional_EMPTY_value
  obtain ⟨clC, ArC⟩ := Arr.start ev_wIntegerCache_cache (Cond.before_iff.mp (hsets _ (List.mem_of_getElem? (i := 17) rfl)))
  have lenC := own_len ev_wIntegerCache_cache ArC (Cond.before_iff.mp (hsets _ (List.mem_of_getElem? (i := 19) rfl)))
  have szC : clC.slots.size = 256 := by
    have := congrArg Int32.toInt lenC.2
    rw [len_toInt lenC.1] at this
    have e : (256 : Int32).toInt = 256 := by decide
    omega
  have elC : ∀ j : Int32, ¬ (j < 0 ∨ clC.slots.size ≤ j.toNatClampNeg) → ∃ r : Addr, clC.slots[j.toNatClampNeg]? = some (.ref r) := fun j hj => own_all (fun _ => ev_wIntegerCache_cache) ArC lenC.1 (Cond.before_iff.mp (hsets _ (List.mem_of_getElem? (i := 20) rfl))) hj
  have hB : Base s wRequestState_UNKNOWN wRequestState_IN_PROGRESS wRequestState_REMOVED wRequestState_DONE wRequestState_FAILED wOptional_EMPTY wIntegerCache_cache zCOMPACT_STRINGS clC := ⟨Sta.start ev_wRequestState_UNKNOWN (Or.inr ⟨(ow hw 33 rfl), (ow hw 48 rfl)⟩), Exa.start ev_wRequestState_UNKNOWN nr1, Sta.start ev_wRequestState_IN_PROGRESS (Or.inr ⟨(ow hw 33 rfl), (ow hw 104 rfl)⟩), Exa.start ev_wRequestState_IN_PROGRESS nr2, Sta.start ev_wRequestState_REMOVED (Or.inr ⟨(ow hw 33 rfl), (ow hw 122 rfl)⟩), Exa.start ev_wRequestState_REMOVED nr3, Sta.start ev_wRequestState_DONE (Or.inr ⟨(ow hw 33 rfl), (ow hw 125 rfl)⟩), Exa.start ev_wRequestState_DONE nr4, Sta.start ev_wRequestState_FAILED (Or.inr ⟨(ow hw 33 rfl), (ow hw 135 rfl)⟩), Exa.start ev_wRequestState_FAILED nr5, Sta.start ev_wOptional_EMPTY (Or.inl (hsets _ (List.mem_of_getElem? (i := 10) rfl))), Exa.start ev_wOptional_EMPTY (Cond.before_iff.mp (hsets _ (List.mem_of_getElem? (i := 11) rfl))), Sta.start (own_sti (Cond.before_iff.mp (hsets _ (List.mem_of_getElem? (i := 16) rfl)))) (Or.inl (hsets _ (List.mem_of_getElem? (i := 14) rfl))), Sta.start ev_wIntegerCache_cache (Or.inr ⟨(ow hw 132 rfl), (hsets _ (List.mem_of_getElem? (i := 15) rfl))⟩), Exa.start ev_wIntegerCache_cache (Cond.before_iff.mp (hsets _ (List.mem_of_getElem? (i := 18) rfl))), Sta.start ev_zCOMPACT_STRINGS (Or.inl (hsets _ (List.mem_of_getElem? (i := 0) rfl))), gotF (Cond.eq_ints ev_zCOMPACT_STRINGS (Term.int_eval 0)) (not_v (Cond.before_iff.mp (hsets _ (List.mem_of_getElem? (i := 2) rfl)))), Fld.start fz_wOptional_EMPTY_value, Exa.ne (Exa.start ev_wRequestState_UNKNOWN nr1) (Exa.start ev_wOptional_EMPTY (Cond.before_iff.mp (hsets _ (List.mem_of_getElem? (i := 11) rfl)))) (by decide), Exa.ne (Exa.start ev_wRequestState_UNKNOWN nr1) (Exa.start ev_wIntegerCache_cache (Cond.before_iff.mp (hsets _ (List.mem_of_getElem? (i := 18) rfl)))) (by decide), Exa.ne (Exa.start ev_wRequestState_IN_PROGRESS nr2) (Exa.start ev_wOptional_EMPTY (Cond.before_iff.mp (hsets _ (List.mem_of_getElem? (i := 11) rfl)))) (by decide), Exa.ne (Exa.start ev_wRequestState_IN_PROGRESS nr2) (Exa.start ev_wIntegerCache_cache (Cond.before_iff.mp (hsets _ (List.mem_of_getElem? (i := 18) rfl)))) (by decide), Exa.ne (Exa.start ev_wRequestState_REMOVED nr3) (Exa.start ev_wOptional_EMPTY (Cond.before_iff.mp (hsets _ (List.mem_of_getElem? (i := 11) rfl)))) (by decide), Exa.ne (Exa.start ev_wRequestState_REMOVED nr3) (Exa.start ev_wIntegerCache_cache (Cond.before_iff.mp (hsets _ (List.mem_of_getElem? (i := 18) rfl)))) (by decide), Exa.ne (Exa.start ev_wRequestState_DONE nr4) (Exa.start ev_wOptional_EMPTY (Cond.before_iff.mp (hsets _ (List.mem_of_getElem? (i := 11) rfl)))) (by decide), Exa.ne (Exa.start ev_wRequestState_DONE nr4) (Exa.start ev_wIntegerCache_cache (Cond.before_iff.mp (hsets _ (List.mem_of_getElem? (i := 18) rfl)))) (by decide), Exa.ne (Exa.start ev_wRequestState_FAILED nr5) (Exa.start ev_wOptional_EMPTY (Cond.before_iff.mp (hsets _ (List.mem_of_getElem? (i := 11) rfl)))) (by decide), Exa.ne (Exa.start ev_wRequestState_FAILED nr5) (Exa.start ev_wIntegerCache_cache (Cond.before_iff.mp (hsets _ (List.mem_of_getElem? (i := 18) rfl)))) (by decide), Exa.ne (Exa.start ev_wOptional_EMPTY (Cond.before_iff.mp (hsets _ (List.mem_of_getElem? (i := 11) rfl)))) (Exa.start ev_wIntegerCache_cache (Cond.before_iff.mp (hsets _ (List.mem_of_getElem? (i := 18) rfl)))) (by decide), ArC, szC, elC⟩
  obtain ⟨n, o, h1, h2, h3, _, L, rfl, ⟨rfl, N⟩, hq⟩ := all_roads l s _ hw tables_1 wRequestState_UNKNOWN wRequestState_IN_PROGRESS wRequestState_REMOVED wRequestState_DONE wRequestState_FAILED wOptional_EMPTY wIntegerCache_cache zCOMPACT_STRINGS clC hB i0 i1 i2 s.heap s.heap.size (Old.start s) p e ha hc hk s m _ below hf ((Spec.applies_iff_loose hf).mp happ).1 ⟨rfl, State.Warmed39.refl s, rfl⟩ trivial
  refine ⟨n, _, h1, h2, h3, hpost _ _ _ _ _ _ ⟨Cond.after_iff.mpr rfl, Cond.after_iff.mpr (eq_i res_at (Term.int_eval (1)) rfl), trivial⟩ ⟨hq.1, hq.2.1, (hq.2.2.sift fun y hy => Or.inr (N y hy)).mono (by decide) (by decide)⟩⟩
theorem main_1_1 : Claimed_1_1 := comes_1 fun _ _ _ _ _ _ h hF => ⟨h.1, hF⟩
theorem main_1_2 : Claimed_1_2 := comes_1 fun _ _ _ _ _ _ h hF => ⟨h.2.1, hF⟩
end Jvm.Pilot.@@N@@
namespace Jvm.Pilot.@@N@@
open Jvm Jvm.ClassFile Sem Op Lib Jvm.Free Jvm.Stand Jvm.Pilot.@@N@@.Jvm.D
/-! MADE BY PROGRAM (witnessworld.py) out of the Statement's table words and the real class files: 27 classes; the members and pool entries that the words name. The judged class is class 1, her method 1. -/
namespace start1
open Jvm.ClassFile
def u (s : String) : CpInfo := .utf8 (stringToUtf16 s)
/-- a pool by its gaps: so many unusable entries, then the entry; so many at the end -/
def gap : Nat → List CpInfo → List CpInfo
  | 0, r => r
  | n + 1, r => .unusable :: gap n r
def poolList (es : List (Nat × CpInfo)) (last : Nat) : List CpInfo := es.foldr (fun e r => gap e.1 (e.2 :: r)) (gap last [])
def pool (es : List (Nat × CpInfo)) (last : Nat) : Array CpInfo := ⟨poolList es last⟩
def fileOf (pool : Array CpInfo) (this : Nat) (attrs : Array Attribute := #[]) (ms : Array MethodInfo := #[]) (fl : Nat := 33) (sup : Nat := 0) (ifs : Array Nat := #[]) (fds : Array FieldInfo := #[]) : ClassFile where
  minorVersion := 0
  majorVersion := 65
  constantPool := pool
  accessFlags := fl
  thisClass := this
  superClass := sup
  interfaces := ifs
  fields := fds
  methods := ms
  attributes := attrs
def plain (name : String) (sup : Option ClassId) : Class where
  name := name
  kind := .ordinary
  loader := none
  accessFlags := 33
  super := sup
  interfaces := #[]
  cf := none
  fields := #[]
  methods := #[]
  instanceTypes := #[]
  staticTypes := #[]
  resolved := #[]
  callSites := []
  init := .initialized
  statics := none
  mirror := none

def pool0 : Array CpInfo := pool [(5, u "<init>"), (0, u "()V"), (1, .class_ 10), (1, u "java/lang/Object")] 113

def k0c0 : Code := { maxStack := 0, maxLocals := 1, code := object_method_1_code, exceptionTable := #[], attributes := #[] }
def k0m0 : Method := { name := "<init>", desc := "()V", sig := { parameters := [], returnType := none }, accessFlags := 1, code := some k0c0 }
/-- java/lang/Object -/
def k0 : Class := { plain "java/lang/Object" none with
  accessFlags := 33
  interfaces := #[]
  cf := some (fileOf pool0 8 #[] #[{ accessFlags := 1, nameIndex := 5, descriptorIndex := 6, attributes := #[] }] 33 0 #[] #[])
  fields := #[]
  methods := #[k0m0]
  instanceTypes := #[]
  staticTypes := #[]
  resolved := Array.replicate 124 none
  statics := none }

def pool1 : Array CpInfo := pool [(2, .class_ 4), (1, u "java/lang/Object"), (0, u "<init>"), (0, u "()V"), (0, .methodref 8 9), (0, .class_ 10), (0, .nameAndType 11 12), (0, u "java/lang/String"), (0, u "valueOf"), (0, u "(C)Ljava/lang/String;"), (0, .methodref 14 15), (0, .class_ 16), (0, .nameAndType 17 18), (0, u "java/util/Optional"), (0, u "empty"), (0, u "()Ljava/util/Optional;"), (0, .methodref 14 20), (0, .nameAndType 21 22), (0, u "of"), (0, u "(Ljava/lang/Object;)Ljava/util/Optional;"), (0, .methodref 24 25), (0, .class_ 26), (0, .nameAndType 11 27), (0, u "java/lang/Integer"), (0, u "(I)Ljava/lang/Integer;"), (0, .class_ 29), (0, u "com/example/agave/agave/store/RequestStore$StoredRequest"), (0, .methodref 28 31), (0, .nameAndType 5 32), (0, u "(Ljava/lang/String;Ljava/lang/String;Ljava/util/Optional;Ljava/util/Optional;Ljava/util/Optional;)V"), (0, .class_ 34), (0, u "com/example/agave/agave/store/RequestStore$Removal"), (0, .methodref 33 36), (0, .nameAndType 5 37), (0, u "(Ljava/lang/String;ZLjava/time/Instant;Ljava/time/Instant;)V"), (0, .methodref 39 40), (0, .class_ 41), (0, .nameAndType 21 42), (0, u "com/example/agave/agave/store/RequestState"), (0, u "(Ljava/util/Optional;ZLjava/util/Optional;)Lcom/example/agave/agave/store/RequestState;"), (0, .fieldref 39 44), (0, .nameAndType 45 46), (0, u "FAILED"), (0, u "Lcom/example/agave/agave/store/RequestState;"), (0, .fieldref 39 48), (0, .nameAndType 49 46), (0, u "DONE"), (0, .fieldref 39 51), (0, .nameAndType 52 46), (0, u "IN_PROGRESS"), (0, .fieldref 39 54), (0, .nameAndType 55 46), (0, u "REMOVED"), (0, .fieldref 39 57), (0, .nameAndType 58 46), (0, u "UNKNOWN"), (0, .class_ 60), (0, u "com/example/agave/agave/store/RequestStateOfPinLaw"), (2, u "law"), (0, u "(III)Z")] 8

def k1m0 : Method := { name := "<init>", desc := "()V", sig := { parameters := [], returnType := none }, accessFlags := 2, code := none }
def k1c1 : Code := { maxStack := 7, maxLocals := 19, code := code, exceptionTable := #[], attributes := #[] }
def k1m1 : Method := { name := "law", desc := "(III)Z", sig := { parameters := [.int, .int, .int], returnType := some .boolean }, accessFlags := 9, code := some k1c1 }
/-- com/example/agave/agave/store/RequestStateOfPinLaw -/
def k1 : Class := { plain "com/example/agave/agave/store/RequestStateOfPinLaw" (some 0) with
  accessFlags := 49
  interfaces := #[]
  cf := some (fileOf pool1 59 #[] #[{ accessFlags := 2, nameIndex := 5, descriptorIndex := 6, attributes := #[] }, { accessFlags := 9, nameIndex := 63, descriptorIndex := 64, attributes := #[] }] 49 2 #[] #[])
  fields := #[]
  methods := #[k1m0, k1m1]
  instanceTypes := #[]
  staticTypes := #[]
  resolved := Array.replicate 73 none
  statics := none }

def pool2 : Array CpInfo := pool [(1, .class_ 2), (0, u "java/io/Serializable"), (0, .class_ 4), (0, u "java/lang/Object")] 2

/-- java/io/Serializable -/
def k2 : Class := { plain "java/io/Serializable" (some 0) with
  accessFlags := 1537
  interfaces := #[]
  cf := some (fileOf pool2 1 #[] #[] 1537 3 #[] #[])
  fields := #[]
  methods := #[]
  instanceTypes := #[]
  staticTypes := #[]
  resolved := Array.replicate 7 none
  statics := none }

def pool3 : Array CpInfo := pool [(1, .class_ 2), (0, u "java/lang/Comparable"), (0, .class_ 4), (0, u "java/lang/Object")] 7

/-- java/lang/Comparable -/
def k3 : Class := { plain "java/lang/Comparable" (some 0) with
  accessFlags := 1537
  interfaces := #[]
  cf := some (fileOf pool3 1 #[] #[] 1537 3 #[] #[])
  fields := #[]
  methods := #[]
  instanceTypes := #[]
  staticTypes := #[]
  resolved := Array.replicate 12 none
  statics := none }

def pool4 : Array CpInfo := pool [(2, .class_ 4), (1, u "java/lang/CharSequence"), (42, .class_ 48), (0, u "java/lang/CharSequence$1CodePointIterator"), (10, .class_ 60), (0, u "java/lang/CharSequence$1CharIterator"), (5, .class_ 67), (0, u "java/lang/Object")] 63

/-- java/lang/CharSequence -/
def k4 : Class := { plain "java/lang/CharSequence" (some 0) with
  accessFlags := 1537
  interfaces := #[]
  cf := some (fileOf pool4 2 #[.nestMembers #[47, 59]] #[] 1537 66 #[] #[])
  fields := #[]
  methods := #[]
  instanceTypes := #[]
  staticTypes := #[]
  resolved := Array.replicate 131 none
  statics := none }

def pool5 : Array CpInfo := pool [(1, .class_ 2), (0, u "java/lang/constant/Constable"), (0, .class_ 4), (0, u "java/lang/Object")] 6

/-- java/lang/constant/Constable -/
def k5 : Class := { plain "java/lang/constant/Constable" (some 0) with
  accessFlags := 1537
  interfaces := #[]
  cf := some (fileOf pool5 1 #[] #[] 1537 3 #[] #[])
  fields := #[]
  methods := #[]
  instanceTypes := #[]
  staticTypes := #[]
  resolved := Array.replicate 11 none
  statics := none }

def pool6 : Array CpInfo := pool [(1, .class_ 2), (0, u "java/lang/constant/ConstantDesc"), (0, .class_ 4), (0, u "java/lang/Object")] 32

/-- java/lang/constant/ConstantDesc -/
def k6 : Class := { plain "java/lang/constant/ConstantDesc" (some 0) with
  accessFlags := 1537
  interfaces := #[]
  cf := some (fileOf pool6 1 #[] #[] 1537 3 #[] #[])
  fields := #[]
  methods := #[]
  instanceTypes := #[]
  staticTypes := #[]
  resolved := Array.replicate 37 none
  statics := none }

def pool7 : Array CpInfo := pool [(1, .methodref 2 3), (0, .class_ 4), (0, .nameAndType 5 6), (0, u "java/lang/Object"), (0, u "<init>"), (0, u "()V"), (2, .fieldref 10 11), (0, .class_ 12), (0, .nameAndType 13 14), (0, u "java/lang/String"), (0, u "value"), (0, u "[B"), (0, .fieldref 10 16), (0, .nameAndType 17 18), (0, u "coder"), (0, u "B"), (2, u "hash"), (0, u "I"), (2, u "hashIsZero"), (0, u "Z"), (11, .fieldref 10 39), (0, .nameAndType 40 26), (0, u "COMPACT_STRINGS"), (12, u "toBytes"), (53, .class_ 109), (1, u "java/lang/StringLatin1"), (99, .methodref 10 210), (0, .nameAndType 5 211), (0, u "([BB)V"), (157, u "(C)Z"), (205, .class_ 576), (0, u "java/lang/CharSequence"), (22, u "CASE_INSENSITIVE_ORDER"), (0, u "Ljava/util/Comparator;"), (181, u "valueOf"), (0, u "(C)Ljava/lang/String;"), (231, .methodref 107 1016), (0, .nameAndType 1017 369), (0, u "canEncode"), (0, .methodref 107 1019), (0, .nameAndType 53 1020), (0, u "(C)[B"), (80, u "serialPersistentFields"), (0, u "[Ljava/io/ObjectStreamField;"), (0, .class_ 1104), (0, u "java/lang/String$CaseInsensitiveComparator"), (1, .class_ 1107), (0, u "java/io/Serializable"), (0, .class_ 1109), (0, u "java/lang/Comparable"), (0, .class_ 1111), (0, u "java/lang/constant/Constable"), (0, .class_ 1113), (0, u "java/lang/constant/ConstantDesc"), (2, u "serialVersionUID"), (0, u "J"), (3, u "REPL"), (0, u "C"), (2, u "LATIN1"), (1, u "UTF16")] 323

def k7m0 : Method := { name := "<init>", desc := "()V", sig := { parameters := [], returnType := none }, accessFlags := 1, code := none }
def k7c1 : Code := { maxStack := 4, maxLocals := 1, code := jdk_42_method_139_code, exceptionTable := #[], attributes := #[] }
def k7m1 : Method := { name := "valueOf", desc := "(C)Ljava/lang/String;", sig := { parameters := [.char], returnType := some (.object "java/lang/String") }, accessFlags := 9, code := some k7c1 }
def k7c2 : Code := { maxStack := 2, maxLocals := 3, code := jdk_42_method_151_code, exceptionTable := #[], attributes := #[] }
def k7m2 : Method := { name := "<init>", desc := "([BB)V", sig := { parameters := [(.array .byte), .byte], returnType := none }, accessFlags := 0, code := some k7c2 }
/-- java/lang/String -/
def k7 : Class := { plain "java/lang/String" (some 0) with
  accessFlags := 49
  interfaces := #[2, 3, 4, 5, 6]
  cf := some (fileOf pool7 10 #[.nestMembers #[1103]] #[{ accessFlags := 1, nameIndex := 5, descriptorIndex := 6, attributes := #[] }, { accessFlags := 9, nameIndex := 782, descriptorIndex := 783, attributes := #[] }, { accessFlags := 0, nameIndex := 5, descriptorIndex := 211, attributes := #[] }] 49 2 #[1106, 1108, 575, 1110, 1112] #[{ accessFlags := 18, nameIndex := 13, descriptorIndex := 14, attributes := #[] }, { accessFlags := 18, nameIndex := 17, descriptorIndex := 18, attributes := #[] }, { accessFlags := 2, nameIndex := 21, descriptorIndex := 22, attributes := #[] }, { accessFlags := 2, nameIndex := 25, descriptorIndex := 26, attributes := #[] }, { accessFlags := 26, nameIndex := 1116, descriptorIndex := 1117, attributes := #[] }, { accessFlags := 24, nameIndex := 40, descriptorIndex := 26, attributes := #[] }, { accessFlags := 26, nameIndex := 1101, descriptorIndex := 1102, attributes := #[] }, { accessFlags := 26, nameIndex := 1121, descriptorIndex := 1122, attributes := #[] }, { accessFlags := 25, nameIndex := 599, descriptorIndex := 600, attributes := #[] }, { accessFlags := 24, nameIndex := 1125, descriptorIndex := 18, attributes := #[] }, { accessFlags := 24, nameIndex := 1127, descriptorIndex := 18, attributes := #[] }])
  fields := #[{ name := "value", type := (.array .byte), accessFlags := 18, slot := 0, constantValue := 0 }, { name := "coder", type := .byte, accessFlags := 18, slot := 1, constantValue := 0 }, { name := "hash", type := .int, accessFlags := 2, slot := 2, constantValue := 0 }, { name := "hashIsZero", type := .boolean, accessFlags := 2, slot := 3, constantValue := 0 }, { name := "serialVersionUID", type := .long, accessFlags := 26, slot := 0, constantValue := 0 }, { name := "COMPACT_STRINGS", type := .boolean, accessFlags := 24, slot := 1, constantValue := 0 }, { name := "serialPersistentFields", type := (.array (.object "java/io/ObjectStreamField")), accessFlags := 26, slot := 2, constantValue := 0 }, { name := "REPL", type := .char, accessFlags := 26, slot := 3, constantValue := 0 }, { name := "CASE_INSENSITIVE_ORDER", type := (.object "java/util/Comparator"), accessFlags := 25, slot := 4, constantValue := 0 }, { name := "LATIN1", type := .byte, accessFlags := 24, slot := 5, constantValue := 0 }, { name := "UTF16", type := .byte, accessFlags := 24, slot := 6, constantValue := 0 }]
  methods := #[k7m0, k7m1, k7m2]
  instanceTypes := #[(.array .byte), .byte, .int, .boolean]
  staticTypes := #[.long, .boolean, (.array (.object "java/io/ObjectStreamField")), .char, (.object "java/util/Comparator"), .byte, .byte]
  resolved := Array.replicate 1451 none
  statics := some 0 }

def pool8 : Array CpInfo := pool [(4, .class_ 6), (1, u "java/lang/Object"), (0, u "<init>"), (0, u "()V"), (5, .class_ 16), (1, u "java/lang/StringLatin1"), (73, u "canEncode"), (14, u "(C)Z"), (15, u "$assertionsDisabled"), (0, u "Z"), (98, .class_ 223), (1, u "java/lang/StringLatin1$LinesSpliterator"), (156, u "toBytes"), (1, u "(C)[B"), (7, .class_ 391), (0, u "java/lang/StringLatin1$CharsSpliterator")] 3

def k8m0 : Method := { name := "<init>", desc := "()V", sig := { parameters := [], returnType := none }, accessFlags := 0, code := none }
def k8c1 : Code := { maxStack := 2, maxLocals := 1, code := jdk_43_method_3_code, exceptionTable := #[], attributes := #[] }
def k8m1 : Method := { name := "canEncode", desc := "(C)Z", sig := { parameters := [.char], returnType := some .boolean }, accessFlags := 9, code := some k8c1 }
def k8c2 : Code := { maxStack := 4, maxLocals := 1, code := jdk_43_method_46_code, exceptionTable := #[], attributes := #[] }
def k8m2 : Method := { name := "toBytes", desc := "(C)[B", sig := { parameters := [.char], returnType := some (.array .byte) }, accessFlags := 9, code := some k8c2 }
/-- java/lang/StringLatin1 -/
def k8 : Class := { plain "java/lang/StringLatin1" (some 0) with
  accessFlags := 48
  interfaces := #[]
  cf := some (fileOf pool8 14 #[.nestMembers #[390, 221]] #[{ accessFlags := 0, nameIndex := 7, descriptorIndex := 8, attributes := #[] }, { accessFlags := 9, nameIndex := 90, descriptorIndex := 105, attributes := #[] }, { accessFlags := 9, nameIndex := 380, descriptorIndex := 382, attributes := #[] }] 48 4 #[] #[{ accessFlags := 4120, nameIndex := 121, descriptorIndex := 122, attributes := #[] }])
  fields := #[{ name := "$assertionsDisabled", type := .boolean, accessFlags := 4120, slot := 0, constantValue := 0 }]
  methods := #[k8m0, k8m1, k8m2]
  instanceTypes := #[]
  staticTypes := #[.boolean]
  resolved := Array.replicate 395 none
  statics := none }

def pool9 : Array CpInfo := pool [(1, .fieldref 2 3), (0, .class_ 4), (0, .nameAndType 5 6), (0, u "java/util/Optional"), (0, u "EMPTY"), (0, u "Ljava/util/Optional;"), (0, .methodref 8 9), (0, .class_ 10), (0, .nameAndType 11 12), (0, u "java/lang/Object"), (0, u "<init>"), (0, u "()V"), (0, .fieldref 2 14), (0, .nameAndType 15 16), (0, u "value"), (0, u "Ljava/lang/Object;"), (0, .methodref 18 19), (0, .class_ 20), (0, .nameAndType 21 22), (0, u "java/util/Objects"), (0, u "requireNonNull"), (0, u "(Ljava/lang/Object;)Ljava/lang/Object;"), (0, .methodref 2 24), (0, .nameAndType 11 25), (0, u "(Ljava/lang/Object;)V"), (19, u "isEmpty"), (0, u "()Z"), (8, u "empty"), (0, u "()Ljava/util/Optional;"), (8, u "(Ljava/lang/Object;)Ljava/util/Optional;"), (2, u "isPresent"), (4, u "get"), (0, u "()Ljava/lang/Object;"), (7, u "of")] 104

def k9c0 : Code := { maxStack := 1, maxLocals := 1, code := jdk_32_method_1_code, exceptionTable := #[], attributes := #[] }
def k9m0 : Method := { name := "empty", desc := "()Ljava/util/Optional;", sig := { parameters := [], returnType := some (.object "java/util/Optional") }, accessFlags := 9, code := some k9c0 }
def k9c1 : Code := { maxStack := 2, maxLocals := 2, code := jdk_32_method_2_code, exceptionTable := #[], attributes := #[] }
def k9m1 : Method := { name := "<init>", desc := "(Ljava/lang/Object;)V", sig := { parameters := [(.object "java/lang/Object")], returnType := none }, accessFlags := 2, code := some k9c1 }
def k9c2 : Code := { maxStack := 3, maxLocals := 1, code := jdk_32_method_3_code, exceptionTable := #[], attributes := #[] }
def k9m2 : Method := { name := "of", desc := "(Ljava/lang/Object;)Ljava/util/Optional;", sig := { parameters := [(.object "java/lang/Object")], returnType := some (.object "java/util/Optional") }, accessFlags := 9, code := some k9c2 }
def k9c3 : Code := { maxStack := 3, maxLocals := 1, code := jdk_32_method_5_code, exceptionTable := #[], attributes := #[] }
def k9m3 : Method := { name := "get", desc := "()Ljava/lang/Object;", sig := { parameters := [], returnType := some (.object "java/lang/Object") }, accessFlags := 1, code := some k9c3 }
def k9c4 : Code := { maxStack := 1, maxLocals := 1, code := jdk_32_method_6_code, exceptionTable := #[], attributes := #[] }
def k9m4 : Method := { name := "isPresent", desc := "()Z", sig := { parameters := [], returnType := some .boolean }, accessFlags := 1, code := some k9c4 }
def k9c5 : Code := { maxStack := 1, maxLocals := 1, code := jdk_32_method_7_code, exceptionTable := #[], attributes := #[] }
def k9m5 : Method := { name := "isEmpty", desc := "()Z", sig := { parameters := [], returnType := some .boolean }, accessFlags := 1, code := some k9c5 }
/-- java/util/Optional -/
def k9 : Class := { plain "java/util/Optional" (some 0) with
  accessFlags := 49
  interfaces := #[]
  cf := some (fileOf pool9 2 #[] #[{ accessFlags := 9, nameIndex := 55, descriptorIndex := 56, attributes := #[] }, { accessFlags := 2, nameIndex := 11, descriptorIndex := 25, attributes := #[] }, { accessFlags := 9, nameIndex := 82, descriptorIndex := 65, attributes := #[] }, { accessFlags := 1, nameIndex := 73, descriptorIndex := 74, attributes := #[] }, { accessFlags := 1, nameIndex := 68, descriptorIndex := 46, attributes := #[] }, { accessFlags := 1, nameIndex := 45, descriptorIndex := 46, attributes := #[] }] 49 8 #[] #[{ accessFlags := 26, nameIndex := 5, descriptorIndex := 6, attributes := #[] }, { accessFlags := 18, nameIndex := 15, descriptorIndex := 16, attributes := #[] }])
  fields := #[{ name := "EMPTY", type := (.object "java/util/Optional"), accessFlags := 26, slot := 0, constantValue := 0 }, { name := "value", type := (.object "java/lang/Object"), accessFlags := 18, slot := 0, constantValue := 0 }]
  methods := #[k9m0, k9m1, k9m2, k9m3, k9m4, k9m5]
  instanceTypes := #[(.object "java/lang/Object")]
  staticTypes := #[(.object "java/util/Optional")]
  resolved := Array.replicate 187 none
  statics := some 1 }

def pool10 : Array CpInfo := pool [(2, .class_ 4), (1, u "java/lang/Enum"), (0, u "name"), (0, u "Ljava/lang/String;"), (2, u "ordinal"), (0, u "I"), (1, .class_ 14), (1, u "java/lang/Object"), (4, u "hash"), (86, .class_ 108), (1, u "java/lang/Enum$EnumDesc"), (2, .class_ 112), (0, u "java/lang/constant/Constable"), (0, .class_ 114), (0, u "java/lang/Comparable"), (0, .class_ 116), (0, u "java/io/Serializable")] 87

/-- java/lang/Enum -/
def k10 : Class := { plain "java/lang/Enum" (some 0) with
  accessFlags := 1057
  interfaces := #[5, 3, 2]
  cf := some (fileOf pool10 2 #[.nestMembers #[106]] #[] 1057 12 #[111, 113, 115] #[{ accessFlags := 18, nameIndex := 5, descriptorIndex := 6, attributes := #[] }, { accessFlags := 18, nameIndex := 9, descriptorIndex := 10, attributes := #[] }, { accessFlags := 2, nameIndex := 19, descriptorIndex := 10, attributes := #[] }])
  fields := #[{ name := "name", type := (.object "java/lang/String"), accessFlags := 18, slot := 0, constantValue := 0 }, { name := "ordinal", type := .int, accessFlags := 18, slot := 1, constantValue := 0 }, { name := "hash", type := .int, accessFlags := 2, slot := 2, constantValue := 0 }]
  methods := #[]
  instanceTypes := #[(.object "java/lang/String"), .int, .int]
  staticTypes := #[]
  resolved := Array.replicate 204 none
  statics := none }

def pool11 : Array CpInfo := pool [(1, .class_ 2), (0, u "com/example/agave/agave/store/RequestState"), (0, .fieldref 1 4), (0, .nameAndType 5 6), (0, u "DONE"), (0, u "Lcom/example/agave/agave/store/RequestState;"), (0, .fieldref 1 8), (0, .nameAndType 9 6), (0, u "FAILED"), (0, .fieldref 1 11), (0, .nameAndType 12 6), (0, u "IN_PROGRESS"), (0, .fieldref 1 14), (0, .nameAndType 15 6), (0, u "REMOVED"), (0, .fieldref 1 17), (0, .nameAndType 18 6), (0, u "UNKNOWN"), (2, u "$VALUES"), (0, u "[Lcom/example/agave/agave/store/RequestState;"), (4, u "()Ljava/lang/Object;"), (1, .class_ 31), (1, u "java/lang/Enum"), (8, u "text"), (0, u "Ljava/lang/String;"), (0, .methodref 43 44), (0, .class_ 45), (0, .nameAndType 46 47), (0, u "java/util/Optional"), (0, u "isEmpty"), (0, u "()Z"), (0, .methodref 43 49), (0, .nameAndType 50 47), (0, u "isPresent"), (0, .methodref 43 52), (0, .nameAndType 53 27), (0, u "get"), (0, .class_ 55), (0, u "com/example/agave/agave/store/RequestStore$StoredRequest"), (0, .methodref 54 57), (0, .nameAndType 58 59), (0, u "failure"), (0, u "()Ljava/util/Optional;"), (0, .methodref 54 61), (0, .nameAndType 62 59), (0, u "result"), (29, u "of"), (0, u "(Ljava/util/Optional;ZLjava/util/Optional;)Lcom/example/agave/agave/store/RequestState;")] 17

def k11c0 : Code := { maxStack := 1, maxLocals := 4, code := prog_13_method_4_code, exceptionTable := #[], attributes := #[] }
def k11m0 : Method := { name := "of", desc := "(Ljava/util/Optional;ZLjava/util/Optional;)Lcom/example/agave/agave/store/RequestState;", sig := { parameters := [(.object "java/util/Optional"), .boolean, (.object "java/util/Optional")], returnType := some (.object "com/example/agave/agave/store/RequestState") }, accessFlags := 8, code := some k11c0 }
/-- com/example/agave/agave/store/RequestState -/
def k11 : Class := { plain "com/example/agave/agave/store/RequestState" (some 10) with
  accessFlags := 16433
  interfaces := #[]
  cf := some (fileOf pool11 1 #[] #[{ accessFlags := 8, nameIndex := 92, descriptorIndex := 93, attributes := #[] }] 16433 29 #[] #[{ accessFlags := 16409, nameIndex := 5, descriptorIndex := 6, attributes := #[] }, { accessFlags := 16409, nameIndex := 9, descriptorIndex := 6, attributes := #[] }, { accessFlags := 16409, nameIndex := 12, descriptorIndex := 6, attributes := #[] }, { accessFlags := 16409, nameIndex := 15, descriptorIndex := 6, attributes := #[] }, { accessFlags := 16409, nameIndex := 18, descriptorIndex := 6, attributes := #[] }, { accessFlags := 18, nameIndex := 40, descriptorIndex := 41, attributes := #[] }, { accessFlags := 4122, nameIndex := 21, descriptorIndex := 22, attributes := #[] }])
  fields := #[{ name := "DONE", type := (.object "com/example/agave/agave/store/RequestState"), accessFlags := 16409, slot := 0, constantValue := 0 }, { name := "FAILED", type := (.object "com/example/agave/agave/store/RequestState"), accessFlags := 16409, slot := 1, constantValue := 0 }, { name := "IN_PROGRESS", type := (.object "com/example/agave/agave/store/RequestState"), accessFlags := 16409, slot := 2, constantValue := 0 }, { name := "REMOVED", type := (.object "com/example/agave/agave/store/RequestState"), accessFlags := 16409, slot := 3, constantValue := 0 }, { name := "UNKNOWN", type := (.object "com/example/agave/agave/store/RequestState"), accessFlags := 16409, slot := 4, constantValue := 0 }, { name := "text", type := (.object "java/lang/String"), accessFlags := 18, slot := 3, constantValue := 0 }, { name := "$VALUES", type := (.array (.object "com/example/agave/agave/store/RequestState")), accessFlags := 4122, slot := 5, constantValue := 0 }]
  methods := #[k11m0]
  instanceTypes := #[(.object "java/lang/String"), .int, .int, (.object "java/lang/String")]
  staticTypes := #[(.object "com/example/agave/agave/store/RequestState"), (.object "com/example/agave/agave/store/RequestState"), (.object "com/example/agave/agave/store/RequestState"), (.object "com/example/agave/agave/store/RequestState"), (.object "com/example/agave/agave/store/RequestState"), (.array (.object "com/example/agave/agave/store/RequestState"))]
  resolved := Array.replicate 111 none
  statics := some 2 }

def pool12 : Array CpInfo := pool [(1, .methodref 2 3), (0, .class_ 4), (0, .nameAndType 5 6), (0, u "java/lang/Object"), (0, u "<init>"), (0, u "()V"), (0, .class_ 8), (0, u "java/lang/Record")] 13

def k12c0 : Code := { maxStack := 1, maxLocals := 1, code := jdk_30_method_1_code, exceptionTable := #[], attributes := #[] }
def k12m0 : Method := { name := "<init>", desc := "()V", sig := { parameters := [], returnType := none }, accessFlags := 4, code := some k12c0 }
/-- java/lang/Record -/
def k12 : Class := { plain "java/lang/Record" (some 0) with
  accessFlags := 1057
  interfaces := #[]
  cf := some (fileOf pool12 7 #[] #[{ accessFlags := 4, nameIndex := 5, descriptorIndex := 6, attributes := #[] }] 1057 2 #[] #[])
  fields := #[]
  methods := #[k12m0]
  instanceTypes := #[]
  staticTypes := #[]
  resolved := Array.replicate 22 none
  statics := none }

def pool13 : Array CpInfo := pool [(1, .methodref 2 3), (0, .class_ 4), (0, .nameAndType 5 6), (0, u "java/lang/Record"), (0, u "<init>"), (0, u "()V"), (0, .fieldref 8 9), (0, .class_ 10), (0, .nameAndType 11 12), (0, u "com/example/agave/agave/store/RequestStore$StoredRequest"), (0, u "route"), (0, u "Ljava/lang/String;"), (0, .fieldref 8 14), (0, .nameAndType 15 12), (0, u "payload"), (0, .fieldref 8 17), (0, .nameAndType 18 19), (0, u "result"), (0, u "Ljava/util/Optional;"), (0, .fieldref 8 21), (0, .nameAndType 22 19), (0, u "failure"), (0, .fieldref 8 24), (0, .nameAndType 25 19), (0, u "statusCode"), (34, u "(Ljava/lang/String;Ljava/lang/String;Ljava/util/Optional;Ljava/util/Optional;Ljava/util/Optional;)V"), (5, u "()Ljava/util/Optional;"), (11, .class_ 79), (0, u "com/example/agave/agave/store/RequestStore")] 36

def k13c0 : Code := { maxStack := 2, maxLocals := 6, code := prog_23_method_1_code, exceptionTable := #[], attributes := #[] }
def k13m0 : Method := { name := "<init>", desc := "(Ljava/lang/String;Ljava/lang/String;Ljava/util/Optional;Ljava/util/Optional;Ljava/util/Optional;)V", sig := { parameters := [(.object "java/lang/String"), (.object "java/lang/String"), (.object "java/util/Optional"), (.object "java/util/Optional"), (.object "java/util/Optional")], returnType := none }, accessFlags := 1, code := some k13c0 }
def k13c1 : Code := { maxStack := 1, maxLocals := 1, code := prog_23_method_9_code, exceptionTable := #[], attributes := #[] }
def k13m1 : Method := { name := "result", desc := "()Ljava/util/Optional;", sig := { parameters := [], returnType := some (.object "java/util/Optional") }, accessFlags := 1, code := some k13c1 }
def k13c2 : Code := { maxStack := 1, maxLocals := 1, code := prog_23_method_10_code, exceptionTable := #[], attributes := #[] }
def k13m2 : Method := { name := "failure", desc := "()Ljava/util/Optional;", sig := { parameters := [], returnType := some (.object "java/util/Optional") }, accessFlags := 1, code := some k13c2 }
/-- com/example/agave/agave/store/RequestStore$StoredRequest -/
def k13 : Class := { plain "com/example/agave/agave/store/RequestStore$StoredRequest" (some 12) with
  accessFlags := 49
  interfaces := #[]
  cf := some (fileOf pool13 8 #[.nestHost 78] #[{ accessFlags := 1, nameIndex := 5, descriptorIndex := 60, attributes := #[] }, { accessFlags := 1, nameIndex := 18, descriptorIndex := 66, attributes := #[] }, { accessFlags := 1, nameIndex := 22, descriptorIndex := 66, attributes := #[] }] 49 2 #[] #[{ accessFlags := 18, nameIndex := 11, descriptorIndex := 12, attributes := #[] }, { accessFlags := 18, nameIndex := 15, descriptorIndex := 12, attributes := #[] }, { accessFlags := 18, nameIndex := 18, descriptorIndex := 19, attributes := #[] }, { accessFlags := 18, nameIndex := 22, descriptorIndex := 19, attributes := #[] }, { accessFlags := 18, nameIndex := 25, descriptorIndex := 19, attributes := #[] }])
  fields := #[{ name := "route", type := (.object "java/lang/String"), accessFlags := 18, slot := 0, constantValue := 0 }, { name := "payload", type := (.object "java/lang/String"), accessFlags := 18, slot := 1, constantValue := 0 }, { name := "result", type := (.object "java/util/Optional"), accessFlags := 18, slot := 2, constantValue := 0 }, { name := "failure", type := (.object "java/util/Optional"), accessFlags := 18, slot := 3, constantValue := 0 }, { name := "statusCode", type := (.object "java/util/Optional"), accessFlags := 18, slot := 4, constantValue := 0 }]
  methods := #[k13m0, k13m1, k13m2]
  instanceTypes := #[(.object "java/lang/String"), (.object "java/lang/String"), (.object "java/util/Optional"), (.object "java/util/Optional"), (.object "java/util/Optional")]
  staticTypes := #[]
  resolved := Array.replicate 116 none
  statics := none }

def pool14 : Array CpInfo := pool [(2, .class_ 4), (1, u "java/lang/Object"), (0, u "<init>"), (0, u "()V"), (35, .class_ 44), (1, u "java/util/Objects"), (0, u "requireNonNull"), (0, u "(Ljava/lang/Object;)Ljava/lang/Object;")] 137

def k14m0 : Method := { name := "<init>", desc := "()V", sig := { parameters := [], returnType := none }, accessFlags := 2, code := none }
def k14c1 : Code := { maxStack := 2, maxLocals := 1, code := jdk_31_method_10_code, exceptionTable := #[], attributes := #[] }
def k14m1 : Method := { name := "requireNonNull", desc := "(Ljava/lang/Object;)Ljava/lang/Object;", sig := { parameters := [(.object "java/lang/Object")], returnType := some (.object "java/lang/Object") }, accessFlags := 9, code := some k14c1 }
/-- java/util/Objects -/
def k14 : Class := { plain "java/util/Objects" (some 0) with
  accessFlags := 49
  interfaces := #[]
  cf := some (fileOf pool14 42 #[] #[{ accessFlags := 2, nameIndex := 5, descriptorIndex := 6, attributes := #[] }, { accessFlags := 9, nameIndex := 45, descriptorIndex := 46, attributes := #[] }] 49 2 #[] #[])
  fields := #[]
  methods := #[k14m0, k14m1]
  instanceTypes := #[]
  staticTypes := #[]
  resolved := Array.replicate 184 none
  statics := none }

def pool15 : Array CpInfo := pool [(1, .methodref 2 3), (0, .class_ 4), (0, .nameAndType 5 6), (0, u "java/lang/Record"), (0, u "<init>"), (0, u "()V"), (0, .fieldref 8 9), (0, .class_ 10), (0, .nameAndType 11 12), (0, u "com/example/agave/agave/store/RequestStore$Removal"), (0, u "route"), (0, u "Ljava/lang/String;"), (0, .fieldref 8 14), (0, .nameAndType 15 16), (0, u "failed"), (0, u "Z"), (0, .fieldref 8 18), (0, .nameAndType 19 20), (0, u "finishedAt"), (0, u "Ljava/time/Instant;"), (0, .fieldref 8 22), (0, .nameAndType 23 20), (0, u "removedAt"), (2, u "TIMES"), (0, u "Ljava/time/format/DateTimeFormatter;"), (34, u "(Ljava/lang/String;ZLjava/time/Instant;Ljava/time/Instant;)V"), (14, .class_ 78), (0, u "com/example/agave/agave/store/RequestStore")] 22

def k15c0 : Code := { maxStack := 2, maxLocals := 5, code := prog_20_method_1_code, exceptionTable := #[], attributes := #[] }
def k15m0 : Method := { name := "<init>", desc := "(Ljava/lang/String;ZLjava/time/Instant;Ljava/time/Instant;)V", sig := { parameters := [(.object "java/lang/String"), .boolean, (.object "java/time/Instant"), (.object "java/time/Instant")], returnType := none }, accessFlags := 1, code := some k15c0 }
/-- com/example/agave/agave/store/RequestStore$Removal -/
def k15 : Class := { plain "com/example/agave/agave/store/RequestStore$Removal" (some 12) with
  accessFlags := 49
  interfaces := #[]
  cf := some (fileOf pool15 8 #[.nestHost 77] #[{ accessFlags := 1, nameIndex := 5, descriptorIndex := 62, attributes := #[] }] 49 2 #[] #[{ accessFlags := 18, nameIndex := 11, descriptorIndex := 12, attributes := #[] }, { accessFlags := 18, nameIndex := 15, descriptorIndex := 16, attributes := #[] }, { accessFlags := 18, nameIndex := 19, descriptorIndex := 20, attributes := #[] }, { accessFlags := 18, nameIndex := 23, descriptorIndex := 20, attributes := #[] }, { accessFlags := 26, nameIndex := 26, descriptorIndex := 27, attributes := #[] }])
  fields := #[{ name := "route", type := (.object "java/lang/String"), accessFlags := 18, slot := 0, constantValue := 0 }, { name := "failed", type := .boolean, accessFlags := 18, slot := 1, constantValue := 0 }, { name := "finishedAt", type := (.object "java/time/Instant"), accessFlags := 18, slot := 2, constantValue := 0 }, { name := "removedAt", type := (.object "java/time/Instant"), accessFlags := 18, slot := 3, constantValue := 0 }, { name := "TIMES", type := (.object "java/time/format/DateTimeFormatter"), accessFlags := 26, slot := 0, constantValue := 0 }]
  methods := #[k15m0]
  instanceTypes := #[(.object "java/lang/String"), .boolean, (.object "java/time/Instant"), (.object "java/time/Instant")]
  staticTypes := #[(.object "java/time/format/DateTimeFormatter")]
  resolved := Array.replicate 101 none
  statics := none }

def pool16 : Array CpInfo := pool [(1, .methodref 2 3), (0, .class_ 4), (0, .nameAndType 5 6), (0, u "java/lang/Object"), (0, u "<init>"), (0, u "()V"), (1, .class_ 10), (1, u "java/lang/Number"), (2, .class_ 14), (0, u "java/io/Serializable"), (0, u "serialVersionUID"), (0, u "J")] 20

def k16c0 : Code := { maxStack := 1, maxLocals := 1, code := jdk_18_method_1_code, exceptionTable := #[], attributes := #[] }
def k16m0 : Method := { name := "<init>", desc := "()V", sig := { parameters := [], returnType := none }, accessFlags := 1, code := some k16c0 }
/-- java/lang/Number -/
def k16 : Class := { plain "java/lang/Number" (some 0) with
  accessFlags := 1057
  interfaces := #[2]
  cf := some (fileOf pool16 8 #[] #[{ accessFlags := 1, nameIndex := 5, descriptorIndex := 6, attributes := #[] }] 1057 2 #[13] #[{ accessFlags := 26, nameIndex := 15, descriptorIndex := 16, attributes := #[] }])
  fields := #[{ name := "serialVersionUID", type := .long, accessFlags := 26, slot := 0, constantValue := 0 }]
  methods := #[k16m0]
  instanceTypes := #[]
  staticTypes := #[.long]
  resolved := Array.replicate 37 none
  statics := none }

def pool17 : Array CpInfo := pool [(1, .class_ 2), (0, u "java/lang/Integer"), (16, u "digits"), (0, u "[C"), (46, u "<init>"), (17, u "DigitOnes"), (0, u "[B"), (2, u "DigitTens"), (10, .nameAndType 67 101), (0, u "()V"), (85, u "valueOf"), (0, u "(I)Ljava/lang/Integer;"), (0, .class_ 190), (0, u "java/lang/Integer$IntegerCache"), (0, .fieldref 189 192), (0, .nameAndType 193 194), (0, u "high"), (0, u "I"), (0, .fieldref 189 196), (0, .nameAndType 197 198), (0, u "cache"), (0, u "[Ljava/lang/Integer;"), (0, .methodref 1 200), (0, .nameAndType 67 201), (0, u "(I)V"), (0, .methodref 203 100), (0, .class_ 204), (0, u "java/lang/Number"), (0, .fieldref 1 206), (0, .nameAndType 207 194), (0, u "value"), (94, u "TYPE"), (0, u "Ljava/lang/Class;"), (0, .class_ 305), (0, u "java/lang/Comparable"), (0, .class_ 307), (0, u "java/lang/constant/Constable"), (0, .class_ 309), (0, u "java/lang/constant/ConstantDesc"), (0, u "MIN_VALUE"), (1, u "MAX_VALUE"), (3, u "SIZE"), (1, u "BYTES"), (1, u "serialVersionUID"), (0, u "J")] 131

def k17c0 : Code := { maxStack := 3, maxLocals := 1, code := jdk_33_method_22_code, exceptionTable := #[], attributes := #[] }
def k17m0 : Method := { name := "valueOf", desc := "(I)Ljava/lang/Integer;", sig := { parameters := [.int], returnType := some (.object "java/lang/Integer") }, accessFlags := 9, code := some k17c0 }
def k17c1 : Code := { maxStack := 2, maxLocals := 2, code := jdk_33_method_23_code, exceptionTable := #[], attributes := #[] }
def k17m1 : Method := { name := "<init>", desc := "(I)V", sig := { parameters := [.int], returnType := none }, accessFlags := 1, code := some k17c1 }
/-- java/lang/Integer -/
def k17 : Class := { plain "java/lang/Integer" (some 16) with
  accessFlags := 49
  interfaces := #[3, 5, 6]
  cf := some (fileOf pool17 1 #[.nestMembers #[189]] #[{ accessFlags := 9, nameIndex := 187, descriptorIndex := 188, attributes := #[] }, { accessFlags := 1, nameIndex := 67, descriptorIndex := 201, attributes := #[] }] 49 203 #[304, 306, 308] #[{ accessFlags := 25, nameIndex := 310, descriptorIndex := 194, attributes := #[] }, { accessFlags := 25, nameIndex := 312, descriptorIndex := 194, attributes := #[] }, { accessFlags := 25, nameIndex := 302, descriptorIndex := 303, attributes := #[] }, { accessFlags := 24, nameIndex := 19, descriptorIndex := 20, attributes := #[] }, { accessFlags := 24, nameIndex := 89, descriptorIndex := 86, attributes := #[] }, { accessFlags := 24, nameIndex := 85, descriptorIndex := 86, attributes := #[] }, { accessFlags := 18, nameIndex := 207, descriptorIndex := 194, attributes := #[] }, { accessFlags := 25, nameIndex := 316, descriptorIndex := 194, attributes := #[] }, { accessFlags := 25, nameIndex := 318, descriptorIndex := 194, attributes := #[] }, { accessFlags := 26, nameIndex := 320, descriptorIndex := 321, attributes := #[] }])
  fields := #[{ name := "MIN_VALUE", type := .int, accessFlags := 25, slot := 0, constantValue := 0 }, { name := "MAX_VALUE", type := .int, accessFlags := 25, slot := 1, constantValue := 0 }, { name := "TYPE", type := (.object "java/lang/Class"), accessFlags := 25, slot := 2, constantValue := 0 }, { name := "digits", type := (.array .char), accessFlags := 24, slot := 3, constantValue := 0 }, { name := "DigitTens", type := (.array .byte), accessFlags := 24, slot := 4, constantValue := 0 }, { name := "DigitOnes", type := (.array .byte), accessFlags := 24, slot := 5, constantValue := 0 }, { name := "value", type := .int, accessFlags := 18, slot := 0, constantValue := 0 }, { name := "SIZE", type := .int, accessFlags := 25, slot := 6, constantValue := 0 }, { name := "BYTES", type := .int, accessFlags := 25, slot := 7, constantValue := 0 }, { name := "serialVersionUID", type := .long, accessFlags := 26, slot := 8, constantValue := 0 }]
  methods := #[k17m0, k17m1]
  instanceTypes := #[.int]
  staticTypes := #[.int, .int, (.object "java/lang/Class"), (.array .char), (.array .byte), (.array .byte), .int, .int, .long]
  resolved := Array.replicate 453 none
  statics := none }

def pool18 : Array CpInfo := pool [(2, .class_ 4), (1, u "java/lang/Object"), (0, u "<init>"), (0, u "()V"), (0, .class_ 8), (0, u "java/lang/Integer"), (7, .class_ 18), (1, u "java/lang/Integer$IntegerCache"), (0, u "$assertionsDisabled"), (0, u "Z"), (26, u "high"), (0, u "I"), (8, u "archivedCache"), (0, u "[Ljava/lang/Integer;"), (12, u "cache"), (0, u "low")] 27

def k18m0 : Method := { name := "<init>", desc := "()V", sig := { parameters := [], returnType := none }, accessFlags := 2, code := none }
/-- java/lang/Integer$IntegerCache -/
def k18 : Class := { plain "java/lang/Integer$IntegerCache" (some 0) with
  accessFlags := 48
  interfaces := #[]
  cf := some (fileOf pool18 16 #[.nestHost 7] #[{ accessFlags := 2, nameIndex := 5, descriptorIndex := 6, attributes := #[] }] 48 2 #[] #[{ accessFlags := 24, nameIndex := 72, descriptorIndex := 48, attributes := #[] }, { accessFlags := 24, nameIndex := 47, descriptorIndex := 48, attributes := #[] }, { accessFlags := 24, nameIndex := 71, descriptorIndex := 58, attributes := #[] }, { accessFlags := 8, nameIndex := 57, descriptorIndex := 58, attributes := #[] }, { accessFlags := 4120, nameIndex := 19, descriptorIndex := 20, attributes := #[] }])
  fields := #[{ name := "low", type := .int, accessFlags := 24, slot := 0, constantValue := 0 }, { name := "high", type := .int, accessFlags := 24, slot := 1, constantValue := 0 }, { name := "cache", type := (.array (.object "java/lang/Integer")), accessFlags := 24, slot := 2, constantValue := 0 }, { name := "archivedCache", type := (.array (.object "java/lang/Integer")), accessFlags := 8, slot := 3, constantValue := 0 }, { name := "$assertionsDisabled", type := .boolean, accessFlags := 4120, slot := 4, constantValue := 0 }]
  methods := #[k18m0]
  instanceTypes := #[]
  staticTypes := #[.int, .int, (.array (.object "java/lang/Integer")), (.array (.object "java/lang/Integer")), .boolean]
  resolved := Array.replicate 100 none
  statics := some 3 }

def pool19 : Array CpInfo := pool [(2, .class_ 4), (1, u "java/lang/Object"), (0, u "<init>"), (0, u "()V"), (17, .class_ 26), (1, u "jdk/internal/util/Preconditions"), (28, .class_ 56), (0, u "jdk/internal/util/Preconditions$4"), (57, .class_ 115), (0, u "jdk/internal/util/Preconditions$1"), (7, u "SIOOBE_FORMATTER"), (0, u "Ljava/util/function/BiFunction;"), (0, .class_ 126), (0, u "jdk/internal/util/Preconditions$2"), (3, u "AIOOBE_FORMATTER"), (0, .class_ 132), (0, u "jdk/internal/util/Preconditions$3"), (3, u "IOOBE_FORMATTER")] 57

def k19m0 : Method := { name := "<init>", desc := "()V", sig := { parameters := [], returnType := none }, accessFlags := 1, code := none }
/-- jdk/internal/util/Preconditions -/
def k19 : Class := { plain "jdk/internal/util/Preconditions" (some 0) with
  accessFlags := 33
  interfaces := #[]
  cf := some (fileOf pool19 24 #[.nestMembers #[55, 131, 125, 114]] #[{ accessFlags := 1, nameIndex := 5, descriptorIndex := 6, attributes := #[] }] 33 2 #[] #[{ accessFlags := 25, nameIndex := 123, descriptorIndex := 124, attributes := #[] }, { accessFlags := 25, nameIndex := 130, descriptorIndex := 124, attributes := #[] }, { accessFlags := 25, nameIndex := 136, descriptorIndex := 124, attributes := #[] }])
  fields := #[{ name := "SIOOBE_FORMATTER", type := (.object "java/util/function/BiFunction"), accessFlags := 25, slot := 0, constantValue := 0 }, { name := "AIOOBE_FORMATTER", type := (.object "java/util/function/BiFunction"), accessFlags := 25, slot := 1, constantValue := 0 }, { name := "IOOBE_FORMATTER", type := (.object "java/util/function/BiFunction"), accessFlags := 25, slot := 2, constantValue := 0 }]
  methods := #[k19m0]
  instanceTypes := #[]
  staticTypes := #[(.object "java/util/function/BiFunction"), (.object "java/util/function/BiFunction"), (.object "java/util/function/BiFunction")]
  resolved := Array.replicate 194 none
  statics := some 4 }

def pool20 : Array CpInfo := pool [(9, u "<init>"), (6, .class_ 18), (1, u "java/lang/Object"), (0, u "()V"), (1, .class_ 23), (1, u "jdk/internal/util/ArraysSupport"), (0, u "LOG2_ARRAY_LONG_INDEX_SCALE"), (0, u "I"), (2, u "U"), (0, u "Ljdk/internal/misc/Unsafe;"), (8, u "BIG_ENDIAN"), (0, u "Z"), (8, u "LOG2_BYTE_BIT_SIZE"), (4, u "LOG2_ARRAY_INT_INDEX_SCALE"), (54, u "JLA"), (0, u "Ljdk/internal/access/JavaLangAccess;"), (11, u "LOG2_ARRAY_BOOLEAN_INDEX_SCALE"), (9, u "LOG2_ARRAY_BYTE_INDEX_SCALE"), (5, u "LOG2_ARRAY_CHAR_INDEX_SCALE"), (5, u "LOG2_ARRAY_SHORT_INDEX_SCALE"), (18, u "LOG2_ARRAY_FLOAT_INDEX_SCALE"), (24, u "LOG2_ARRAY_DOUBLE_INDEX_SCALE"), (89, u "T_BOOLEAN"), (2, u "T_CHAR"), (1, u "T_FLOAT"), (1, u "T_DOUBLE"), (1, u "T_BYTE"), (1, u "T_SHORT"), (1, u "T_INT"), (1, u "T_LONG"), (1, u "SOFT_MAX_ARRAY_LENGTH")] 83

def k20m0 : Method := { name := "<init>", desc := "()V", sig := { parameters := [], returnType := none }, accessFlags := 2, code := none }
/-- jdk/internal/util/ArraysSupport -/
def k20 : Class := { plain "jdk/internal/util/ArraysSupport" (some 0) with
  accessFlags := 33
  interfaces := #[]
  cf := some (fileOf pool20 21 #[] #[{ accessFlags := 2, nameIndex := 9, descriptorIndex := 19, attributes := #[] }] 33 16 #[] #[{ accessFlags := 24, nameIndex := 28, descriptorIndex := 29, attributes := #[] }, { accessFlags := 26, nameIndex := 38, descriptorIndex := 39, attributes := #[] }, { accessFlags := 25, nameIndex := 121, descriptorIndex := 25, attributes := #[] }, { accessFlags := 25, nameIndex := 131, descriptorIndex := 25, attributes := #[] }, { accessFlags := 25, nameIndex := 137, descriptorIndex := 25, attributes := #[] }, { accessFlags := 25, nameIndex := 143, descriptorIndex := 25, attributes := #[] }, { accessFlags := 25, nameIndex := 53, descriptorIndex := 25, attributes := #[] }, { accessFlags := 25, nameIndex := 24, descriptorIndex := 25, attributes := #[] }, { accessFlags := 25, nameIndex := 162, descriptorIndex := 25, attributes := #[] }, { accessFlags := 25, nameIndex := 187, descriptorIndex := 25, attributes := #[] }, { accessFlags := 26, nameIndex := 48, descriptorIndex := 25, attributes := #[] }, { accessFlags := 25, nameIndex := 277, descriptorIndex := 25, attributes := #[] }, { accessFlags := 25, nameIndex := 280, descriptorIndex := 25, attributes := #[] }, { accessFlags := 25, nameIndex := 282, descriptorIndex := 25, attributes := #[] }, { accessFlags := 25, nameIndex := 284, descriptorIndex := 25, attributes := #[] }, { accessFlags := 25, nameIndex := 286, descriptorIndex := 25, attributes := #[] }, { accessFlags := 25, nameIndex := 288, descriptorIndex := 25, attributes := #[] }, { accessFlags := 25, nameIndex := 290, descriptorIndex := 25, attributes := #[] }, { accessFlags := 25, nameIndex := 292, descriptorIndex := 25, attributes := #[] }, { accessFlags := 26, nameIndex := 108, descriptorIndex := 109, attributes := #[] }, { accessFlags := 25, nameIndex := 294, descriptorIndex := 25, attributes := #[] }])
  fields := #[{ name := "U", type := (.object "jdk/internal/misc/Unsafe"), accessFlags := 24, slot := 0, constantValue := 0 }, { name := "BIG_ENDIAN", type := .boolean, accessFlags := 26, slot := 1, constantValue := 0 }, { name := "LOG2_ARRAY_BOOLEAN_INDEX_SCALE", type := .int, accessFlags := 25, slot := 2, constantValue := 0 }, { name := "LOG2_ARRAY_BYTE_INDEX_SCALE", type := .int, accessFlags := 25, slot := 3, constantValue := 0 }, { name := "LOG2_ARRAY_CHAR_INDEX_SCALE", type := .int, accessFlags := 25, slot := 4, constantValue := 0 }, { name := "LOG2_ARRAY_SHORT_INDEX_SCALE", type := .int, accessFlags := 25, slot := 5, constantValue := 0 }, { name := "LOG2_ARRAY_INT_INDEX_SCALE", type := .int, accessFlags := 25, slot := 6, constantValue := 0 }, { name := "LOG2_ARRAY_LONG_INDEX_SCALE", type := .int, accessFlags := 25, slot := 7, constantValue := 0 }, { name := "LOG2_ARRAY_FLOAT_INDEX_SCALE", type := .int, accessFlags := 25, slot := 8, constantValue := 0 }, { name := "LOG2_ARRAY_DOUBLE_INDEX_SCALE", type := .int, accessFlags := 25, slot := 9, constantValue := 0 }, { name := "LOG2_BYTE_BIT_SIZE", type := .int, accessFlags := 26, slot := 10, constantValue := 0 }, { name := "T_BOOLEAN", type := .int, accessFlags := 25, slot := 11, constantValue := 0 }, { name := "T_CHAR", type := .int, accessFlags := 25, slot := 12, constantValue := 0 }, { name := "T_FLOAT", type := .int, accessFlags := 25, slot := 13, constantValue := 0 }, { name := "T_DOUBLE", type := .int, accessFlags := 25, slot := 14, constantValue := 0 }, { name := "T_BYTE", type := .int, accessFlags := 25, slot := 15, constantValue := 0 }, { name := "T_SHORT", type := .int, accessFlags := 25, slot := 16, constantValue := 0 }, { name := "T_INT", type := .int, accessFlags := 25, slot := 17, constantValue := 0 }, { name := "T_LONG", type := .int, accessFlags := 25, slot := 18, constantValue := 0 }, { name := "JLA", type := (.object "jdk/internal/access/JavaLangAccess"), accessFlags := 26, slot := 19, constantValue := 0 }, { name := "SOFT_MAX_ARRAY_LENGTH", type := .int, accessFlags := 25, slot := 20, constantValue := 0 }]
  methods := #[k20m0]
  instanceTypes := #[]
  staticTypes := #[(.object "jdk/internal/misc/Unsafe"), .boolean, .int, .int, .int, .int, .int, .int, .int, .int, .int, .int, .int, .int, .int, .int, .int, .int, .int, (.object "jdk/internal/access/JavaLangAccess"), .int]
  resolved := Array.replicate 378 none
  statics := none }

def pool21 : Array CpInfo := pool [(1, u "java/lang/Cloneable"), (0, .class_ 1), (0, u "java/lang/Object"), (0, .class_ 3)] 3

/-- java/lang/Cloneable -/
def k21 : Class := { plain "java/lang/Cloneable" (some 0) with
  accessFlags := 1537
  interfaces := #[]
  cf := some (fileOf pool21 2 #[] #[] 1537 4 #[] #[])
  fields := #[]
  methods := #[]
  instanceTypes := #[]
  staticTypes := #[]
  resolved := Array.replicate 8 none
  statics := none }

/-- the primitive byte -/
def k22 : Class := { plain "byte" none with kind := .primitive 'B', accessFlags := 0x411 }
/-- [B -/
def k23 : Class := { plain "[B" (some 0) with kind := .array 22 .byte, interfaces := #[21, 2], accessFlags := 1041 }

/-- the primitive int -/
def k24 : Class := { plain "int" none with kind := .primitive 'I', accessFlags := 0x411 }
/-- [I -/
def k25 : Class := { plain "[I" (some 0) with kind := .array 24 .int, interfaces := #[21, 2], accessFlags := 1041 }

/-- [Ljava/lang/Integer; -/
def k26 : Class := { plain "[Ljava/lang/Integer;" (some 0) with kind := .array 17 (.object "java/lang/Integer"), interfaces := #[21, 2], accessFlags := 1041 }

def heap : Heap := #[{ cls := 7, slots := #[.long 0, .int 1, .null, .int 0, .null, .int 0, .int 0], vm := .statics 7 },
  { cls := 9, slots := #[.ref 267], vm := .statics 9 },
  { cls := 11, slots := #[.ref 9, .ref 10, .ref 7, .ref 8, .ref 6, .null], vm := .statics 11 },
  { cls := 18, slots := #[.int 0, .int 127, .ref 5, .null, .int 0], vm := .statics 18 },
  { cls := 19, slots := #[.null, .null, .null], vm := .statics 19 },
  { cls := 26, slots := #[.ref 11, .ref 12, .ref 13, .ref 14, .ref 15, .ref 16, .ref 17, .ref 18, .ref 19, .ref 20, .ref 21, .ref 22, .ref 23, .ref 24, .ref 25, .ref 26, .ref 27, .ref 28, .ref 29, .ref 30, .ref 31, .ref 32, .ref 33, .ref 34, .ref 35, .ref 36, .ref 37, .ref 38, .ref 39, .ref 40, .ref 41, .ref 42, .ref 43, .ref 44, .ref 45, .ref 46, .ref 47, .ref 48, .ref 49, .ref 50, .ref 51, .ref 52, .ref 53, .ref 54, .ref 55, .ref 56, .ref 57, .ref 58, .ref 59, .ref 60, .ref 61, .ref 62, .ref 63, .ref 64, .ref 65, .ref 66, .ref 67, .ref 68, .ref 69, .ref 70, .ref 71, .ref 72, .ref 73, .ref 74, .ref 75, .ref 76, .ref 77, .ref 78, .ref 79, .ref 80, .ref 81, .ref 82, .ref 83, .ref 84, .ref 85, .ref 86, .ref 87, .ref 88, .ref 89, .ref 90, .ref 91, .ref 92, .ref 93, .ref 94, .ref 95, .ref 96, .ref 97, .ref 98, .ref 99, .ref 100, .ref 101, .ref 102, .ref 103, .ref 104, .ref 105, .ref 106, .ref 107, .ref 108, .ref 109, .ref 110, .ref 111, .ref 112, .ref 113, .ref 114, .ref 115, .ref 116, .ref 117, .ref 118, .ref 119, .ref 120, .ref 121, .ref 122, .ref 123, .ref 124, .ref 125, .ref 126, .ref 127, .ref 128, .ref 129, .ref 130, .ref 131, .ref 132, .ref 133, .ref 134, .ref 135, .ref 136, .ref 137, .ref 138, .ref 139, .ref 140, .ref 141, .ref 142, .ref 143, .ref 144, .ref 145, .ref 146, .ref 147, .ref 148, .ref 149, .ref 150, .ref 151, .ref 152, .ref 153, .ref 154, .ref 155, .ref 156, .ref 157, .ref 158, .ref 159, .ref 160, .ref 161, .ref 162, .ref 163, .ref 164, .ref 165, .ref 166, .ref 167, .ref 168, .ref 169, .ref 170, .ref 171, .ref 172, .ref 173, .ref 174, .ref 175, .ref 176, .ref 177, .ref 178, .ref 179, .ref 180, .ref 181, .ref 182, .ref 183, .ref 184, .ref 185, .ref 186, .ref 187, .ref 188, .ref 189, .ref 190, .ref 191, .ref 192, .ref 193, .ref 194, .ref 195, .ref 196, .ref 197, .ref 198, .ref 199, .ref 200, .ref 201, .ref 202, .ref 203, .ref 204, .ref 205, .ref 206, .ref 207, .ref 208, .ref 209, .ref 210, .ref 211, .ref 212, .ref 213, .ref 214, .ref 215, .ref 216, .ref 217, .ref 218, .ref 219, .ref 220, .ref 221, .ref 222, .ref 223, .ref 224, .ref 225, .ref 226, .ref 227, .ref 228, .ref 229, .ref 230, .ref 231, .ref 232, .ref 233, .ref 234, .ref 235, .ref 236, .ref 237, .ref 238, .ref 239, .ref 240, .ref 241, .ref 242, .ref 243, .ref 244, .ref 245, .ref 246, .ref 247, .ref 248, .ref 249, .ref 250, .ref 251, .ref 252, .ref 253, .ref 254, .ref 255, .ref 256, .ref 257, .ref 258, .ref 259, .ref 260, .ref 261, .ref 262, .ref 263, .ref 264, .ref 265, .ref 266], vm := .none },
  { cls := 11, slots := #[.null, .int 0, .int 0, .null], vm := .none },
  { cls := 11, slots := #[.null, .int 1, .int 0, .null], vm := .none },
  { cls := 11, slots := #[.null, .int 2, .int 0, .null], vm := .none },
  { cls := 11, slots := #[.null, .int 3, .int 0, .null], vm := .none },
  { cls := 11, slots := #[.null, .int 4, .int 0, .null], vm := .none },
  { cls := 17, slots := #[.int (-128)], vm := .none },
  { cls := 17, slots := #[.int (-127)], vm := .none },
  { cls := 17, slots := #[.int (-126)], vm := .none },
  { cls := 17, slots := #[.int (-125)], vm := .none },
  { cls := 17, slots := #[.int (-124)], vm := .none },
  { cls := 17, slots := #[.int (-123)], vm := .none },
  { cls := 17, slots := #[.int (-122)], vm := .none },
  { cls := 17, slots := #[.int (-121)], vm := .none },
  { cls := 17, slots := #[.int (-120)], vm := .none },
  { cls := 17, slots := #[.int (-119)], vm := .none },
  { cls := 17, slots := #[.int (-118)], vm := .none },
  { cls := 17, slots := #[.int (-117)], vm := .none },
  { cls := 17, slots := #[.int (-116)], vm := .none },
  { cls := 17, slots := #[.int (-115)], vm := .none },
  { cls := 17, slots := #[.int (-114)], vm := .none },
  { cls := 17, slots := #[.int (-113)], vm := .none },
  { cls := 17, slots := #[.int (-112)], vm := .none },
  { cls := 17, slots := #[.int (-111)], vm := .none },
  { cls := 17, slots := #[.int (-110)], vm := .none },
  { cls := 17, slots := #[.int (-109)], vm := .none },
  { cls := 17, slots := #[.int (-108)], vm := .none },
  { cls := 17, slots := #[.int (-107)], vm := .none },
  { cls := 17, slots := #[.int (-106)], vm := .none },
  { cls := 17, slots := #[.int (-105)], vm := .none },
  { cls := 17, slots := #[.int (-104)], vm := .none },
  { cls := 17, slots := #[.int (-103)], vm := .none },
  { cls := 17, slots := #[.int (-102)], vm := .none },
  { cls := 17, slots := #[.int (-101)], vm := .none },
  { cls := 17, slots := #[.int (-100)], vm := .none },
  { cls := 17, slots := #[.int (-99)], vm := .none },
  { cls := 17, slots := #[.int (-98)], vm := .none },
  { cls := 17, slots := #[.int (-97)], vm := .none },
  { cls := 17, slots := #[.int (-96)], vm := .none },
  { cls := 17, slots := #[.int (-95)], vm := .none },
  { cls := 17, slots := #[.int (-94)], vm := .none },
  { cls := 17, slots := #[.int (-93)], vm := .none },
  { cls := 17, slots := #[.int (-92)], vm := .none },
  { cls := 17, slots := #[.int (-91)], vm := .none },
  { cls := 17, slots := #[.int (-90)], vm := .none },
  { cls := 17, slots := #[.int (-89)], vm := .none },
  { cls := 17, slots := #[.int (-88)], vm := .none },
  { cls := 17, slots := #[.int (-87)], vm := .none },
  { cls := 17, slots := #[.int (-86)], vm := .none },
  { cls := 17, slots := #[.int (-85)], vm := .none },
  { cls := 17, slots := #[.int (-84)], vm := .none },
  { cls := 17, slots := #[.int (-83)], vm := .none },
  { cls := 17, slots := #[.int (-82)], vm := .none },
  { cls := 17, slots := #[.int (-81)], vm := .none },
  { cls := 17, slots := #[.int (-80)], vm := .none },
  { cls := 17, slots := #[.int (-79)], vm := .none },
  { cls := 17, slots := #[.int (-78)], vm := .none },
  { cls := 17, slots := #[.int (-77)], vm := .none },
  { cls := 17, slots := #[.int (-76)], vm := .none },
  { cls := 17, slots := #[.int (-75)], vm := .none },
  { cls := 17, slots := #[.int (-74)], vm := .none },
  { cls := 17, slots := #[.int (-73)], vm := .none },
  { cls := 17, slots := #[.int (-72)], vm := .none },
  { cls := 17, slots := #[.int (-71)], vm := .none },
  { cls := 17, slots := #[.int (-70)], vm := .none },
  { cls := 17, slots := #[.int (-69)], vm := .none },
  { cls := 17, slots := #[.int (-68)], vm := .none },
  { cls := 17, slots := #[.int (-67)], vm := .none },
  { cls := 17, slots := #[.int (-66)], vm := .none },
  { cls := 17, slots := #[.int (-65)], vm := .none },
  { cls := 17, slots := #[.int (-64)], vm := .none },
  { cls := 17, slots := #[.int (-63)], vm := .none },
  { cls := 17, slots := #[.int (-62)], vm := .none },
  { cls := 17, slots := #[.int (-61)], vm := .none },
  { cls := 17, slots := #[.int (-60)], vm := .none },
  { cls := 17, slots := #[.int (-59)], vm := .none },
  { cls := 17, slots := #[.int (-58)], vm := .none },
  { cls := 17, slots := #[.int (-57)], vm := .none },
  { cls := 17, slots := #[.int (-56)], vm := .none },
  { cls := 17, slots := #[.int (-55)], vm := .none },
  { cls := 17, slots := #[.int (-54)], vm := .none },
  { cls := 17, slots := #[.int (-53)], vm := .none },
  { cls := 17, slots := #[.int (-52)], vm := .none },
  { cls := 17, slots := #[.int (-51)], vm := .none },
  { cls := 17, slots := #[.int (-50)], vm := .none },
  { cls := 17, slots := #[.int (-49)], vm := .none },
  { cls := 17, slots := #[.int (-48)], vm := .none },
  { cls := 17, slots := #[.int (-47)], vm := .none },
  { cls := 17, slots := #[.int (-46)], vm := .none },
  { cls := 17, slots := #[.int (-45)], vm := .none },
  { cls := 17, slots := #[.int (-44)], vm := .none },
  { cls := 17, slots := #[.int (-43)], vm := .none },
  { cls := 17, slots := #[.int (-42)], vm := .none },
  { cls := 17, slots := #[.int (-41)], vm := .none },
  { cls := 17, slots := #[.int (-40)], vm := .none },
  { cls := 17, slots := #[.int (-39)], vm := .none },
  { cls := 17, slots := #[.int (-38)], vm := .none },
  { cls := 17, slots := #[.int (-37)], vm := .none },
  { cls := 17, slots := #[.int (-36)], vm := .none },
  { cls := 17, slots := #[.int (-35)], vm := .none },
  { cls := 17, slots := #[.int (-34)], vm := .none },
  { cls := 17, slots := #[.int (-33)], vm := .none },
  { cls := 17, slots := #[.int (-32)], vm := .none },
  { cls := 17, slots := #[.int (-31)], vm := .none },
  { cls := 17, slots := #[.int (-30)], vm := .none },
  { cls := 17, slots := #[.int (-29)], vm := .none },
  { cls := 17, slots := #[.int (-28)], vm := .none },
  { cls := 17, slots := #[.int (-27)], vm := .none },
  { cls := 17, slots := #[.int (-26)], vm := .none },
  { cls := 17, slots := #[.int (-25)], vm := .none },
  { cls := 17, slots := #[.int (-24)], vm := .none },
  { cls := 17, slots := #[.int (-23)], vm := .none },
  { cls := 17, slots := #[.int (-22)], vm := .none },
  { cls := 17, slots := #[.int (-21)], vm := .none },
  { cls := 17, slots := #[.int (-20)], vm := .none },
  { cls := 17, slots := #[.int (-19)], vm := .none },
  { cls := 17, slots := #[.int (-18)], vm := .none },
  { cls := 17, slots := #[.int (-17)], vm := .none },
  { cls := 17, slots := #[.int (-16)], vm := .none },
  { cls := 17, slots := #[.int (-15)], vm := .none },
  { cls := 17, slots := #[.int (-14)], vm := .none },
  { cls := 17, slots := #[.int (-13)], vm := .none },
  { cls := 17, slots := #[.int (-12)], vm := .none },
  { cls := 17, slots := #[.int (-11)], vm := .none },
  { cls := 17, slots := #[.int (-10)], vm := .none },
  { cls := 17, slots := #[.int (-9)], vm := .none },
  { cls := 17, slots := #[.int (-8)], vm := .none },
  { cls := 17, slots := #[.int (-7)], vm := .none },
  { cls := 17, slots := #[.int (-6)], vm := .none },
  { cls := 17, slots := #[.int (-5)], vm := .none },
  { cls := 17, slots := #[.int (-4)], vm := .none },
  { cls := 17, slots := #[.int (-3)], vm := .none },
  { cls := 17, slots := #[.int (-2)], vm := .none },
  { cls := 17, slots := #[.int (-1)], vm := .none },
  { cls := 17, slots := #[.int 0], vm := .none },
  { cls := 17, slots := #[.int 1], vm := .none },
  { cls := 17, slots := #[.int 2], vm := .none },
  { cls := 17, slots := #[.int 3], vm := .none },
  { cls := 17, slots := #[.int 4], vm := .none },
  { cls := 17, slots := #[.int 5], vm := .none },
  { cls := 17, slots := #[.int 6], vm := .none },
  { cls := 17, slots := #[.int 7], vm := .none },
  { cls := 17, slots := #[.int 8], vm := .none },
  { cls := 17, slots := #[.int 9], vm := .none },
  { cls := 17, slots := #[.int 10], vm := .none },
  { cls := 17, slots := #[.int 11], vm := .none },
  { cls := 17, slots := #[.int 12], vm := .none },
  { cls := 17, slots := #[.int 13], vm := .none },
  { cls := 17, slots := #[.int 14], vm := .none },
  { cls := 17, slots := #[.int 15], vm := .none },
  { cls := 17, slots := #[.int 16], vm := .none },
  { cls := 17, slots := #[.int 17], vm := .none },
  { cls := 17, slots := #[.int 18], vm := .none },
  { cls := 17, slots := #[.int 19], vm := .none },
  { cls := 17, slots := #[.int 20], vm := .none },
  { cls := 17, slots := #[.int 21], vm := .none },
  { cls := 17, slots := #[.int 22], vm := .none },
  { cls := 17, slots := #[.int 23], vm := .none },
  { cls := 17, slots := #[.int 24], vm := .none },
  { cls := 17, slots := #[.int 25], vm := .none },
  { cls := 17, slots := #[.int 26], vm := .none },
  { cls := 17, slots := #[.int 27], vm := .none },
  { cls := 17, slots := #[.int 28], vm := .none },
  { cls := 17, slots := #[.int 29], vm := .none },
  { cls := 17, slots := #[.int 30], vm := .none },
  { cls := 17, slots := #[.int 31], vm := .none },
  { cls := 17, slots := #[.int 32], vm := .none },
  { cls := 17, slots := #[.int 33], vm := .none },
  { cls := 17, slots := #[.int 34], vm := .none },
  { cls := 17, slots := #[.int 35], vm := .none },
  { cls := 17, slots := #[.int 36], vm := .none },
  { cls := 17, slots := #[.int 37], vm := .none },
  { cls := 17, slots := #[.int 38], vm := .none },
  { cls := 17, slots := #[.int 39], vm := .none },
  { cls := 17, slots := #[.int 40], vm := .none },
  { cls := 17, slots := #[.int 41], vm := .none },
  { cls := 17, slots := #[.int 42], vm := .none },
  { cls := 17, slots := #[.int 43], vm := .none },
  { cls := 17, slots := #[.int 44], vm := .none },
  { cls := 17, slots := #[.int 45], vm := .none },
  { cls := 17, slots := #[.int 46], vm := .none },
  { cls := 17, slots := #[.int 47], vm := .none },
  { cls := 17, slots := #[.int 48], vm := .none },
  { cls := 17, slots := #[.int 49], vm := .none },
  { cls := 17, slots := #[.int 50], vm := .none },
  { cls := 17, slots := #[.int 51], vm := .none },
  { cls := 17, slots := #[.int 52], vm := .none },
  { cls := 17, slots := #[.int 53], vm := .none },
  { cls := 17, slots := #[.int 54], vm := .none },
  { cls := 17, slots := #[.int 55], vm := .none },
  { cls := 17, slots := #[.int 56], vm := .none },
  { cls := 17, slots := #[.int 57], vm := .none },
  { cls := 17, slots := #[.int 58], vm := .none },
  { cls := 17, slots := #[.int 59], vm := .none },
  { cls := 17, slots := #[.int 60], vm := .none },
  { cls := 17, slots := #[.int 61], vm := .none },
  { cls := 17, slots := #[.int 62], vm := .none },
  { cls := 17, slots := #[.int 63], vm := .none },
  { cls := 17, slots := #[.int 64], vm := .none },
  { cls := 17, slots := #[.int 65], vm := .none },
  { cls := 17, slots := #[.int 66], vm := .none },
  { cls := 17, slots := #[.int 67], vm := .none },
  { cls := 17, slots := #[.int 68], vm := .none },
  { cls := 17, slots := #[.int 69], vm := .none },
  { cls := 17, slots := #[.int 70], vm := .none },
  { cls := 17, slots := #[.int 71], vm := .none },
  { cls := 17, slots := #[.int 72], vm := .none },
  { cls := 17, slots := #[.int 73], vm := .none },
  { cls := 17, slots := #[.int 74], vm := .none },
  { cls := 17, slots := #[.int 75], vm := .none },
  { cls := 17, slots := #[.int 76], vm := .none },
  { cls := 17, slots := #[.int 77], vm := .none },
  { cls := 17, slots := #[.int 78], vm := .none },
  { cls := 17, slots := #[.int 79], vm := .none },
  { cls := 17, slots := #[.int 80], vm := .none },
  { cls := 17, slots := #[.int 81], vm := .none },
  { cls := 17, slots := #[.int 82], vm := .none },
  { cls := 17, slots := #[.int 83], vm := .none },
  { cls := 17, slots := #[.int 84], vm := .none },
  { cls := 17, slots := #[.int 85], vm := .none },
  { cls := 17, slots := #[.int 86], vm := .none },
  { cls := 17, slots := #[.int 87], vm := .none },
  { cls := 17, slots := #[.int 88], vm := .none },
  { cls := 17, slots := #[.int 89], vm := .none },
  { cls := 17, slots := #[.int 90], vm := .none },
  { cls := 17, slots := #[.int 91], vm := .none },
  { cls := 17, slots := #[.int 92], vm := .none },
  { cls := 17, slots := #[.int 93], vm := .none },
  { cls := 17, slots := #[.int 94], vm := .none },
  { cls := 17, slots := #[.int 95], vm := .none },
  { cls := 17, slots := #[.int 96], vm := .none },
  { cls := 17, slots := #[.int 97], vm := .none },
  { cls := 17, slots := #[.int 98], vm := .none },
  { cls := 17, slots := #[.int 99], vm := .none },
  { cls := 17, slots := #[.int 100], vm := .none },
  { cls := 17, slots := #[.int 101], vm := .none },
  { cls := 17, slots := #[.int 102], vm := .none },
  { cls := 17, slots := #[.int 103], vm := .none },
  { cls := 17, slots := #[.int 104], vm := .none },
  { cls := 17, slots := #[.int 105], vm := .none },
  { cls := 17, slots := #[.int 106], vm := .none },
  { cls := 17, slots := #[.int 107], vm := .none },
  { cls := 17, slots := #[.int 108], vm := .none },
  { cls := 17, slots := #[.int 109], vm := .none },
  { cls := 17, slots := #[.int 110], vm := .none },
  { cls := 17, slots := #[.int 111], vm := .none },
  { cls := 17, slots := #[.int 112], vm := .none },
  { cls := 17, slots := #[.int 113], vm := .none },
  { cls := 17, slots := #[.int 114], vm := .none },
  { cls := 17, slots := #[.int 115], vm := .none },
  { cls := 17, slots := #[.int 116], vm := .none },
  { cls := 17, slots := #[.int 117], vm := .none },
  { cls := 17, slots := #[.int 118], vm := .none },
  { cls := 17, slots := #[.int 119], vm := .none },
  { cls := 17, slots := #[.int 120], vm := .none },
  { cls := 17, slots := #[.int 121], vm := .none },
  { cls := 17, slots := #[.int 122], vm := .none },
  { cls := 17, slots := #[.int 123], vm := .none },
  { cls := 17, slots := #[.int 124], vm := .none },
  { cls := 17, slots := #[.int 125], vm := .none },
  { cls := 17, slots := #[.int 126], vm := .none },
  { cls := 17, slots := #[.int 127], vm := .none },
  { cls := 9, slots := #[.null], vm := .none }]
def classes : Array Class := #[k0, k1, k2, k3, k4, k5, k6, k7, k8, k9, k10, k11, k12, k13, k14, k15, k16, k17, k18, k19, k20, k21, k22, k23, k24, k25, k26]
def interned : List (Array UInt16 × Addr) := []
def slotsUsed : Nat := 555
def theMethod : MethodId := ⟨1, 1⟩
def args0 : Array Value := #[.int 4, .int 2, .int 77]
def aboutOver (below : List Frame) : State where
  vm := { classes := classes, interned := interned.toArray }
  heap := heap
  slotsUsed := slotsUsed
  threads := #[{ frames := .invoking theMethod args0 :: below }]
def below0 : List Frame := [.native { method := ⟨0, 0⟩, args := #[] }]
def about1 : State := aboutOver below0
def p0 : Program := .bare "" "" ""
def e0 : Env := launch0.env 0 0 0
theorem w_frames : about1.frames = Frame.invoking theMethod args0 :: below0 := rfl
set_option maxRecDepth 65536 in
theorem w_args : argsFit about1.vm theMethod args0 = true := by decide +kernel
set_option maxRecDepth 65536 in
theorem w_heap : heapFits about1 = true := by decide +kernel
set_option maxRecDepth 65536 in
theorem w_runnable : about1.curStatus? = some .runnable := by decide +kernel
set_option maxRecDepth 65536 in
theorem w_alone : about1.alone = true := by decide +kernel
set_option maxRecDepth 65536 in
theorem w_named : about1.methodNamed? x = some theMethod := by decide +kernel
set_option maxRecDepth 65536 in
theorem w_hears : about1.hears theMethod below0 = true := by decide +kernel
set_option maxRecDepth 65536 in
theorem w_ripe : about1.ripe theMethod args0 below0 = true := by decide +kernel
theorem w_running : about1.status = .running := rfl
set_option maxRecDepth 65536 in
theorem w_room : about1.hasRoom e0.platform room_1 = true :=
  launch0.hasRoom_least _ room_1 (by decide +kernel) (by decide +kernel) (by decide +kernel) (by decide +kernel) (by decide +kernel) (by decide +kernel)
theorem allAtoms_all (ts : List Jvm.Cond) (a : Array Jvm.Value) (st : Jvm.State) : (allAtoms ts).before a st = ts.all (fun c => c.before a st) := by
  induction ts with
  | nil => rfl
  | cons c t ih =>
    show (Jvm.Cond.and c (allAtoms t)).before a st = _
    rw [Jvm.Cond.before_and, ih, List.all_cons]
def words1 : List Jvm.Cond := Jvm.Cond.code x code maxLocals ret :: tables_1
/-- a 'code' word, met by the world's own term for the bytes: nothing is compared byte by byte -/
theorem code_word {y : MethodName} {bytes : ByteArray} {mx : Nat} {rt : Option FieldType} {a : Array Value} {s : State} {m : MethodId} {meth : Method} {c : Code} (h1 : s.methodNamed? y = some m) (h2 : s.vm.method? m = some meth) (h3 : meth.code = some c) (h4 : c.code = bytes)
    (h5 : (c.maxLocals == mx && c.exceptionTable.isEmpty && decide (c.maxStack ≤ mostOperands) && decide (meth.sig.returnType = rt) && !meth.locks && decide (parseMethodDescriptor y.desc = some meth.sig)) = true) : (Jvm.Cond.code y bytes mx rt).before a s = true := by
  simp only [Bool.and_eq_true, beq_iff_eq, Bool.not_eq_true', decide_eq_true_eq] at h5
  obtain ⟨⟨⟨⟨⟨g1, g2⟩, g3⟩, g4⟩, g5⟩, g6⟩ := h5
  simp [Cond.before, Cond.holds, Cond.value, h1, h2, h3, h4, g1, g2, g3, g4, g5, g6]
def isCode : Jvm.Cond → Bool
  | .code _ _ _ _ => true
  | _ => false
theorem all_split {L : List Jvm.Cond} {P : Jvm.Cond → Bool} (h1 : L.all (fun c => isCode c || P c) = true) (h2 : ∀ c ∈ L.filter isCode, P c = true) : L.all P = true := by
  refine List.all_eq_true.mpr fun c hc => ?_
  have h := List.all_eq_true.mp h1 c hc
  rcases Bool.eq_false_or_eq_true (isCode c) with hi | hi
  · exact h2 c (List.mem_filter.mpr ⟨hc, hi⟩)
  · simpa [hi] using h
set_option maxRecDepth 65536 in
theorem w_c0 : (Jvm.Cond.code x code maxLocals ret).before args0 about1 = true := code_word (m := ⟨1, 1⟩) (meth := k1m1) (c := k1c1) (by decide +kernel) rfl rfl rfl (by decide +kernel)
set_option maxRecDepth 65536 in
theorem w_c1 : (Jvm.Cond.code ({ cls := "java/lang/String", name := "valueOf", desc := "(C)Ljava/lang/String;" } : Jvm.MethodName) jdk_42_method_139_code (1 : Nat) (Option.some (Jvm.ClassFile.FieldType.object "java/lang/String"))).before args0 about1 = true := code_word (m := ⟨7, 1⟩) (meth := k7m1) (c := k7c1) (by decide +kernel) rfl rfl rfl (by decide +kernel)
set_option maxRecDepth 65536 in
theorem w_c2 : (Jvm.Cond.code ({ cls := "java/lang/StringLatin1", name := "canEncode", desc := "(C)Z" } : Jvm.MethodName) jdk_43_method_3_code (1 : Nat) (Option.some Jvm.ClassFile.FieldType.boolean)).before args0 about1 = true := code_word (m := ⟨8, 1⟩) (meth := k8m1) (c := k8c1) (by decide +kernel) rfl rfl rfl (by decide +kernel)
set_option maxRecDepth 65536 in
theorem w_c3 : (Jvm.Cond.code ({ cls := "java/lang/StringLatin1", name := "toBytes", desc := "(C)[B" } : Jvm.MethodName) jdk_43_method_46_code (1 : Nat) (Option.some (Jvm.ClassFile.FieldType.array Jvm.ClassFile.FieldType.byte))).before args0 about1 = true := code_word (m := ⟨8, 2⟩) (meth := k8m2) (c := k8c2) (by decide +kernel) rfl rfl rfl (by decide +kernel)
set_option maxRecDepth 65536 in
theorem w_c4 : (Jvm.Cond.code ({ cls := "java/lang/String", name := "<init>", desc := "([BB)V" } : Jvm.MethodName) jdk_42_method_151_code (3 : Nat) (Option.none : Option Jvm.ClassFile.FieldType)).before args0 about1 = true := code_word (m := ⟨7, 2⟩) (meth := k7m2) (c := k7c2) (by decide +kernel) rfl rfl rfl (by decide +kernel)
set_option maxRecDepth 65536 in
theorem w_c5 : (Jvm.Cond.code ({ cls := "java/lang/Object", name := "<init>", desc := "()V" } : Jvm.MethodName) object_method_1_code (1 : Nat) (Option.none : Option Jvm.ClassFile.FieldType)).before args0 about1 = true := code_word (m := ⟨0, 0⟩) (meth := k0m0) (c := k0c0) (by decide +kernel) rfl rfl rfl (by decide +kernel)
set_option maxRecDepth 65536 in
theorem w_c6 : (Jvm.Cond.code ({ cls := "java/util/Optional", name := "empty", desc := "()Ljava/util/Optional;" } : Jvm.MethodName) jdk_32_method_1_code (1 : Nat) (Option.some (Jvm.ClassFile.FieldType.object "java/util/Optional"))).before args0 about1 = true := code_word (m := ⟨9, 0⟩) (meth := k9m0) (c := k9c0) (by decide +kernel) rfl rfl rfl (by decide +kernel)
set_option maxRecDepth 65536 in
theorem w_c7 : (Jvm.Cond.code ({ cls := "com/example/agave/agave/store/RequestState", name := "of", desc := "(Ljava/util/Optional;ZLjava/util/Optional;)Lcom/example/agave/agave/store/RequestState;" } : Jvm.MethodName) prog_13_method_4_code (4 : Nat) (Option.some (Jvm.ClassFile.FieldType.object "com/example/agave/agave/store/RequestState"))).before args0 about1 = true := code_word (m := ⟨11, 0⟩) (meth := k11m0) (c := k11c0) (by decide +kernel) rfl rfl rfl (by decide +kernel)
set_option maxRecDepth 65536 in
theorem w_c8 : (Jvm.Cond.code ({ cls := "java/util/Optional", name := "isEmpty", desc := "()Z" } : Jvm.MethodName) jdk_32_method_7_code (1 : Nat) (Option.some Jvm.ClassFile.FieldType.boolean)).before args0 about1 = true := code_word (m := ⟨9, 5⟩) (meth := k9m5) (c := k9c5) (by decide +kernel) rfl rfl rfl (by decide +kernel)
set_option maxRecDepth 65536 in
theorem w_c9 : (Jvm.Cond.code ({ cls := "java/util/Optional", name := "isPresent", desc := "()Z" } : Jvm.MethodName) jdk_32_method_6_code (1 : Nat) (Option.some Jvm.ClassFile.FieldType.boolean)).before args0 about1 = true := code_word (m := ⟨9, 4⟩) (meth := k9m4) (c := k9c4) (by decide +kernel) rfl rfl rfl (by decide +kernel)
set_option maxRecDepth 65536 in
theorem w_c10 : (Jvm.Cond.code ({ cls := "com/example/agave/agave/store/RequestStore$StoredRequest", name := "<init>", desc := "(Ljava/lang/String;Ljava/lang/String;Ljava/util/Optional;Ljava/util/Optional;Ljava/util/Optional;)V" } : Jvm.MethodName) prog_23_method_1_code (6 : Nat) (Option.none : Option Jvm.ClassFile.FieldType)).before args0 about1 = true := code_word (m := ⟨13, 0⟩) (meth := k13m0) (c := k13c0) (by decide +kernel) rfl rfl rfl (by decide +kernel)
set_option maxRecDepth 65536 in
theorem w_c11 : (Jvm.Cond.code ({ cls := "java/lang/Record", name := "<init>", desc := "()V" } : Jvm.MethodName) jdk_30_method_1_code (1 : Nat) (Option.none : Option Jvm.ClassFile.FieldType)).before args0 about1 = true := code_word (m := ⟨12, 0⟩) (meth := k12m0) (c := k12c0) (by decide +kernel) rfl rfl rfl (by decide +kernel)
set_option maxRecDepth 65536 in
theorem w_c12 : (Jvm.Cond.code ({ cls := "java/util/Optional", name := "of", desc := "(Ljava/lang/Object;)Ljava/util/Optional;" } : Jvm.MethodName) jdk_32_method_3_code (1 : Nat) (Option.some (Jvm.ClassFile.FieldType.object "java/util/Optional"))).before args0 about1 = true := code_word (m := ⟨9, 2⟩) (meth := k9m2) (c := k9c2) (by decide +kernel) rfl rfl rfl (by decide +kernel)
set_option maxRecDepth 65536 in
theorem w_c13 : (Jvm.Cond.code ({ cls := "java/util/Objects", name := "requireNonNull", desc := "(Ljava/lang/Object;)Ljava/lang/Object;" } : Jvm.MethodName) jdk_31_method_10_code (1 : Nat) (Option.some (Jvm.ClassFile.FieldType.object "java/lang/Object"))).before args0 about1 = true := code_word (m := ⟨14, 1⟩) (meth := k14m1) (c := k14c1) (by decide +kernel) rfl rfl rfl (by decide +kernel)
set_option maxRecDepth 65536 in
theorem w_c14 : (Jvm.Cond.code ({ cls := "java/util/Optional", name := "<init>", desc := "(Ljava/lang/Object;)V" } : Jvm.MethodName) jdk_32_method_2_code (2 : Nat) (Option.none : Option Jvm.ClassFile.FieldType)).before args0 about1 = true := code_word (m := ⟨9, 1⟩) (meth := k9m1) (c := k9c1) (by decide +kernel) rfl rfl rfl (by decide +kernel)
set_option maxRecDepth 65536 in
theorem w_c15 : (Jvm.Cond.code ({ cls := "java/util/Optional", name := "get", desc := "()Ljava/lang/Object;" } : Jvm.MethodName) jdk_32_method_5_code (1 : Nat) (Option.some (Jvm.ClassFile.FieldType.object "java/lang/Object"))).before args0 about1 = true := code_word (m := ⟨9, 3⟩) (meth := k9m3) (c := k9c3) (by decide +kernel) rfl rfl rfl (by decide +kernel)
set_option maxRecDepth 65536 in
theorem w_c16 : (Jvm.Cond.code ({ cls := "com/example/agave/agave/store/RequestStore$StoredRequest", name := "failure", desc := "()Ljava/util/Optional;" } : Jvm.MethodName) prog_23_method_10_code (1 : Nat) (Option.some (Jvm.ClassFile.FieldType.object "java/util/Optional"))).before args0 about1 = true := code_word (m := ⟨13, 2⟩) (meth := k13m2) (c := k13c2) (by decide +kernel) rfl rfl rfl (by decide +kernel)
set_option maxRecDepth 65536 in
theorem w_c17 : (Jvm.Cond.code ({ cls := "com/example/agave/agave/store/RequestStore$StoredRequest", name := "result", desc := "()Ljava/util/Optional;" } : Jvm.MethodName) prog_23_method_9_code (1 : Nat) (Option.some (Jvm.ClassFile.FieldType.object "java/util/Optional"))).before args0 about1 = true := code_word (m := ⟨13, 1⟩) (meth := k13m1) (c := k13c1) (by decide +kernel) rfl rfl rfl (by decide +kernel)
set_option maxRecDepth 65536 in
theorem w_c18 : (Jvm.Cond.code ({ cls := "com/example/agave/agave/store/RequestStore$Removal", name := "<init>", desc := "(Ljava/lang/String;ZLjava/time/Instant;Ljava/time/Instant;)V" } : Jvm.MethodName) prog_20_method_1_code (5 : Nat) (Option.none : Option Jvm.ClassFile.FieldType)).before args0 about1 = true := code_word (m := ⟨15, 0⟩) (meth := k15m0) (c := k15c0) (by decide +kernel) rfl rfl rfl (by decide +kernel)
set_option maxRecDepth 65536 in
theorem w_c19 : (Jvm.Cond.code ({ cls := "java/lang/Integer", name := "valueOf", desc := "(I)Ljava/lang/Integer;" } : Jvm.MethodName) jdk_33_method_22_code (1 : Nat) (Option.some (Jvm.ClassFile.FieldType.object "java/lang/Integer"))).before args0 about1 = true := code_word (m := ⟨17, 0⟩) (meth := k17m0) (c := k17c0) (by decide +kernel) rfl rfl rfl (by decide +kernel)
set_option maxRecDepth 65536 in
theorem w_c20 : (Jvm.Cond.code ({ cls := "java/lang/Integer", name := "<init>", desc := "(I)V" } : Jvm.MethodName) jdk_33_method_23_code (2 : Nat) (Option.none : Option Jvm.ClassFile.FieldType)).before args0 about1 = true := code_word (m := ⟨17, 1⟩) (meth := k17m1) (c := k17c1) (by decide +kernel) rfl rfl rfl (by decide +kernel)
set_option maxRecDepth 65536 in
theorem w_c21 : (Jvm.Cond.code ({ cls := "java/lang/Number", name := "<init>", desc := "()V" } : Jvm.MethodName) jdk_18_method_1_code (1 : Nat) (Option.none : Option Jvm.ClassFile.FieldType)).before args0 about1 = true := code_word (m := ⟨16, 0⟩) (meth := k16m0) (c := k16c0) (by decide +kernel) rfl rfl rfl (by decide +kernel)
def codes1 : List Jvm.Cond := [Jvm.Cond.code x code maxLocals ret, Jvm.Cond.code ({ cls := "java/lang/String", name := "valueOf", desc := "(C)Ljava/lang/String;" } : Jvm.MethodName) jdk_42_method_139_code (1 : Nat) (Option.some (Jvm.ClassFile.FieldType.object "java/lang/String")), Jvm.Cond.code ({ cls := "java/lang/StringLatin1", name := "canEncode", desc := "(C)Z" } : Jvm.MethodName) jdk_43_method_3_code (1 : Nat) (Option.some Jvm.ClassFile.FieldType.boolean), Jvm.Cond.code ({ cls := "java/lang/StringLatin1", name := "toBytes", desc := "(C)[B" } : Jvm.MethodName) jdk_43_method_46_code (1 : Nat) (Option.some (Jvm.ClassFile.FieldType.array Jvm.ClassFile.FieldType.byte)), Jvm.Cond.code ({ cls := "java/lang/String", name := "<init>", desc := "([BB)V" } : Jvm.MethodName) jdk_42_method_151_code (3 : Nat) (Option.none : Option Jvm.ClassFile.FieldType), Jvm.Cond.code ({ cls := "java/lang/Object", name := "<init>", desc := "()V" } : Jvm.MethodName) object_method_1_code (1 : Nat) (Option.none : Option Jvm.ClassFile.FieldType), Jvm.Cond.code ({ cls := "java/util/Optional", name := "empty", desc := "()Ljava/util/Optional;" } : Jvm.MethodName) jdk_32_method_1_code (1 : Nat) (Option.some (Jvm.ClassFile.FieldType.object "java/util/Optional")), Jvm.Cond.code ({ cls := "com/example/agave/agave/store/RequestState", name := "of", desc := "(Ljava/util/Optional;ZLjava/util/Optional;)Lcom/example/agave/agave/store/RequestState;" } : Jvm.MethodName) prog_13_method_4_code (4 : Nat) (Option.some (Jvm.ClassFile.FieldType.object "com/example/agave/agave/store/RequestState")), Jvm.Cond.code ({ cls := "java/util/Optional", name := "isEmpty", desc := "()Z" } : Jvm.MethodName) jdk_32_method_7_code (1 : Nat) (Option.some Jvm.ClassFile.FieldType.boolean), Jvm.Cond.code ({ cls := "java/util/Optional", name := "isPresent", desc := "()Z" } : Jvm.MethodName) jdk_32_method_6_code (1 : Nat) (Option.some Jvm.ClassFile.FieldType.boolean), Jvm.Cond.code ({ cls := "com/example/agave/agave/store/RequestStore$StoredRequest", name := "<init>", desc := "(Ljava/lang/String;Ljava/lang/String;Ljava/util/Optional;Ljava/util/Optional;Ljava/util/Optional;)V" } : Jvm.MethodName) prog_23_method_1_code (6 : Nat) (Option.none : Option Jvm.ClassFile.FieldType), Jvm.Cond.code ({ cls := "java/lang/Record", name := "<init>", desc := "()V" } : Jvm.MethodName) jdk_30_method_1_code (1 : Nat) (Option.none : Option Jvm.ClassFile.FieldType), Jvm.Cond.code ({ cls := "java/util/Optional", name := "of", desc := "(Ljava/lang/Object;)Ljava/util/Optional;" } : Jvm.MethodName) jdk_32_method_3_code (1 : Nat) (Option.some (Jvm.ClassFile.FieldType.object "java/util/Optional")), Jvm.Cond.code ({ cls := "java/util/Objects", name := "requireNonNull", desc := "(Ljava/lang/Object;)Ljava/lang/Object;" } : Jvm.MethodName) jdk_31_method_10_code (1 : Nat) (Option.some (Jvm.ClassFile.FieldType.object "java/lang/Object")), Jvm.Cond.code ({ cls := "java/util/Optional", name := "<init>", desc := "(Ljava/lang/Object;)V" } : Jvm.MethodName) jdk_32_method_2_code (2 : Nat) (Option.none : Option Jvm.ClassFile.FieldType), Jvm.Cond.code ({ cls := "java/util/Optional", name := "get", desc := "()Ljava/lang/Object;" } : Jvm.MethodName) jdk_32_method_5_code (1 : Nat) (Option.some (Jvm.ClassFile.FieldType.object "java/lang/Object")), Jvm.Cond.code ({ cls := "com/example/agave/agave/store/RequestStore$StoredRequest", name := "failure", desc := "()Ljava/util/Optional;" } : Jvm.MethodName) prog_23_method_10_code (1 : Nat) (Option.some (Jvm.ClassFile.FieldType.object "java/util/Optional")), Jvm.Cond.code ({ cls := "com/example/agave/agave/store/RequestStore$StoredRequest", name := "result", desc := "()Ljava/util/Optional;" } : Jvm.MethodName) prog_23_method_9_code (1 : Nat) (Option.some (Jvm.ClassFile.FieldType.object "java/util/Optional")), Jvm.Cond.code ({ cls := "com/example/agave/agave/store/RequestStore$Removal", name := "<init>", desc := "(Ljava/lang/String;ZLjava/time/Instant;Ljava/time/Instant;)V" } : Jvm.MethodName) prog_20_method_1_code (5 : Nat) (Option.none : Option Jvm.ClassFile.FieldType), Jvm.Cond.code ({ cls := "java/lang/Integer", name := "valueOf", desc := "(I)Ljava/lang/Integer;" } : Jvm.MethodName) jdk_33_method_22_code (1 : Nat) (Option.some (Jvm.ClassFile.FieldType.object "java/lang/Integer")), Jvm.Cond.code ({ cls := "java/lang/Integer", name := "<init>", desc := "(I)V" } : Jvm.MethodName) jdk_33_method_23_code (2 : Nat) (Option.none : Option Jvm.ClassFile.FieldType), Jvm.Cond.code ({ cls := "java/lang/Number", name := "<init>", desc := "()V" } : Jvm.MethodName) jdk_18_method_1_code (1 : Nat) (Option.none : Option Jvm.ClassFile.FieldType)]
set_option maxRecDepth 65536 in
theorem codes_eq : words1.filter isCode = codes1 := rfl
theorem w_codes : ∀ c ∈ words1.filter isCode, c.before args0 about1 = true := by
  rw [codes_eq]
  intro c hc
  simp only [codes1, List.mem_cons, List.not_mem_nil, or_false] at hc
  rcases hc with rfl | rfl | rfl | rfl | rfl | rfl | rfl | rfl | rfl | rfl | rfl | rfl | rfl | rfl | rfl | rfl | rfl | rfl | rfl | rfl | rfl | rfl
  · exact w_c0
  · exact w_c1
  · exact w_c2
  · exact w_c3
  · exact w_c4
  · exact w_c5
  · exact w_c6
  · exact w_c7
  · exact w_c8
  · exact w_c9
  · exact w_c10
  · exact w_c11
  · exact w_c12
  · exact w_c13
  · exact w_c14
  · exact w_c15
  · exact w_c16
  · exact w_c17
  · exact w_c18
  · exact w_c19
  · exact w_c20
  · exact w_c21
set_option maxRecDepth 65536 in
theorem w_t1 : (words1.take 24).all (fun c => isCode c || c.before args0 about1) = true := by decide +kernel
set_option maxRecDepth 65536 in
theorem w_t2 : ((words1.drop 24).take 24).all (fun c => isCode c || c.before args0 about1) = true := by decide +kernel
set_option maxRecDepth 65536 in
theorem w_t3 : (((words1.drop 24).drop 24).take 24).all (fun c => isCode c || c.before args0 about1) = true := by decide +kernel
set_option maxRecDepth 65536 in
theorem w_t4 : ((((words1.drop 24).drop 24).drop 24).take 24).all (fun c => isCode c || c.before args0 about1) = true := by decide +kernel
set_option maxRecDepth 65536 in
theorem w_t5 : (((((words1.drop 24).drop 24).drop 24).drop 24).take 24).all (fun c => isCode c || c.before args0 about1) = true := by decide +kernel
set_option maxRecDepth 65536 in
theorem w_t6 : ((((((words1.drop 24).drop 24).drop 24).drop 24).drop 24).take 24).all (fun c => isCode c || c.before args0 about1) = true := by decide +kernel
set_option maxRecDepth 65536 in
theorem w_t7 : ((((((words1.drop 24).drop 24).drop 24).drop 24).drop 24).drop 24).all (fun c => isCode c || c.before args0 about1) = true := by decide +kernel
theorem w_tables : (allAtoms (Jvm.Cond.code x code maxLocals ret :: tables_1)).before args0 about1 = true := by
  rw [allAtoms_all]
  show words1.all (fun c => c.before args0 about1) = true
  refine all_split ?_ w_codes
  rw [← List.take_append_drop 24 words1, List.all_append, w_t1, ← List.take_append_drop 24 (words1.drop 24), List.all_append, w_t2, ← List.take_append_drop 24 ((words1.drop 24).drop 24), List.all_append, w_t3, ← List.take_append_drop 24 (((words1.drop 24).drop 24).drop 24), List.all_append, w_t4, ← List.take_append_drop 24 ((((words1.drop 24).drop 24).drop 24).drop 24), List.all_append, w_t5, ← List.take_append_drop 24 (((((words1.drop 24).drop 24).drop 24).drop 24).drop 24), List.all_append, w_t6, w_t7]
  rfl
set_option maxRecDepth 65536 in
theorem w_rest : rest_1_c.before args0 about1 = true := by decide +kernel
set_option maxRecDepth 65536 in
theorem w_case : (Jvm.Cond.and given_1 narrow_1).before args0 about1 = true := by decide +kernel
theorem w_applies : (headSpec (Jvm.Cond.code x code maxLocals ret :: tables_1) room_1).applies x e0.platform about1 = true :=
  (Spec.applies_iff w_frames).mpr ⟨w_running, w_runnable, w_alone, w_named, w_hears, w_ripe, w_room, w_tables⟩
theorem atStart : AtStart classFile x code maxLocals ret World_1 tables_1 room_1 Calls_1 rest_1 Pre_1 launch0 p0 e0 about1 theMethod args0 below0 :=
  ⟨lists_1, trivial, launch0.admits_env _ _ _, launch0.least_env, fairChoices_fair.cas, fairChoices_fair.clock, w_frames, w_args, w_heap, w_applies, trivial, w_rest, w_case⟩
end start1
theorem witness_1 : WitnessClaimed_1 := ⟨start1.p0, start1.e0, start1.about1, start1.theMethod, start1.args0, start1.below0, start1.atStart⟩
end Jvm.Pilot.@@N@@
