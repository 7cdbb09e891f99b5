import JvmDerived
import JvmDerived.Pilot.@@N@@Statement
import JvmDerived.Pilot.@@N@@Code
set_option linter.unusedVariables false
set_option linter.unusedSimpArgs false
namespace Jvm.RoadKit
open Sem ClassFile Op Lib Jvm.Stand Jvm.Free Jvm.LawKit
section New
variable {p : Program} {l : Launch} {e : Env} {R : Room} {s : State} {m : MethodId} {args : Array Value} {below : List Frame} {meth : Method} {c : Code} {T : State} {locs : List Loc} {cells slots : Nat}
theorem retI (X : Stand p l e R s m args below meth c T locs cells slots) (hx : p.tables.exec = Jvm.exec) {pc : Nat} {Ls : Array Slot} {z : Int32} {rest : List Value} (hret : meth.sig.returnType = some .int) (hd : decode c.code pc = .ok (.ireturn, 1)) {fs : List Frame}
    (hl : ∀ (f : JFrame) (acts : List Action), f.method = m → f.locked = none → f.entered = [] → (doReturn e (T.setTop f) acts (some (.int z))).1 = T.setFrames fs) : Steps p.tables e below (T.setTop (mkF m pc Ls (.int z :: rest))) (T.setFrames fs) := by
  have hm' : T.vm.method? m = some meth := X.method'
  have hn : narrow .int (.int z) = .int z := rfl
  show Steps p.tables e below (T.setTop { method := m, pc := pc, locals := Ls, stack := _ :: rest, locked := none }) _
  jvm_step X.here [X.here.top, hx, hd, hm', hret, hn]
  first | (intro acts; rw [hl _ acts rfl rfl rfl]) | rw [hl _ _ rfl rfl rfl]
  exact Steps.refl _
end New
end Jvm.RoadKit
namespace Jvm.Pilot.@@N@@
open Jvm Jvm.ClassFile Sem Op Lib Jvm.Free Jvm.Stand Jvm.LawKit Jvm.RoadKit Bundle Jvm.Pilot.@@N@@.Jvm.D
/-- from the state F the walk ends as Q says (what it returns, the heap, the places written) -/
def Ends (p : Program) (e : Env) (below : List Frame) (s : State) (R : Room) (Q : Option Value → Heap → List Loc → Prop) (F : State) : Prop :=
  ∃ t o, Steps p.tables e below F t ∧ t.status = .running ∧ Ended t below o ∧ ∃ v L, o = .returned v ∧ Q v t.heap L ∧ FrameEnd s o t L R.cells R.slots
theorem Ends.of {p : Program} {e : Env} {below : List Frame} {s : State} {R : Room} {Q : Option Value → Heap → List Loc → Prop} {F F' : State} (h : ∀ t, Steps p.tables e below F' t → Steps p.tables e below F t) (k : Ends p e below s R Q F') : Ends p e below s R Q F := by
  obtain ⟨t, o, h1, r⟩ := k
  exact ⟨t, o, h t h1, r⟩
theorem Ends.st {p : Program} {e : Env} {below : List Frame} {s : State} {R : Room} {Q : Option Value → Heap → List Loc → Prop} {F F' : State} (h : Steps p.tables e below F F') (k : Ends p e below s R Q F') : Ends p e below s R Q F := Ends.of (fun _ q => h.trans q) k
theorem own_eqi {args : Array Value} {first s : State} {o : Option Outcome} {idx : List Nat} {t : Term} {k : Int32} (h : (Jvm.Cond.eq t (Term.int k)).value args first o s idx = some true) : t.eval args first o idx s = some (.int k) := by
  simp only [Cond.value, Term.eval] at h
  cases ht : t.eval args first o idx s with
  | none => simp [ht] at h
  | some x => cases x <;> simp [ht] at h ⊢; exact h
theorem own_eqr {args : Array Value} {first s : State} {o : Option Outcome} {idx : List Nat} {t u : Term} {b : Addr} (h : (Jvm.Cond.eq t u).value args first o s idx = some true) (hu : u.eval args first o idx s = some (.ref b)) : t.eval args first o idx s = some (.ref b) := by
  simp only [Cond.value, hu] at h
  cases ht : t.eval args first o idx s with
  | none => simp [ht] at h
  | some x => cases x <;> simp [ht] at h ⊢; exact h

theorem own_m (x : Int32) : ¬ (x &&& (2147483647 : Int32)) < (0 : Int32) := by
  have h := c_mask x (2147483647 : Int32) 31 (by decide) (by decide)
  rw [Int32.lt_iff_toInt_lt]
  have z : ((0 : Int32)).toInt = 0 := by decide
  omega
theorem own_len {args : Array Value} {first s : State} {o : Option Outcome} {idx : List Nat} {t : Term} {k : Int32} (h : (Term.length t).eval args first o idx s = some (.int k)) {a : Addr} {cell : Cell} (ht : t.eval args first o idx s = some (.ref a)) (ha : s.arrayAt? a = some cell) : cell.slots.size = k.toNatClampNeg := by
  by_cases hn : cell.slots.size < 2 ^ 31
  · rw [len_f ht ha hn] at h
    have e := Value.int.inj (Option.some.inj h)
    rw [← e]
    have e2 : (cell.slots.size.toInt32).toNatClampNeg = (Int32.ofNat cell.slots.size).toInt.toNat := rfl
    rw [e2, Int32.toInt_ofNat_of_lt (by omega)]
    omega
  · simp [Term.eval, ht, ha, hn] at h
theorem own_sta {Z : State} {h h' : Heap} {C n d : String} {v : Value} (S : Sta Z h C n d v) (K : Keep h h' []) : Sta Z h' C n d v := by
  obtain ⟨cf, i, k, f, st, cell, h1, h2, h3, h4, h5, h6, h7⟩ := S
  exact ⟨cf, i, k, f, st, cell, h1, h2, h3, h4, K.2.1 st cell h5 nin0, h6, h7⟩
theorem own_nofp {Z : State} {a0 : Array Value} {F : String} {k : Nat} (hF1 : "java/lang/Object" ≠ F) (hF2 : "java/lang/Number" ≠ F) (hF3 : "java/lang/Integer" ≠ F) (w1 : (Jvm.Cond.superclass "java/lang/Integer" "java/lang/Number").before a0 Z = true) (w2 : (Jvm.Cond.superclass "java/lang/Number" "java/lang/Object").before a0 Z = true) (w3 : (Jvm.Cond.noSuperclass "java/lang/Object").before a0 Z = true) (wi : (Jvm.Cond.instantiable F k).before a0 Z = true) :
    ∃ c t, Z.vm.findClass "java/lang/Integer" = some c ∧ Z.vm.findClass F = some t ∧ Z.vm.assignable c t = false := by
  obtain ⟨t, kt, g1, g2, g3, g4, -, -⟩ := Cond.instantiable_spec wi
  have g5 : kt.isInterface = false := (Bool.or_eq_false_iff.mp g4).1
  have n0 : NS Z "java/lang/Object" F := by
    obtain ⟨c, kc, h1, h2, h3, -, -⟩ := Cond.noSuperclass_spec w3
    have ne := ids_ne h1 g1 hF1
    refine ⟨c, t, h1, g1, fun fuel => ?_⟩
    cases fuel with
    | zero => rfl
    | succ f => simp [Vm.isSubclassAux, ne, h2, h3]
  obtain ⟨c, t', h0, g0, n3⟩ := NS.step w1 (NS.step w2 n0 hF2) hF3
  cases g0.symm.trans g1
  obtain ⟨p, kc, kp, h1, h2, h3, h4, h5, -, h7⟩ := Cond.superclass_spec h0 w1
  have ne := ids_ne h0 g1 hF3
  refine ⟨c, t, h0, g1, ?_⟩
  show Z.vm.assignableAux (255 + 1) c t = false
  simp [Vm.assignableAux, ne, h2, g2, h5, g3, g5, Vm.isSubclass, n3]
theorem pd_0 : parseMethodDescriptor "(II)V" = some ⟨[.int, .int], none⟩ := by decide +kernel
theorem pd_1 : parseMethodDescriptor "()V" = some ⟨[], none⟩ := by decide +kernel
theorem pd_2 : parseMethodDescriptor "(I)Ljava/lang/Integer;" = some ⟨[.int], some (.object "java/lang/Integer")⟩ := by decide +kernel
theorem pd_3 : parseMethodDescriptor "(Ljava/lang/Object;)Z" = some ⟨[(.object "java/lang/Object")], some .boolean⟩ := by decide +kernel
theorem pd_4 : parseMethodDescriptor "(I)V" = some ⟨[.int], none⟩ := by decide +kernel
theorem d2_0 : decode jdk_30_method_1_code 0 = .ok (.aload_n 0, 1) := by decide +kernel
theorem d2_1 : decode jdk_30_method_1_code 1 = .ok (.invokespecial 1, 3) := by decide +kernel
theorem d2_4 : decode jdk_30_method_1_code 4 = .ok (.return_, 1) := by decide +kernel
theorem pn_0 : plainName "java/lang/Record" = true := by first | (simp [plainName, overriddenIn]; done) | decide +kernel
def Q2 (Z : State) (a1 : Addr) (h0 : Heap) (n0 : Nat) (v : Option Value) (h : Heap) (L : List Loc) : Prop := v = none ∧ Fr n0 L ∧ h = h0
set_option maxRecDepth 65536 in
set_option maxHeartbeats 40000000 in
theorem rm2 (l : Launch) (Z : State) (a0 : Array Value) (hw : ∀ d ∈ tables_1, d.before a0 Z = true) (ws : List Jvm.Cond) (a1 : Addr) (h0 : Heap) (n0 : Nat) (Z0 : n0 ≤ h0.size) :
    MetFree l (⟨"java/lang/Record", "<init>", "()V"⟩ : MethodName) (head1 (Jvm.Cond.code (⟨"java/lang/Record", "<init>", "()V"⟩ : MethodName) jdk_30_method_1_code 1 none :: ws) ({ frames := 1, cells := 0, slots := 0, locals := 12 } : Room)) (fun a U => a = #[(.ref a1)] ∧ Z.Warmed39 U.vm ∧ U.heap = h0) (fun _ _ _ _ _ => True) (fun _ U o U' => ∃ v L, o = .returned v ∧ Q2 Z a1 h0 n0 v U'.heap L ∧ FrameEnd U o U' L ({ frames := 1, cells := 0, slots := 0, locals := 12 } : Room).cells ({ frames := 1, cells := 0, slots := 0, locals := 12 } : Room).slots) := by
  refine MetFree.of_bodySF (plainFor_of_name pn_0) hisR ?_
  intro p e s m args below meth c s₁ Bd hml0 hP hK
  obtain ⟨rfl, hZ, hh⟩ := hP
  have hx := Bd.exec
  have hby := Bd.bytes
  have hml : c.maxLocals = 1 := hml0
  have hown : s.vm.findClass "java/lang/Record" = some m.cls := findClass_of_methodNamed Bd.named
  have hnm := (name_of_methodNamed Bd.named Bd.method).1
  have X0 : Stand p l e ({ frames := 1, cells := 0, slots := 0, locals := 12 } : Room) s m #[(.ref a1)] below meth c s₁ [] 0 0 := Stand.of_body Bd
  have e0 : s₁.heap = h0 := by rw [← hh, Bd.state]; rfl
  have N0 := Fr.nil n0
  have eF : entryFrame m #[(.ref a1)] 1 = mkF m 0 #[.val (.ref a1)] [] := by first | (simp [entryFrame, mkF, argsToLocals, Value.category]; done) | rfl
  show Ends p e below s ({ frames := 1, cells := 0, slots := 0, locals := 12 } : Room) (Q2 Z a1 h0 n0) (s₁.setTop (entryFrame m #[(.ref a1)] 1))
  rw [eF]
  refine Ends.of (F' := s₁.setTop (mkF m 1 #[.val (.ref a1)] [(.ref a1)])) (fun _ kt => ?_) ?_
  · show Steps p.tables e below (s₁.setTop (mkF m 0 #[.val (.ref a1)] [])) _
    refine XS.aloadN X0.here hx rfl (hb hby d2_0) rfl rfl ?_
    exact kt
  obtain ⟨T1, X1, e1, st1⟩ := initO X0 hx hZ hown (hw _ (List.mem_of_getElem? (i := 12) rfl)) (hw _ (List.mem_of_getElem? (i := 13) rfl)) (hw _ (List.mem_of_getElem? (i := 14) rfl)) e0 (g := (mkF m 1 #[.val (.ref a1)] [(.ref a1)])) rfl (by rw [hml]; rfl) rfl (hb hby d2_1) (by decide) (W := 0) (by show 2 * 0 + _ ≤ _; exact Nat.le_of_eq rfl) (by decide)
  refine Ends.of st1 ?_
  obtain ⟨fs, hr, hrun, hended, hW, hsame⟩ := X1.leave (v := none) (fun _ => rfl)
  exact ⟨_, _, X1.returnOut hx Bd.returns (hb hby d2_4) hr, hrun, hended, _, _, rfl, ⟨rfl, N0, e1⟩, ⟨_, rfl⟩, hW, hsame.mono (by decide) (by decide)⟩
theorem d7_0 : decode jdk_18_method_1_code 0 = .ok (.aload_n 0, 1) := by decide +kernel
theorem d7_1 : decode jdk_18_method_1_code 1 = .ok (.invokespecial 1, 3) := by decide +kernel
theorem d7_4 : decode jdk_18_method_1_code 4 = .ok (.return_, 1) := by decide +kernel
theorem pn_1 : plainName "java/lang/Number" = true := by first | (simp [plainName, overriddenIn]; done) | decide +kernel
def Q7 (Z : State) (a1 : Addr) (h0 : Heap) (n0 : Nat) (v : Option Value) (h : Heap) (L : List Loc) : Prop := v = none ∧ Fr n0 L ∧ h = h0
set_option maxRecDepth 65536 in
set_option maxHeartbeats 40000000 in
theorem rm7 (l : Launch) (Z : State) (a0 : Array Value) (hw : ∀ d ∈ tables_1, d.before a0 Z = true) (ws : List Jvm.Cond) (a1 : Addr) (h0 : Heap) (n0 : Nat) (Z0 : n0 ≤ h0.size) :
    MetFree l (⟨"java/lang/Number", "<init>", "()V"⟩ : MethodName) (head1 (Jvm.Cond.code (⟨"java/lang/Number", "<init>", "()V"⟩ : MethodName) jdk_18_method_1_code 1 none :: ws) ({ frames := 1, cells := 0, slots := 0, locals := 12 } : Room)) (fun a U => a = #[(.ref a1)] ∧ Z.Warmed39 U.vm ∧ U.heap = h0) (fun _ _ _ _ _ => True) (fun _ U o U' => ∃ v L, o = .returned v ∧ Q7 Z a1 h0 n0 v U'.heap L ∧ FrameEnd U o U' L ({ frames := 1, cells := 0, slots := 0, locals := 12 } : Room).cells ({ frames := 1, cells := 0, slots := 0, locals := 12 } : Room).slots) := by
  refine MetFree.of_bodySF (plainFor_of_name pn_1) hisR ?_
  intro p e s m args below meth c s₁ Bd hml0 hP hK
  obtain ⟨rfl, hZ, hh⟩ := hP
  have hx := Bd.exec
  have hby := Bd.bytes
  have hml : c.maxLocals = 1 := hml0
  have hown : s.vm.findClass "java/lang/Number" = some m.cls := findClass_of_methodNamed Bd.named
  have hnm := (name_of_methodNamed Bd.named Bd.method).1
  have X0 : Stand p l e ({ frames := 1, cells := 0, slots := 0, locals := 12 } : Room) s m #[(.ref a1)] below meth c s₁ [] 0 0 := Stand.of_body Bd
  have e0 : s₁.heap = h0 := by rw [← hh, Bd.state]; rfl
  have N0 := Fr.nil n0
  have eF : entryFrame m #[(.ref a1)] 1 = mkF m 0 #[.val (.ref a1)] [] := by first | (simp [entryFrame, mkF, argsToLocals, Value.category]; done) | rfl
  show Ends p e below s ({ frames := 1, cells := 0, slots := 0, locals := 12 } : Room) (Q7 Z a1 h0 n0) (s₁.setTop (entryFrame m #[(.ref a1)] 1))
  rw [eF]
  refine Ends.of (F' := s₁.setTop (mkF m 1 #[.val (.ref a1)] [(.ref a1)])) (fun _ kt => ?_) ?_
  · show Steps p.tables e below (s₁.setTop (mkF m 0 #[.val (.ref a1)] [])) _
    refine XS.aloadN X0.here hx rfl (hb hby d7_0) rfl rfl ?_
    exact kt
  obtain ⟨T2, X2, e2, st2⟩ := initO X0 hx hZ hown (hw _ (List.mem_of_getElem? (i := 48) rfl)) (hw _ (List.mem_of_getElem? (i := 13) rfl)) (hw _ (List.mem_of_getElem? (i := 14) rfl)) e0 (g := (mkF m 1 #[.val (.ref a1)] [(.ref a1)])) rfl (by rw [hml]; rfl) rfl (hb hby d7_1) (by decide) (W := 0) (by show 2 * 0 + _ ≤ _; exact Nat.le_of_eq rfl) (by decide)
  refine Ends.of st2 ?_
  obtain ⟨fs, hr, hrun, hended, hW, hsame⟩ := X2.leave (v := none) (fun _ => rfl)
  exact ⟨_, _, X2.returnOut hx Bd.returns (hb hby d7_4) hr, hrun, hended, _, _, rfl, ⟨rfl, N0, e2⟩, ⟨_, rfl⟩, hW, hsame.mono (by decide) (by decide)⟩
theorem d1_0 : decode prog_35_method_1_code 0 = .ok (.aload_n 0, 1) := by decide +kernel
theorem d1_1 : decode prog_35_method_1_code 1 = .ok (.invokespecial 1, 3) := by decide +kernel
theorem d1_4 : decode prog_35_method_1_code 4 = .ok (.iload_n 1, 1) := by decide +kernel
theorem d1_5 : decode prog_35_method_1_code 5 = .ok (.ifCond .lt 7, 3) := by decide +kernel
theorem d1_8 : decode prog_35_method_1_code 8 = .ok (.iload_n 2, 1) := by decide +kernel
theorem d1_9 : decode prog_35_method_1_code 9 = .ok (.ifCond .ge 18, 3) := by decide +kernel
theorem d1_12 : decode prog_35_method_1_code 12 = .ok (.new 7, 3) := by decide +kernel
theorem d1_15 : decode prog_35_method_1_code 15 = .ok (.dup, 1) := by decide +kernel
theorem d1_16 : decode prog_35_method_1_code 16 = .ok (.iload_n 2, 1) := by decide +kernel
theorem d1_17 : decode prog_35_method_1_code 17 = .ok (.iload_n 1, 1) := by decide +kernel
theorem d1_23 : decode prog_35_method_1_code 23 = .ok (.invokespecial 13, 3) := by decide +kernel
theorem d1_26 : decode prog_35_method_1_code 26 = .ok (.athrow, 1) := by decide +kernel
theorem d1_27 : decode prog_35_method_1_code 27 = .ok (.aload_n 0, 1) := by decide +kernel
theorem d1_28 : decode prog_35_method_1_code 28 = .ok (.iload_n 1, 1) := by decide +kernel
theorem d1_29 : decode prog_35_method_1_code 29 = .ok (.putfield 16, 3) := by decide +kernel
theorem d1_32 : decode prog_35_method_1_code 32 = .ok (.aload_n 0, 1) := by decide +kernel
theorem d1_33 : decode prog_35_method_1_code 33 = .ok (.iload_n 2, 1) := by decide +kernel
theorem d1_34 : decode prog_35_method_1_code 34 = .ok (.putfield 22, 3) := by decide +kernel
theorem d1_37 : decode prog_35_method_1_code 37 = .ok (.return_, 1) := by decide +kernel
theorem pn_2 : plainName "com/example/fence_finder/fencefinder/model/FencePlace" = true := by first | (simp [plainName, overriddenIn]; done) | decide +kernel
def Q1 (Z : State) (a1 : Addr) (p2 : Int32) (p3 : Int32) (h0 : Heap) (n0 : Nat) (v : Option Value) (h : Heap) (L : List Loc) : Prop := v = none ∧ Fr n0 L ∧ Keep h0 h [a1] ∧ Exa Z h a1 "com/example/fence_finder/fencefinder/model/FencePlace" ∧ Fld Z h a1 "com/example/fence_finder/fencefinder/model/FencePlace" "thread" "I" (.int p2) ∧ Fld Z h a1 "com/example/fence_finder/fencefinder/model/FencePlace" "instruction" "I" (.int p3)
set_option maxRecDepth 65536 in
set_option maxHeartbeats 40000000 in
theorem rm1 (l : Launch) (Z : State) (a0 : Array Value) (hw : ∀ d ∈ tables_1, d.before a0 Z = true) (ws : List Jvm.Cond) (a1 : Addr) (p2 : Int32) (p3 : Int32) (h0 : Heap) (n0 : Nat) (Z0 : n0 ≤ h0.size) (hp2 : ¬ p2 < (0 : Int32)) (hp3 : ¬ p3 < (0 : Int32)) (E_a : Exa Z h0 a1 "com/example/fence_finder/fencefinder/model/FencePlace") (F_t : Fld Z h0 a1 "com/example/fence_finder/fencefinder/model/FencePlace" "thread" "I" (.int (0 : Int32))) (F_i : Fld Z h0 a1 "com/example/fence_finder/fencefinder/model/FencePlace" "instruction" "I" (.int (0 : Int32))) (g_a : n0 ≤ a1) :
    MetFree l (⟨"com/example/fence_finder/fencefinder/model/FencePlace", "<init>", "(II)V"⟩ : MethodName) (head1 (Jvm.Cond.code (⟨"com/example/fence_finder/fencefinder/model/FencePlace", "<init>", "(II)V"⟩ : MethodName) prog_35_method_1_code 3 none :: ws) ({ frames := 2, cells := 0, slots := 0, locals := 24 } : Room)) (fun a U => a = #[(.ref a1), (.int p2), (.int p3)] ∧ Z.Warmed39 U.vm ∧ U.heap = h0) (fun _ _ _ _ _ => True) (fun _ U o U' => ∃ v L, o = .returned v ∧ Q1 Z a1 p2 p3 h0 n0 v U'.heap L ∧ FrameEnd U o U' L ({ frames := 2, cells := 0, slots := 0, locals := 24 } : Room).cells ({ frames := 2, cells := 0, slots := 0, locals := 24 } : Room).slots) := by
  refine MetFree.of_bodySF (plainFor_of_name pn_2) hisR ?_
  intro p e s m args below meth c s₁ Bd hml0 hP hK
  obtain ⟨rfl, hZ, hh⟩ := hP
  have hx := Bd.exec
  have hby := Bd.bytes
  have hml : c.maxLocals = 3 := hml0
  have hown : s.vm.findClass "com/example/fence_finder/fencefinder/model/FencePlace" = some m.cls := findClass_of_methodNamed Bd.named
  have hnm := (name_of_methodNamed Bd.named Bd.method).1
  have X0 : Stand p l e ({ frames := 2, cells := 0, slots := 0, locals := 24 } : Room) s m #[(.ref a1), (.int p2), (.int p3)] below meth c s₁ [] 0 0 := Stand.of_body Bd
  have e0 : s₁.heap = h0 := by rw [← hh, Bd.state]; rfl
  have N0 := Fr.nil n0
  have eF : entryFrame m #[(.ref a1), (.int p2), (.int p3)] 3 = mkF m 0 #[.val (.ref a1), .val (.int p2), .val (.int p3)] [] := by first | (simp [entryFrame, mkF, argsToLocals, Value.category]; done) | rfl
  show Ends p e below s ({ frames := 2, cells := 0, slots := 0, locals := 24 } : Room) (Q1 Z a1 p2 p3 h0 n0) (s₁.setTop (entryFrame m #[(.ref a1), (.int p2), (.int p3)] 3))
  rw [eF]
  refine Ends.of (F' := s₁.setTop (mkF m 1 #[.val (.ref a1), .val (.int p2), .val (.int p3)] [(.ref a1)])) (fun _ kt => ?_) ?_
  · show Steps p.tables e below (s₁.setTop (mkF m 0 #[.val (.ref a1), .val (.int p2), .val (.int p3)] [])) _
    refine XS.aloadN X0.here hx rfl (hb hby d1_0) rfl rfl ?_
    exact kt
  obtain ⟨_, _, ⟨T3, L3, k3, n3⟩, -, X3, ⟨Lc3, hQ3, l3, y3, z3⟩, st3⟩ := X0.specialBack hx (y := (⟨"java/lang/Record", "<init>", "()V"⟩ : MethodName)) rfl hown (mvT hZ (hw _ (List.mem_of_getElem? (i := 7) rfl))) (mvT hZ (hw _ (List.mem_of_getElem? (i := 8) rfl))) (mvT hZ (hw _ (List.mem_of_getElem? (i := 11) rfl))) (by decide) (backOf (W := 0) (rm2 l Z a0 hw [] a1 h0 n0 Z0) hZ (hw _ (List.mem_of_getElem? (i := 11) rfl)) (hw _ (List.mem_of_getElem? (i := 10) rfl)) (by decide) (by decide)) (g := (mkF m 1 #[.val (.ref a1), .val (.int p2), .val (.int p3)] [(.ref a1)])) rfl (by rw [hml]; rfl) (Steps.refl _) (a := a1) (argsL := []) (rest := []) (lenOf pd_1 rfl) rfl (by show 2 * 0 + _ ≤ _; exact Nat.le_of_eq rfl) (hb hby d1_1) (fun _ _ => ⟨rfl, e0, (by decide : 0 + 0 ≤ _), (by decide : 0 + 0 ≤ _)⟩)
  dsimp only [Pt.U, Pt.locs, Pt.cells, Pt.slots] at X3 l3 y3 z3 st3 hQ3
  subst l3 y3 z3
  obtain ⟨rfl, N3q, e3⟩ := hQ3
  have N3 := Fr.app N0 N3q
  refine Ends.st st3 ?_
  refine Ends.of (F' := T3.setTop (mkF m 29 #[.val (.ref a1), .val (.int p2), .val (.int p3)] [(.int p2), (.ref a1)])) (fun _ kt => ?_) ?_
  · show Steps p.tables e below (T3.setTop (mkF m 4 #[.val (.ref a1), .val (.int p2), .val (.int p3)] [])) _
    refine XS.iloadN X3.here hx rfl (hb hby d1_4) rfl ?_
    show Steps p.tables e below (T3.setTop (mkF m 5 #[.val (.ref a1), .val (.int p2), .val (.int p3)] [(.int p2)])) _
    refine XS.ifNo X3.here hx rfl (hb hby d1_5) rfl ((if0 _ _).trans (flt hp2).1) ?_
    show Steps p.tables e below (T3.setTop (mkF m 8 #[.val (.ref a1), .val (.int p2), .val (.int p3)] [])) _
    refine XS.iloadN X3.here hx rfl (hb hby d1_8) rfl ?_
    show Steps p.tables e below (T3.setTop (mkF m 9 #[.val (.ref a1), .val (.int p2), .val (.int p3)] [(.int p3)])) _
    refine XS.ifYes X3.here hx rfl (pc0 := 9) (pc' := 27) rfl (hb hby d1_9) rfl ((if0 _ _).trans (flt hp3).2.1) (by decide) (by decide) ?_
    show Steps p.tables e below (T3.setTop (mkF m 27 #[.val (.ref a1), .val (.int p2), .val (.int p3)] [])) _
    refine XS.aloadN X3.here hx rfl (hb hby d1_27) rfl rfl ?_
    show Steps p.tables e below (T3.setTop (mkF m 28 #[.val (.ref a1), .val (.int p2), .val (.int p3)] [(.ref a1)])) _
    refine XS.iloadN X3.here hx rfl (hb hby d1_28) rfl ?_
    exact kt
  obtain ⟨T4, h4, X4, e4, W4, st4⟩ := putF X3 hx hZ hown (host := "") (Or.inl (hw _ (List.mem_of_getElem? (i := 15) rfl))) Via.refl e3 F_t E_a (Or.inr ⟨(hw _ (List.mem_of_getElem? (i := 16) rfl)), rfl, hnm⟩) (hw _ (List.mem_of_getElem? (i := 2) rfl)) (ty := .int) (by decide) rfl rfl (g := (mkF m 29 #[.val (.ref a1), .val (.int p2), .val (.int p3)] [(.int p2), (.ref a1)])) rfl rfl (hb hby d1_29)
  refine Ends.of st4 ?_
  have N4 := Fr.snoc X4 N3 g_a
  have F_i1 := F_i.other W4 (Or.inr (slot_ne (Or.inr (hw _ (List.mem_of_getElem? (i := 18) rfl))) (Or.inr (hw _ (List.mem_of_getElem? (i := 16) rfl))) (by decide) (t := .int) (t' := .int) (by decide) (by decide)))
  have F_t1 := F_t.same W4
  have E_1 := E_a.wr W4
  have K_1 : Keep h0 h4 [a1] := (Keep.refl _ _).wr W4 (Or.inl (List.mem_of_getElem? (i := 0) rfl))
  refine Ends.of (F' := T4.setTop (mkF m 34 #[.val (.ref a1), .val (.int p2), .val (.int p3)] [(.int p3), (.ref a1)])) (fun _ kt => ?_) ?_
  · show Steps p.tables e below (T4.setTop (mkF m 32 #[.val (.ref a1), .val (.int p2), .val (.int p3)] [])) _
    refine XS.aloadN X4.here hx rfl (hb hby d1_32) rfl rfl ?_
    show Steps p.tables e below (T4.setTop (mkF m 33 #[.val (.ref a1), .val (.int p2), .val (.int p3)] [(.ref a1)])) _
    refine XS.iloadN X4.here hx rfl (hb hby d1_33) rfl ?_
    exact kt
  obtain ⟨T5, h5, X5, e5, W5, st5⟩ := putF X4 hx hZ hown (host := "") (Or.inl (hw _ (List.mem_of_getElem? (i := 17) rfl))) Via.refl e4 F_i1 E_1 (Or.inr ⟨(hw _ (List.mem_of_getElem? (i := 18) rfl)), rfl, hnm⟩) (hw _ (List.mem_of_getElem? (i := 2) rfl)) (ty := .int) (by decide) rfl rfl (g := (mkF m 34 #[.val (.ref a1), .val (.int p2), .val (.int p3)] [(.int p3), (.ref a1)])) rfl rfl (hb hby d1_34)
  refine Ends.of st5 ?_
  have N5 := Fr.snoc X5 N4 g_a
  have F_t2 := F_t1.other W5 (Or.inr (slot_ne (Or.inr (hw _ (List.mem_of_getElem? (i := 16) rfl))) (Or.inr (hw _ (List.mem_of_getElem? (i := 18) rfl))) (by decide) (t := .int) (t' := .int) (by decide) (by decide)))
  have F_i2 := F_i1.same W5
  have E_2 := E_1.wr W5
  have K_2 : Keep h0 h5 [a1] := K_1.wr W5 (Or.inl (List.mem_of_getElem? (i := 0) rfl))
  rw [← e5] at F_t2 F_i2 E_2 K_2
  obtain ⟨fs, hr, hrun, hended, hW, hsame⟩ := X5.leave (v := none) (fun _ => rfl)
  exact ⟨_, _, X5.returnOut hx Bd.returns (hb hby d1_37) hr, hrun, hended, _, _, rfl, ⟨rfl, N5, K_2, E_2, F_t2, F_i2⟩, ⟨_, rfl⟩, hW, hsame.mono (by decide) (by decide)⟩
theorem d6_0 : decode jdk_33_method_23_code 0 = .ok (.aload_n 0, 1) := by decide +kernel
theorem d6_1 : decode jdk_33_method_23_code 1 = .ok (.invokespecial 202, 3) := by decide +kernel
theorem d6_4 : decode jdk_33_method_23_code 4 = .ok (.aload_n 0, 1) := by decide +kernel
theorem d6_5 : decode jdk_33_method_23_code 5 = .ok (.iload_n 1, 1) := by decide +kernel
theorem d6_6 : decode jdk_33_method_23_code 6 = .ok (.putfield 205, 3) := by decide +kernel
theorem d6_9 : decode jdk_33_method_23_code 9 = .ok (.return_, 1) := by decide +kernel
theorem pn_3 : plainName "java/lang/Integer" = true := by first | (simp [plainName, overriddenIn]; done) | decide +kernel
def Q6 (Z : State) (a1 : Addr) (p2 : Int32) (h0 : Heap) (n0 : Nat) (v : Option Value) (h : Heap) (L : List Loc) : Prop := v = none ∧ Fr n0 L ∧ Keep h0 h [a1] ∧ Exa Z h a1 "java/lang/Integer"
set_option maxRecDepth 65536 in
set_option maxHeartbeats 40000000 in
theorem rm6 (l : Launch) (Z : State) (a0 : Array Value) (hw : ∀ d ∈ tables_1, d.before a0 Z = true) (ws : List Jvm.Cond) (a1 : Addr) (p2 : Int32) (h0 : Heap) (n0 : Nat) (Z0 : n0 ≤ h0.size) (E_a : Exa Z h0 a1 "java/lang/Integer") (F_v : Fld Z h0 a1 "java/lang/Integer" "value" "I" (.int (0 : Int32))) (g_a : n0 ≤ a1) :
    MetFree l (⟨"java/lang/Integer", "<init>", "(I)V"⟩ : MethodName) (head1 (Jvm.Cond.code (⟨"java/lang/Integer", "<init>", "(I)V"⟩ : MethodName) jdk_33_method_23_code 2 none :: ws) ({ frames := 2, cells := 0, slots := 0, locals := 24 } : Room)) (fun a U => a = #[(.ref a1), (.int p2)] ∧ Z.Warmed39 U.vm ∧ U.heap = h0) (fun _ _ _ _ _ => True) (fun _ U o U' => ∃ v L, o = .returned v ∧ Q6 Z a1 p2 h0 n0 v U'.heap L ∧ FrameEnd U o U' L ({ frames := 2, cells := 0, slots := 0, locals := 24 } : Room).cells ({ frames := 2, cells := 0, slots := 0, locals := 24 } : Room).slots) := by
  refine MetFree.of_bodySF (plainFor_of_name pn_3) hisR ?_
  intro p e s m args below meth c s₁ Bd hml0 hP hK
  obtain ⟨rfl, hZ, hh⟩ := hP
  have hx := Bd.exec
  have hby := Bd.bytes
  have hml : c.maxLocals = 2 := hml0
  have hown : s.vm.findClass "java/lang/Integer" = some m.cls := findClass_of_methodNamed Bd.named
  have hnm := (name_of_methodNamed Bd.named Bd.method).1
  have X0 : Stand p l e ({ frames := 2, cells := 0, slots := 0, locals := 24 } : Room) s m #[(.ref a1), (.int p2)] below meth c s₁ [] 0 0 := Stand.of_body Bd
  have e0 : s₁.heap = h0 := by rw [← hh, Bd.state]; rfl
  have N0 := Fr.nil n0
  have eF : entryFrame m #[(.ref a1), (.int p2)] 2 = mkF m 0 #[.val (.ref a1), .val (.int p2)] [] := by first | (simp [entryFrame, mkF, argsToLocals, Value.category]; done) | rfl
  show Ends p e below s ({ frames := 2, cells := 0, slots := 0, locals := 24 } : Room) (Q6 Z a1 p2 h0 n0) (s₁.setTop (entryFrame m #[(.ref a1), (.int p2)] 2))
  rw [eF]
  refine Ends.of (F' := s₁.setTop (mkF m 1 #[.val (.ref a1), .val (.int p2)] [(.ref a1)])) (fun _ kt => ?_) ?_
  · show Steps p.tables e below (s₁.setTop (mkF m 0 #[.val (.ref a1), .val (.int p2)] [])) _
    refine XS.aloadN X0.here hx rfl (hb hby d6_0) rfl rfl ?_
    exact kt
  obtain ⟨_, _, ⟨T6, L6, k6, n6⟩, -, X6, ⟨Lc6, hQ6, l6, y6, z6⟩, st6⟩ := X0.specialBack hx (y := (⟨"java/lang/Number", "<init>", "()V"⟩ : MethodName)) rfl hown (mvT hZ (hw _ (List.mem_of_getElem? (i := 42) rfl))) (mvT hZ (hw _ (List.mem_of_getElem? (i := 43) rfl))) (mvT hZ (hw _ (List.mem_of_getElem? (i := 47) rfl))) (by decide) (backOf (W := 0) (rm7 l Z a0 hw [] a1 h0 n0 Z0) hZ (hw _ (List.mem_of_getElem? (i := 47) rfl)) (hw _ (List.mem_of_getElem? (i := 46) rfl)) (by decide) (by decide)) (g := (mkF m 1 #[.val (.ref a1), .val (.int p2)] [(.ref a1)])) rfl (by rw [hml]; rfl) (Steps.refl _) (a := a1) (argsL := []) (rest := []) (lenOf pd_1 rfl) rfl (by show 2 * 0 + _ ≤ _; exact Nat.le_of_eq rfl) (hb hby d6_1) (fun _ _ => ⟨rfl, e0, (by decide : 0 + 0 ≤ _), (by decide : 0 + 0 ≤ _)⟩)
  dsimp only [Pt.U, Pt.locs, Pt.cells, Pt.slots] at X6 l6 y6 z6 st6 hQ6
  subst l6 y6 z6
  obtain ⟨rfl, N6q, e6⟩ := hQ6
  have N6 := Fr.app N0 N6q
  refine Ends.st st6 ?_
  refine Ends.of (F' := T6.setTop (mkF m 6 #[.val (.ref a1), .val (.int p2)] [(.int p2), (.ref a1)])) (fun _ kt => ?_) ?_
  · show Steps p.tables e below (T6.setTop (mkF m 4 #[.val (.ref a1), .val (.int p2)] [])) _
    refine XS.aloadN X6.here hx rfl (hb hby d6_4) rfl rfl ?_
    show Steps p.tables e below (T6.setTop (mkF m 5 #[.val (.ref a1), .val (.int p2)] [(.ref a1)])) _
    refine XS.iloadN X6.here hx rfl (hb hby d6_5) rfl ?_
    exact kt
  obtain ⟨T7, h7, X7, e7, W7, st7⟩ := putF X6 hx hZ hown (host := "") (Or.inl (hw _ (List.mem_of_getElem? (i := 49) rfl))) Via.refl e6 F_v E_a (Or.inr ⟨(hw _ (List.mem_of_getElem? (i := 50) rfl)), rfl, hnm⟩) (hw _ (List.mem_of_getElem? (i := 37) rfl)) (ty := .int) (by decide) rfl rfl (g := (mkF m 6 #[.val (.ref a1), .val (.int p2)] [(.int p2), (.ref a1)])) rfl rfl (hb hby d6_6)
  refine Ends.of st7 ?_
  have N7 := Fr.snoc X7 N6 g_a
  have E_1 := E_a.wr W7
  have K_1 : Keep h0 h7 [a1] := (Keep.refl _ _).wr W7 (Or.inl (List.mem_of_getElem? (i := 0) rfl))
  rw [← e7] at E_1 K_1
  obtain ⟨fs, hr, hrun, hended, hW, hsame⟩ := X7.leave (v := none) (fun _ => rfl)
  exact ⟨_, _, X7.returnOut hx Bd.returns (hb hby d6_9) hr, hrun, hended, _, _, rfl, ⟨rfl, N7, K_1, E_1⟩, ⟨_, rfl⟩, hW, hsame.mono (by decide) (by decide)⟩
theorem d4_0 : decode jdk_33_method_22_code 0 = .ok (.iload_n 0, 1) := by decide +kernel
theorem d4_1 : decode jdk_33_method_22_code 1 = .ok (.bipush (-128), 2) := by decide +kernel
theorem d4_3 : decode jdk_33_method_22_code 3 = .ok (.if_icmp .lt 20, 3) := by decide +kernel
theorem d4_6 : decode jdk_33_method_22_code 6 = .ok (.iload_n 0, 1) := by decide +kernel
theorem d4_7 : decode jdk_33_method_22_code 7 = .ok (.getstatic 191, 3) := by decide +kernel
theorem d4_10 : decode jdk_33_method_22_code 10 = .ok (.if_icmp .gt 13, 3) := by decide +kernel
theorem d4_13 : decode jdk_33_method_22_code 13 = .ok (.getstatic 195, 3) := by decide +kernel
theorem d4_16 : decode jdk_33_method_22_code 16 = .ok (.iload_n 0, 1) := by decide +kernel
theorem d4_17 : decode jdk_33_method_22_code 17 = .ok (.sipush 128, 3) := by decide +kernel
theorem d4_20 : decode jdk_33_method_22_code 20 = .ok (.iadd, 1) := by decide +kernel
theorem d4_21 : decode jdk_33_method_22_code 21 = .ok (.aaload, 1) := by decide +kernel
theorem d4_22 : decode jdk_33_method_22_code 22 = .ok (.areturn, 1) := by decide +kernel
theorem d4_23 : decode jdk_33_method_22_code 23 = .ok (.new 1, 3) := by decide +kernel
theorem d4_26 : decode jdk_33_method_22_code 26 = .ok (.dup, 1) := by decide +kernel
theorem d4_27 : decode jdk_33_method_22_code 27 = .ok (.iload_n 0, 1) := by decide +kernel
theorem d4_28 : decode jdk_33_method_22_code 28 = .ok (.invokespecial 199, 3) := by decide +kernel
theorem d4_31 : decode jdk_33_method_22_code 31 = .ok (.areturn, 1) := by decide +kernel
def Q4 (Z : State) (p1 : Int32) (ca : Addr) (cl : Cell) (h0 : Heap) (n0 : Nat) (v : Option Value) (h : Heap) (L : List Loc) : Prop := ∃ r : Addr, v = some (.ref r) ∧ Fr n0 L ∧ Keep h0 h [] ∧ Exa Z h r "java/lang/Integer"
set_option maxRecDepth 65536 in
set_option maxHeartbeats 40000000 in
theorem rm4 (l : Launch) (Z : State) (a0 : Array Value) (hw : ∀ d ∈ tables_1, d.before a0 Z = true) (ws : List Jvm.Cond) (p1 : Int32) (ca : Addr) (cl : Cell) (h0 : Heap) (n0 : Nat) (Z0 : n0 ≤ h0.size) (hp : ¬ p1 < (0 : Int32)) (S_h : Sta Z h0 "java/lang/Integer$IntegerCache" "high" "I" (.int (127 : Int32))) (S_c : Sta Z h0 "java/lang/Integer$IntegerCache" "cache" "[Ljava/lang/Integer;" (.ref ca)) (A_c : Arr Z h0 ca cl (.object "java/lang/Integer")) (z_c : cl.slots.size = 256) (els : ∀ j, j < 256 → ∃ r, cl.slots[j]? = some (.ref r) ∧ Exa Z h0 r "java/lang/Integer") :
    MetFree l (⟨"java/lang/Integer", "valueOf", "(I)Ljava/lang/Integer;"⟩ : MethodName) (head1 (Jvm.Cond.code (⟨"java/lang/Integer", "valueOf", "(I)Ljava/lang/Integer;"⟩ : MethodName) jdk_33_method_22_code 1 (some (.object "java/lang/Integer")) :: ws) ({ frames := 3, cells := 1, slots := 1, locals := 38 } : Room)) (fun a U => a = #[(.int p1)] ∧ Z.Warmed39 U.vm ∧ U.heap = h0) (fun _ _ _ _ _ => True) (fun _ U o U' => ∃ v L, o = .returned v ∧ Q4 Z p1 ca cl h0 n0 v U'.heap L ∧ FrameEnd U o U' L ({ frames := 3, cells := 1, slots := 1, locals := 38 } : Room).cells ({ frames := 3, cells := 1, slots := 1, locals := 38 } : Room).slots) := by
  refine MetFree.of_bodySF (plainFor_of_name pn_3) hisR ?_
  intro p e s m args below meth c s₁ Bd hml0 hP hK
  obtain ⟨rfl, hZ, hh⟩ := hP
  have hx := Bd.exec
  have hby := Bd.bytes
  have hml : c.maxLocals = 1 := hml0
  have hown : s.vm.findClass "java/lang/Integer" = some m.cls := findClass_of_methodNamed Bd.named
  have hnm := (name_of_methodNamed Bd.named Bd.method).1
  have X0 : Stand p l e ({ frames := 3, cells := 1, slots := 1, locals := 38 } : Room) s m #[(.int p1)] below meth c s₁ [] 0 0 := Stand.of_body Bd
  have e0 : s₁.heap = h0 := by rw [← hh, Bd.state]; rfl
  have N0 := Fr.nil n0
  have eF : entryFrame m #[(.int p1)] 1 = mkF m 0 #[.val (.int p1)] [] := by first | (simp [entryFrame, mkF, argsToLocals, Value.category]; done) | rfl
  show Ends p e below s ({ frames := 3, cells := 1, slots := 1, locals := 38 } : Room) (Q4 Z p1 ca cl h0 n0) (s₁.setTop (entryFrame m #[(.int p1)] 1))
  rw [eF]
  refine Ends.of (F' := s₁.setTop (mkF m 7 #[.val (.int p1)] [(.int p1)])) (fun _ kt => ?_) ?_
  · show Steps p.tables e below (s₁.setTop (mkF m 0 #[.val (.int p1)] [])) _
    refine XS.iloadN X0.here hx rfl (hb hby d4_0) rfl ?_
    show Steps p.tables e below (s₁.setTop (mkF m 1 #[.val (.int p1)] [(.int p1)])) _
    refine XS.bipush X0.here hx rfl (hb hby d4_1) ?_
    show Steps p.tables e below (s₁.setTop (mkF m 3 #[.val (.int p1)] [(.int (-128 : Int32)), (.int p1)])) _
    refine XS.icmpNo X0.here hx rfl (hb hby d4_3) rfl (flt (fun q => hp (Int32.lt_trans q (by decide)))).1 ?_
    show Steps p.tables e below (s₁.setTop (mkF m 6 #[.val (.int p1)] [])) _
    refine XS.iloadN X0.here hx rfl (hb hby d4_6) rfl ?_
    exact kt
  obtain ⟨T8, X8, e8, st8⟩ := getS2 X0 hx hZ hown (host := "") (Or.inl (hw _ (List.mem_of_getElem? (i := 23) rfl))) Via.refl e0 S_h (g := (mkF m 7 #[.val (.int p1)] [(.int p1)])) rfl (hb hby d4_7)
  refine Ends.of st8 ?_
  by_cases hi : (127 : Int32) < p1
  · refine Ends.of (F' := T8.setTop (mkF m 23 #[.val (.int p1)] [])) (fun _ kt => ?_) ?_
    · show Steps p.tables e below (T8.setTop (mkF m 10 #[.val (.int p1)] [(.int (127 : Int32)), (.int p1)])) _
      refine XS.icmpYes X8.here hx rfl (pc0 := 10) (pc' := 23) rfl (hb hby d4_10) rfl (tlt hi).2.2.1 (by decide) (by decide) ?_
      exact kt
    obtain ⟨T9, h9, X9, e9, E9, A9, D9, -, st9⟩ := newO X8 hx hZ hown (hw _ (List.mem_of_getElem? (i := 36) rfl)) (hw _ (List.mem_of_getElem? (i := 37) rfl)) (hw _ (List.mem_of_getElem? (i := 21) rfl)) e8 (g := (mkF m 23 #[.val (.int p1)] [])) rfl (hb hby d4_23) (by decide) (by decide)
    obtain ⟨b9, g9⟩ : ∃ z, z = h0.size := ⟨_, rfl⟩
    rw [← g9] at A9 D9 st9
    have F_value_b9 : Fld Z h9 b9 "java/lang/Integer" "value" "I" (.int (0 : Int32)) := D9 (Or.inr (hw _ (List.mem_of_getElem? (i := 50) rfl))) (ty := .int) (by decide)
    refine Ends.of st9 ?_
    have Z1 : n0 ≤ h9.size := Nat.le_trans Z0 E9.1
    have gb : n0 ≤ b9 := Nat.le_trans Z0 (Nat.le_of_eq g9.symm)
    refine Ends.of (F' := T9.setTop (mkF m 28 #[.val (.int p1)] [(.int p1), (.ref b9), (.ref b9)])) (fun _ kt => ?_) ?_
    · show Steps p.tables e below (T9.setTop (mkF m 26 #[.val (.int p1)] [(.ref b9)])) _
      refine XS.dup X9.here hx rfl (hb hby d4_26) rfl rfl ?_
      show Steps p.tables e below (T9.setTop (mkF m 27 #[.val (.int p1)] [(.ref b9), (.ref b9)])) _
      refine XS.iloadN X9.here hx rfl (hb hby d4_27) rfl ?_
      exact kt
    obtain ⟨_, _, ⟨T10, L10, k10, n10⟩, -, X10, ⟨Lc10, hQ10, l10, y10, z10⟩, st10⟩ := X9.specialBack hx (y := (⟨"java/lang/Integer", "<init>", "(I)V"⟩ : MethodName)) rfl hown (mvT hZ (hw _ (List.mem_of_getElem? (i := 38) rfl))) (mvT hZ (hw _ (List.mem_of_getElem? (i := 39) rfl))) (mvT hZ (hw _ (List.mem_of_getElem? (i := 41) rfl))) (by decide) (backOf (W := 1) (rm6 l Z a0 hw [] b9 p1 h9 n0 Z1 A9 F_value_b9 gb) hZ (hw _ (List.mem_of_getElem? (i := 41) rfl)) (hw _ (List.mem_of_getElem? (i := 21) rfl)) (by decide) (by decide)) (g := (mkF m 28 #[.val (.int p1)] [(.int p1), (.ref b9), (.ref b9)])) rfl (by rw [hml]; rfl) (Steps.refl _) (a := b9) (argsL := [(.int p1)]) (rest := [(.ref b9)]) (lenOf pd_4 rfl) rfl (by show 2 * 0 + _ ≤ _; exact Nat.le_of_eq rfl) (hb hby d4_28) (fun _ _ => ⟨rfl, e9, (by decide : 1 + 0 ≤ _), (by decide : 1 + 0 ≤ _)⟩)
    dsimp only [Pt.U, Pt.locs, Pt.cells, Pt.slots] at X10 l10 y10 z10 st10 hQ10
    subst l10 y10 z10
    obtain ⟨rfl, N10q, K10, Ex10⟩ := hQ10
    have N10 := Fr.app N0 N10q
    refine Ends.st st10 ?_
    have Kk : Keep h0 T10.heap [] := ((Keep.refl h0 []).ext E9).trans K10 (allS (Or.inr (Nat.le_of_eq g9.symm)) all0)
    obtain ⟨fs, hr, hrun, hended, hW, hsame⟩ := X10.leave (v := some (.ref b9)) (fun h => by rw [Bd.returns] at h; cases h)
    refine ⟨_, _, ?_, hrun, hended, _, _, rfl, ⟨_, rfl, N10, Kk, Ex10⟩, ⟨_, rfl⟩, hW, hsame.mono (by decide) (by decide)⟩
    show Steps p.tables e below (T10.setTop (mkF m 31 #[.val (.int p1)] [(.ref b9)])) _
    jvm_step X10.here [X10.here.top, hx, (hb hby d4_31), X10.method', Bd.returns, Value.isRef, FieldType.isReference]
    first | (intro acts; rw [hr _ acts rfl rfl rfl]) | rw [hr _ _ rfl rfl rfl]
    exact Steps.refl _
  · refine Ends.of (F' := T8.setTop (mkF m 13 #[.val (.int p1)] [])) (fun _ kt => ?_) ?_
    · show Steps p.tables e below (T8.setTop (mkF m 10 #[.val (.int p1)] [(.int (127 : Int32)), (.int p1)])) _
      refine XS.icmpNo X8.here hx rfl (hb hby d4_10) rfl (flt hi).2.2.1 ?_
      exact kt
    obtain ⟨T11, X11, e11, st11⟩ := getS2 X8 hx hZ hown (host := "") (Or.inl (hw _ (List.mem_of_getElem? (i := 25) rfl))) Via.refl e8 S_c (g := (mkF m 13 #[.val (.int p1)] [])) rfl (hb hby d4_13)
    refine Ends.of st11 ?_
    have hi1 : (p1 + (128 : Int32)).toInt = p1.toInt + 128 := by
      have h1 := c_iadd p1 (128 : Int32)
      have h2 := rng32 (p1 + (128 : Int32))
      have z1 : ((128 : Int32)).toInt = 128 := by decide
      have z2 : ((127 : Int32)).toInt = 127 := by decide
      have z3 : ((0 : Int32)).toInt = 0 := by decide
      rw [Int32.lt_iff_toInt_lt, z2] at hi
      rw [Int32.lt_iff_toInt_lt, z3] at hp
      rw [z1] at h1
      omega
    have hi2 : (p1 + (128 : Int32)).toNatClampNeg < 256 ∧ ¬ (p1 + (128 : Int32)) < (0 : Int32) := by
      have e1 : (p1 + (128 : Int32)).toNatClampNeg = (p1 + (128 : Int32)).toInt.toNat := rfl
      have z2 : ((127 : Int32)).toInt = 127 := by decide
      have z3 : ((0 : Int32)).toInt = 0 := by decide
      rw [Int32.lt_iff_toInt_lt, z2] at hi
      rw [Int32.lt_iff_toInt_lt, z3] at hp
      rw [e1, Int32.lt_iff_toInt_lt, z3, hi1]
      omega
    obtain ⟨r, hr, Er⟩ := els _ hi2.1
    refine Ends.of (F' := T11.setTop (mkF m 22 #[.val (.int p1)] [(.ref r)])) (fun _ kt => ?_) ?_
    · show Steps p.tables e below (T11.setTop (mkF m 16 #[.val (.int p1)] [(.ref ca)])) _
      refine XS.iloadN X11.here hx rfl (hb hby d4_16) rfl ?_
      show Steps p.tables e below (T11.setTop (mkF m 17 #[.val (.int p1)] [(.int p1), (.ref ca)])) _
      refine XS.sipush X11.here hx rfl (hb hby d4_17) ?_
      show Steps p.tables e below (T11.setTop (mkF m 20 #[.val (.int p1)] [(.int (128 : Int32)), (.int p1), (.ref ca)])) _
      refine XS.iadd X11.here hx rfl (hb hby d4_20) rfl ?_
      show Steps p.tables e below (T11.setTop (mkF m 21 #[.val (.int p1)] [(.int (p1 + (128 : Int32))), (.ref ca)])) _
      refine X11.aaload hx (j := (p1 + (128 : Int32))) (v := (.ref r)) (by rw [e11]; exact A_c.1) (State.isArrayOf_alike hZ.alike A_c.2.1) rfl A_c.2.2 (fun q => q.elim hi2.2 (fun y => by omega)) hr (g := (mkF m 21 #[.val (.int p1)] [(.int (p1 + (128 : Int32))), (.ref ca)])) rfl rfl (hb hby d4_21) _ ?_
      exact kt
    have Kk : Keep h0 T11.heap [] := by rw [e11]; exact Keep.refl _ _
    rw [← e11] at Er
    obtain ⟨fs, hr, hrun, hended, hW, hsame⟩ := X11.leave (v := some (.ref r)) (fun h => by rw [Bd.returns] at h; cases h)
    refine ⟨_, _, ?_, hrun, hended, _, _, rfl, ⟨_, rfl, N0, Kk, Er⟩, ⟨_, rfl⟩, hW, hsame.mono (by decide) (by decide)⟩
    show Steps p.tables e below (T11.setTop (mkF m 22 #[.val (.int p1)] [(.ref r)])) _
    jvm_step X11.here [X11.here.top, hx, (hb hby d4_22), X11.method', Bd.returns, Value.isRef, FieldType.isReference]
    first | (intro acts; rw [hr _ acts rfl rfl rfl]) | rw [hr _ _ rfl rfl rfl]
    exact Steps.refl _
theorem d5_0 : decode prog_35_method_2_code 0 = .ok (.aload_n 1, 1) := by decide +kernel
theorem d5_1 : decode prog_35_method_2_code 1 = .ok (.instanceof 17, 3) := by decide +kernel
theorem d5_4 : decode prog_35_method_2_code 4 = .ok (.ifCond .eq 34, 3) := by decide +kernel
theorem d5_7 : decode prog_35_method_2_code 7 = .ok (.aload_n 1, 1) := by decide +kernel
theorem d5_8 : decode prog_35_method_2_code 8 = .ok (.checkcast 17, 3) := by decide +kernel
theorem d5_11 : decode prog_35_method_2_code 11 = .ok (.astore_n 2, 1) := by decide +kernel
theorem d5_12 : decode prog_35_method_2_code 12 = .ok (.aload_n 2, 1) := by decide +kernel
theorem d5_13 : decode prog_35_method_2_code 13 = .ok (.getfield 16, 3) := by decide +kernel
theorem d5_16 : decode prog_35_method_2_code 16 = .ok (.aload_n 0, 1) := by decide +kernel
theorem d5_17 : decode prog_35_method_2_code 17 = .ok (.getfield 16, 3) := by decide +kernel
theorem d5_20 : decode prog_35_method_2_code 20 = .ok (.if_icmp .ne 18, 3) := by decide +kernel
theorem d5_23 : decode prog_35_method_2_code 23 = .ok (.aload_n 2, 1) := by decide +kernel
theorem d5_24 : decode prog_35_method_2_code 24 = .ok (.getfield 22, 3) := by decide +kernel
theorem d5_27 : decode prog_35_method_2_code 27 = .ok (.aload_n 0, 1) := by decide +kernel
theorem d5_28 : decode prog_35_method_2_code 28 = .ok (.getfield 22, 3) := by decide +kernel
theorem d5_31 : decode prog_35_method_2_code 31 = .ok (.if_icmp .ne 7, 3) := by decide +kernel
theorem d5_34 : decode prog_35_method_2_code 34 = .ok (.iconst 1, 1) := by decide +kernel
theorem d5_35 : decode prog_35_method_2_code 35 = .ok (.goto 4, 3) := by decide +kernel
theorem d5_38 : decode prog_35_method_2_code 38 = .ok (.iconst 0, 1) := by decide +kernel
theorem d5_39 : decode prog_35_method_2_code 39 = .ok (.ireturn, 1) := by decide +kernel
def Q_eqA (Z : State) (a1 : Addr) (a2 : Addr) (t1 : Int32) (i1 : Int32) (t2 : Int32) (i2 : Int32) (h0 : Heap) (n0 : Nat) (v : Option Value) (h : Heap) (L : List Loc) : Prop := v = some (.int (if (t2 = t1 ∧ i2 = i1) then (1 : Int32) else (0 : Int32))) ∧ Fr n0 L ∧ h = h0
set_option maxRecDepth 65536 in
set_option maxHeartbeats 40000000 in
theorem eqA (l : Launch) (Z : State) (a0 : Array Value) (hw : ∀ d ∈ tables_1, d.before a0 Z = true) (ws : List Jvm.Cond) (a1 : Addr) (a2 : Addr) (t1 : Int32) (i1 : Int32) (t2 : Int32) (i2 : Int32) (h0 : Heap) (n0 : Nat) (Z0 : n0 ≤ h0.size) (E_2 : Exa Z h0 a2 "com/example/fence_finder/fencefinder/model/FencePlace") (Ft1 : Fld Z h0 a1 "com/example/fence_finder/fencefinder/model/FencePlace" "thread" "I" (.int t1)) (Fi1 : Fld Z h0 a1 "com/example/fence_finder/fencefinder/model/FencePlace" "instruction" "I" (.int i1)) (Ft2 : Fld Z h0 a2 "com/example/fence_finder/fencefinder/model/FencePlace" "thread" "I" (.int t2)) (Fi2 : Fld Z h0 a2 "com/example/fence_finder/fencefinder/model/FencePlace" "instruction" "I" (.int i2)) :
    MetFree l (⟨"com/example/fence_finder/fencefinder/model/FencePlace", "equals", "(Ljava/lang/Object;)Z"⟩ : MethodName) (head1 (Jvm.Cond.code (⟨"com/example/fence_finder/fencefinder/model/FencePlace", "equals", "(Ljava/lang/Object;)Z"⟩ : MethodName) prog_35_method_2_code 3 (some .boolean) :: ws) ({ frames := 0, cells := 0, slots := 0, locals := 0 } : Room)) (fun a U => a = #[(.ref a1), (.ref a2)] ∧ Z.Warmed39 U.vm ∧ U.heap = h0) (fun _ _ _ _ _ => True) (fun _ U o U' => ∃ v L, o = .returned v ∧ Q_eqA Z a1 a2 t1 i1 t2 i2 h0 n0 v U'.heap L ∧ FrameEnd U o U' L ({ frames := 0, cells := 0, slots := 0, locals := 0 } : Room).cells ({ frames := 0, cells := 0, slots := 0, locals := 0 } : Room).slots) := by
  refine MetFree.of_bodySF (plainFor_of_name pn_2) hisR ?_
  intro p e s m args below meth c s₁ Bd hml0 hP hK
  obtain ⟨rfl, hZ, hh⟩ := hP
  have hx := Bd.exec
  have hby := Bd.bytes
  have hml : c.maxLocals = 3 := hml0
  have hown : s.vm.findClass "com/example/fence_finder/fencefinder/model/FencePlace" = some m.cls := findClass_of_methodNamed Bd.named
  have hnm := (name_of_methodNamed Bd.named Bd.method).1
  have X0 : Stand p l e ({ frames := 0, cells := 0, slots := 0, locals := 0 } : Room) s m #[(.ref a1), (.ref a2)] below meth c s₁ [] 0 0 := Stand.of_body Bd
  have e0 : s₁.heap = h0 := by rw [← hh, Bd.state]; rfl
  have N0 := Fr.nil n0
  have eF : entryFrame m #[(.ref a1), (.ref a2)] 3 = mkF m 0 #[.val (.ref a1), .val (.ref a2), .unset] [] := by first | (simp [entryFrame, mkF, argsToLocals, Value.category]; done) | rfl
  show Ends p e below s ({ frames := 0, cells := 0, slots := 0, locals := 0 } : Room) (Q_eqA Z a1 a2 t1 i1 t2 i2 h0 n0) (s₁.setTop (entryFrame m #[(.ref a1), (.ref a2)] 3))
  rw [eF]
  refine Ends.of (F' := s₁.setTop (mkF m 1 #[.val (.ref a1), .val (.ref a2), .unset] [(.ref a2)])) (fun _ kt => ?_) ?_
  · show Steps p.tables e below (s₁.setTop (mkF m 0 #[.val (.ref a1), .val (.ref a2), .unset] [])) _
    refine XS.aloadN X0.here hx rfl (hb hby d5_0) rfl rfl ?_
    exact kt
  obtain ⟨T12, X12, e12, st12⟩ := instY X0 hx hZ hown (hw _ (List.mem_of_getElem? (i := 31) rfl)) e0 (Ins.self E_2) (g := (mkF m 1 #[.val (.ref a1), .val (.ref a2), .unset] [(.ref a2)])) rfl rfl (hb hby d5_1)
  refine Ends.of st12 ?_
  refine Ends.of (F' := T12.setTop (mkF m 8 #[.val (.ref a1), .val (.ref a2), .unset] [(.ref a2)])) (fun _ kt => ?_) ?_
  · show Steps p.tables e below (T12.setTop (mkF m 4 #[.val (.ref a1), .val (.ref a2), .unset] [(.int (1 : Int32))])) _
    refine XS.ifNo X12.here hx rfl (hb hby d5_4) rfl ((if0 _ _).trans (feq (by decide)).1) ?_
    show Steps p.tables e below (T12.setTop (mkF m 7 #[.val (.ref a1), .val (.ref a2), .unset] [])) _
    refine XS.aloadN X12.here hx rfl (hb hby d5_7) rfl rfl ?_
    exact kt
  obtain ⟨T13, X13, e13, st13⟩ := castY X12 hx hZ hown (hw _ (List.mem_of_getElem? (i := 31) rfl)) e12 (Ins.self E_2) (g := (mkF m 8 #[.val (.ref a1), .val (.ref a2), .unset] [(.ref a2)])) rfl rfl (hb hby d5_8)
  refine Ends.of st13 ?_
  refine Ends.of (F' := T13.setTop (mkF m 13 #[.val (.ref a1), .val (.ref a2), .val (.ref a2)] [(.ref a2)])) (fun _ kt => ?_) ?_
  · show Steps p.tables e below (T13.setTop (mkF m 11 #[.val (.ref a1), .val (.ref a2), .unset] [(.ref a2)])) _
    refine XS.astoreN X13.here hx rfl (hb hby d5_11) rfl rfl (l' := #[.val (.ref a1), .val (.ref a2), .val (.ref a2)]) rfl ?_
    show Steps p.tables e below (T13.setTop (mkF m 12 #[.val (.ref a1), .val (.ref a2), .val (.ref a2)] [])) _
    refine XS.aloadN X13.here hx rfl (hb hby d5_12) rfl rfl ?_
    exact kt
  obtain ⟨T14, X14, e14, st14⟩ := getF X13 hx hZ hown (host := "") (Or.inl (hw _ (List.mem_of_getElem? (i := 15) rfl))) Via.refl e13 Ft2 (g := (mkF m 13 #[.val (.ref a1), .val (.ref a2), .val (.ref a2)] [(.ref a2)])) rfl rfl (hb hby d5_13)
  refine Ends.of st14 ?_
  refine Ends.of (F' := T14.setTop (mkF m 17 #[.val (.ref a1), .val (.ref a2), .val (.ref a2)] [(.ref a1), (.int t2)])) (fun _ kt => ?_) ?_
  · show Steps p.tables e below (T14.setTop (mkF m 16 #[.val (.ref a1), .val (.ref a2), .val (.ref a2)] [(.int t2)])) _
    refine XS.aloadN X14.here hx rfl (hb hby d5_16) rfl rfl ?_
    exact kt
  obtain ⟨T15, X15, e15, st15⟩ := getF X14 hx hZ hown (host := "") (Or.inl (hw _ (List.mem_of_getElem? (i := 15) rfl))) Via.refl e14 Ft1 (g := (mkF m 17 #[.val (.ref a1), .val (.ref a2), .val (.ref a2)] [(.ref a1), (.int t2)])) rfl rfl (hb hby d5_17)
  refine Ends.of st15 ?_
  by_cases ht : t2 = t1
  · refine Ends.of (F' := T15.setTop (mkF m 24 #[.val (.ref a1), .val (.ref a2), .val (.ref a2)] [(.ref a2)])) (fun _ kt => ?_) ?_
    · show Steps p.tables e below (T15.setTop (mkF m 20 #[.val (.ref a1), .val (.ref a2), .val (.ref a2)] [(.int t1), (.int t2)])) _
      refine XS.icmpNo X15.here hx rfl (hb hby d5_20) rfl (teq ht).2 ?_
      show Steps p.tables e below (T15.setTop (mkF m 23 #[.val (.ref a1), .val (.ref a2), .val (.ref a2)] [])) _
      refine XS.aloadN X15.here hx rfl (hb hby d5_23) rfl rfl ?_
      exact kt
    obtain ⟨T16, X16, e16, st16⟩ := getF X15 hx hZ hown (host := "") (Or.inl (hw _ (List.mem_of_getElem? (i := 17) rfl))) Via.refl e15 Fi2 (g := (mkF m 24 #[.val (.ref a1), .val (.ref a2), .val (.ref a2)] [(.ref a2)])) rfl rfl (hb hby d5_24)
    refine Ends.of st16 ?_
    refine Ends.of (F' := T16.setTop (mkF m 28 #[.val (.ref a1), .val (.ref a2), .val (.ref a2)] [(.ref a1), (.int i2)])) (fun _ kt => ?_) ?_
    · show Steps p.tables e below (T16.setTop (mkF m 27 #[.val (.ref a1), .val (.ref a2), .val (.ref a2)] [(.int i2)])) _
      refine XS.aloadN X16.here hx rfl (hb hby d5_27) rfl rfl ?_
      exact kt
    obtain ⟨T17, X17, e17, st17⟩ := getF X16 hx hZ hown (host := "") (Or.inl (hw _ (List.mem_of_getElem? (i := 17) rfl))) Via.refl e16 Fi1 (g := (mkF m 28 #[.val (.ref a1), .val (.ref a2), .val (.ref a2)] [(.ref a1), (.int i2)])) rfl rfl (hb hby d5_28)
    refine Ends.of st17 ?_
    by_cases hi : i2 = i1
    · refine Ends.of (F' := T17.setTop (mkF m 39 #[.val (.ref a1), .val (.ref a2), .val (.ref a2)] [(.int (1 : Int32))])) (fun _ kt => ?_) ?_
      · show Steps p.tables e below (T17.setTop (mkF m 31 #[.val (.ref a1), .val (.ref a2), .val (.ref a2)] [(.int i1), (.int i2)])) _
        refine XS.icmpNo X17.here hx rfl (hb hby d5_31) rfl (teq hi).2 ?_
        show Steps p.tables e below (T17.setTop (mkF m 34 #[.val (.ref a1), .val (.ref a2), .val (.ref a2)] [])) _
        refine XS.iconst X17.here hx rfl (hb hby d5_34) ?_
        show Steps p.tables e below (T17.setTop (mkF m 35 #[.val (.ref a1), .val (.ref a2), .val (.ref a2)] [(.int (1 : Int32))])) _
        refine XS.goto X17.here hx rfl (pc0 := 35) (pc' := 39) rfl (hb hby d5_35) (by decide) (by decide) ?_
        exact kt
      obtain ⟨fs, hr, hrun, hended, hW, hsame⟩ := X17.leave (v := some (.int (1 : Int32))) (fun h => by rw [Bd.returns] at h; cases h)
      exact ⟨_, _, retN X17 hx (t := .boolean) Bd.returns (by simp) (hb hby d5_39) hr, hrun, hended, _, _, rfl, ⟨by rw [if_pos ⟨ht, hi⟩], N0, e17⟩, ⟨_, rfl⟩, hW, hsame.mono (by decide) (by decide)⟩
    · refine Ends.of (F' := T17.setTop (mkF m 39 #[.val (.ref a1), .val (.ref a2), .val (.ref a2)] [(.int (0 : Int32))])) (fun _ kt => ?_) ?_
      · show Steps p.tables e below (T17.setTop (mkF m 31 #[.val (.ref a1), .val (.ref a2), .val (.ref a2)] [(.int i1), (.int i2)])) _
        refine XS.icmpYes X17.here hx rfl (pc0 := 31) (pc' := 38) rfl (hb hby d5_31) rfl (feq hi).2 (by decide) (by decide) ?_
        show Steps p.tables e below (T17.setTop (mkF m 38 #[.val (.ref a1), .val (.ref a2), .val (.ref a2)] [])) _
        refine XS.iconst X17.here hx rfl (hb hby d5_38) ?_
        exact kt
      obtain ⟨fs, hr, hrun, hended, hW, hsame⟩ := X17.leave (v := some (.int (0 : Int32))) (fun h => by rw [Bd.returns] at h; cases h)
      exact ⟨_, _, retN X17 hx (t := .boolean) Bd.returns (by simp) (hb hby d5_39) hr, hrun, hended, _, _, rfl, ⟨by rw [if_neg (fun q => hi q.2)], N0, e17⟩, ⟨_, rfl⟩, hW, hsame.mono (by decide) (by decide)⟩
  · refine Ends.of (F' := T15.setTop (mkF m 39 #[.val (.ref a1), .val (.ref a2), .val (.ref a2)] [(.int (0 : Int32))])) (fun _ kt => ?_) ?_
    · show Steps p.tables e below (T15.setTop (mkF m 20 #[.val (.ref a1), .val (.ref a2), .val (.ref a2)] [(.int t1), (.int t2)])) _
      refine XS.icmpYes X15.here hx rfl (pc0 := 20) (pc' := 38) rfl (hb hby d5_20) rfl (feq ht).2 (by decide) (by decide) ?_
      show Steps p.tables e below (T15.setTop (mkF m 38 #[.val (.ref a1), .val (.ref a2), .val (.ref a2)] [])) _
      refine XS.iconst X15.here hx rfl (hb hby d5_38) ?_
      exact kt
    obtain ⟨fs, hr, hrun, hended, hW, hsame⟩ := X15.leave (v := some (.int (0 : Int32))) (fun h => by rw [Bd.returns] at h; cases h)
    exact ⟨_, _, retN X15 hx (t := .boolean) Bd.returns (by simp) (hb hby d5_39) hr, hrun, hended, _, _, rfl, ⟨by rw [if_neg (fun q => ht q.1)], N0, e15⟩, ⟨_, rfl⟩, hW, hsame.mono (by decide) (by decide)⟩
def Q_eqN (Z : State) (a1 : Addr) (h0 : Heap) (n0 : Nat) (v : Option Value) (h : Heap) (L : List Loc) : Prop := v = some (.int (0 : Int32)) ∧ Fr n0 L ∧ h = h0
set_option maxRecDepth 65536 in
set_option maxHeartbeats 40000000 in
theorem eqN (l : Launch) (Z : State) (a0 : Array Value) (hw : ∀ d ∈ tables_1, d.before a0 Z = true) (ws : List Jvm.Cond) (a1 : Addr) (h0 : Heap) (n0 : Nat) (Z0 : n0 ≤ h0.size) :
    MetFree l (⟨"com/example/fence_finder/fencefinder/model/FencePlace", "equals", "(Ljava/lang/Object;)Z"⟩ : MethodName) (head1 (Jvm.Cond.code (⟨"com/example/fence_finder/fencefinder/model/FencePlace", "equals", "(Ljava/lang/Object;)Z"⟩ : MethodName) prog_35_method_2_code 3 (some .boolean) :: ws) ({ frames := 0, cells := 0, slots := 0, locals := 0 } : Room)) (fun a U => a = #[(.ref a1), .null] ∧ Z.Warmed39 U.vm ∧ U.heap = h0) (fun _ _ _ _ _ => True) (fun _ U o U' => ∃ v L, o = .returned v ∧ Q_eqN Z a1 h0 n0 v U'.heap L ∧ FrameEnd U o U' L ({ frames := 0, cells := 0, slots := 0, locals := 0 } : Room).cells ({ frames := 0, cells := 0, slots := 0, locals := 0 } : Room).slots) := by
  refine MetFree.of_bodySF (plainFor_of_name pn_2) hisR ?_
  intro p e s m args below meth c s₁ Bd hml0 hP hK
  obtain ⟨rfl, hZ, hh⟩ := hP
  have hx := Bd.exec
  have hby := Bd.bytes
  have hml : c.maxLocals = 3 := hml0
  have hown : s.vm.findClass "com/example/fence_finder/fencefinder/model/FencePlace" = some m.cls := findClass_of_methodNamed Bd.named
  have hnm := (name_of_methodNamed Bd.named Bd.method).1
  have X0 : Stand p l e ({ frames := 0, cells := 0, slots := 0, locals := 0 } : Room) s m #[(.ref a1), .null] below meth c s₁ [] 0 0 := Stand.of_body Bd
  have e0 : s₁.heap = h0 := by rw [← hh, Bd.state]; rfl
  have N0 := Fr.nil n0
  have eF : entryFrame m #[(.ref a1), .null] 3 = mkF m 0 #[.val (.ref a1), .val .null, .unset] [] := by first | (simp [entryFrame, mkF, argsToLocals, Value.category]; done) | rfl
  show Ends p e below s ({ frames := 0, cells := 0, slots := 0, locals := 0 } : Room) (Q_eqN Z a1 h0 n0) (s₁.setTop (entryFrame m #[(.ref a1), .null] 3))
  rw [eF]
  refine Ends.of (F' := s₁.setTop (mkF m 39 #[.val (.ref a1), .val .null, .unset] [(.int (0 : Int32))])) (fun _ kt => ?_) ?_
  · show Steps p.tables e below (s₁.setTop (mkF m 0 #[.val (.ref a1), .val .null, .unset] [])) _
    refine XS.aloadN X0.here hx rfl (hb hby d5_0) rfl rfl ?_
    show Steps p.tables e below (s₁.setTop (mkF m 1 #[.val (.ref a1), .val .null, .unset] [.null])) _
    refine X0.instanceofNull hx (g := (mkF m 1 #[.val (.ref a1), .val .null, .unset] [.null])) rfl rfl (hb hby d5_1) _ ?_
    show Steps p.tables e below (s₁.setTop (mkF m 4 #[.val (.ref a1), .val .null, .unset] [(.int (0 : Int32))])) _
    refine XS.ifYes X0.here hx rfl (pc0 := 4) (pc' := 38) rfl (hb hby d5_4) rfl ((if0 _ _).trans (teq rfl).1) (by decide) (by decide) ?_
    show Steps p.tables e below (s₁.setTop (mkF m 38 #[.val (.ref a1), .val .null, .unset] [])) _
    refine XS.iconst X0.here hx rfl (hb hby d5_38) ?_
    exact kt
  obtain ⟨fs, hr, hrun, hended, hW, hsame⟩ := X0.leave (v := some (.int (0 : Int32))) (fun h => by rw [Bd.returns] at h; cases h)
  exact ⟨_, _, retN X0 hx (t := .boolean) Bd.returns (by simp) (hb hby d5_39) hr, hrun, hended, _, _, rfl, ⟨rfl, N0, e0⟩, ⟨_, rfl⟩, hW, hsame.mono (by decide) (by decide)⟩
def Q_eqO (Z : State) (a1 : Addr) (a2 : Addr) (h0 : Heap) (n0 : Nat) (v : Option Value) (h : Heap) (L : List Loc) : Prop := v = some (.int (0 : Int32)) ∧ Fr n0 L ∧ h = h0
set_option maxRecDepth 65536 in
set_option maxHeartbeats 40000000 in
theorem eqO (l : Launch) (Z : State) (a0 : Array Value) (hw : ∀ d ∈ tables_1, d.before a0 Z = true) (ws : List Jvm.Cond) (a1 : Addr) (a2 : Addr) (h0 : Heap) (n0 : Nat) (Z0 : n0 ≤ h0.size) (E_2 : Exa Z h0 a2 "java/lang/Integer") :
    MetFree l (⟨"com/example/fence_finder/fencefinder/model/FencePlace", "equals", "(Ljava/lang/Object;)Z"⟩ : MethodName) (head1 (Jvm.Cond.code (⟨"com/example/fence_finder/fencefinder/model/FencePlace", "equals", "(Ljava/lang/Object;)Z"⟩ : MethodName) prog_35_method_2_code 3 (some .boolean) :: ws) ({ frames := 0, cells := 0, slots := 0, locals := 0 } : Room)) (fun a U => a = #[(.ref a1), (.ref a2)] ∧ Z.Warmed39 U.vm ∧ U.heap = h0) (fun _ _ _ _ _ => True) (fun _ U o U' => ∃ v L, o = .returned v ∧ Q_eqO Z a1 a2 h0 n0 v U'.heap L ∧ FrameEnd U o U' L ({ frames := 0, cells := 0, slots := 0, locals := 0 } : Room).cells ({ frames := 0, cells := 0, slots := 0, locals := 0 } : Room).slots) := by
  refine MetFree.of_bodySF (plainFor_of_name pn_2) hisR ?_
  intro p e s m args below meth c s₁ Bd hml0 hP hK
  obtain ⟨rfl, hZ, hh⟩ := hP
  have hx := Bd.exec
  have hby := Bd.bytes
  have hml : c.maxLocals = 3 := hml0
  have hown : s.vm.findClass "com/example/fence_finder/fencefinder/model/FencePlace" = some m.cls := findClass_of_methodNamed Bd.named
  have hnm := (name_of_methodNamed Bd.named Bd.method).1
  have X0 : Stand p l e ({ frames := 0, cells := 0, slots := 0, locals := 0 } : Room) s m #[(.ref a1), (.ref a2)] below meth c s₁ [] 0 0 := Stand.of_body Bd
  have e0 : s₁.heap = h0 := by rw [← hh, Bd.state]; rfl
  have N0 := Fr.nil n0
  have eF : entryFrame m #[(.ref a1), (.ref a2)] 3 = mkF m 0 #[.val (.ref a1), .val (.ref a2), .unset] [] := by first | (simp [entryFrame, mkF, argsToLocals, Value.category]; done) | rfl
  show Ends p e below s ({ frames := 0, cells := 0, slots := 0, locals := 0 } : Room) (Q_eqO Z a1 a2 h0 n0) (s₁.setTop (entryFrame m #[(.ref a1), (.ref a2)] 3))
  rw [eF]
  refine Ends.of (F' := s₁.setTop (mkF m 1 #[.val (.ref a1), .val (.ref a2), .unset] [(.ref a2)])) (fun _ kt => ?_) ?_
  · show Steps p.tables e below (s₁.setTop (mkF m 0 #[.val (.ref a1), .val (.ref a2), .unset] [])) _
    refine XS.aloadN X0.here hx rfl (hb hby d5_0) rfl rfl ?_
    exact kt
  obtain ⟨T18, X18, e18, st18⟩ := instNo X0 hx hZ hown (hw _ (List.mem_of_getElem? (i := 31) rfl)) e0 E_2 (own_nofp (by decide) (by decide) (by decide) (hw _ (List.mem_of_getElem? (i := 33) rfl)) (hw _ (List.mem_of_getElem? (i := 34) rfl)) (hw _ (List.mem_of_getElem? (i := 35) rfl)) (hw _ (List.mem_of_getElem? (i := 2) rfl))) (g := (mkF m 1 #[.val (.ref a1), .val (.ref a2), .unset] [(.ref a2)])) rfl rfl (hb hby d5_1)
  refine Ends.of st18 ?_
  refine Ends.of (F' := T18.setTop (mkF m 39 #[.val (.ref a1), .val (.ref a2), .unset] [(.int (0 : Int32))])) (fun _ kt => ?_) ?_
  · show Steps p.tables e below (T18.setTop (mkF m 4 #[.val (.ref a1), .val (.ref a2), .unset] [(.int (0 : Int32))])) _
    refine XS.ifYes X18.here hx rfl (pc0 := 4) (pc' := 38) rfl (hb hby d5_4) rfl ((if0 _ _).trans (teq rfl).1) (by decide) (by decide) ?_
    show Steps p.tables e below (T18.setTop (mkF m 38 #[.val (.ref a1), .val (.ref a2), .unset] [])) _
    refine XS.iconst X18.here hx rfl (hb hby d5_38) ?_
    exact kt
  obtain ⟨fs, hr, hrun, hended, hW, hsame⟩ := X18.leave (v := some (.int (0 : Int32))) (fun h => by rw [Bd.returns] at h; cases h)
  exact ⟨_, _, retN X18 hx (t := .boolean) Bd.returns (by simp) (hb hby d5_39) hr, hrun, hended, _, _, rfl, ⟨rfl, N0, e18⟩, ⟨_, rfl⟩, hW, hsame.mono (by decide) (by decide)⟩
theorem pn_4 : plainName "com/example/fence_finder/fencefinder/model/FencePlaceEqualsPinLaw" = true := by first | (simp [plainName, overriddenIn]; done) | decide +kernel
def Q0 (Z : State) (p1 : Int32) (p2 : Int32) (p3 : Int32) (p4 : Int32) (p5 : Int32) (ca : Addr) (cl : Cell) (h0 : Heap) (n0 : Nat) (v : Option Value) (h : Heap) (L : List Loc) : Prop := v = some (.int (1 : Int32)) ∧ Fr n0 L
set_option maxRecDepth 65536 in
set_option maxHeartbeats 40000000 in
theorem rm0 (l : Launch) (Z : State) (a0 : Array Value) (hw : ∀ d ∈ tables_1, d.before a0 Z = true) (ws : List Jvm.Cond) (p1 : Int32) (p2 : Int32) (p3 : Int32) (p4 : Int32) (p5 : Int32) (ca : Addr) (cl : Cell) (h0 : Heap) (n0 : Nat) (Z0 : n0 ≤ h0.size) (S_h : Sta Z h0 "java/lang/Integer$IntegerCache" "high" "I" (.int (127 : Int32))) (S_c : Sta Z h0 "java/lang/Integer$IntegerCache" "cache" "[Ljava/lang/Integer;" (.ref ca)) (A_c : Arr Z h0 ca cl (.object "java/lang/Integer")) (z_c : cl.slots.size = 256) (els : ∀ j, j < 256 → ∃ r, cl.slots[j]? = some (.ref r) ∧ Exa Z h0 r "java/lang/Integer") :
    MetFree l x (head1 (Jvm.Cond.code x code maxLocals ret :: ws) room_1) (fun a U => a = #[(.int p1), (.int p2), (.int p3), (.int p4), (.int p5)] ∧ Z.Warmed39 U.vm ∧ U.heap = h0) (fun _ _ _ _ _ => True) (fun _ U o U' => ∃ v L, o = .returned v ∧ Q0 Z p1 p2 p3 p4 p5 ca cl h0 n0 v U'.heap L ∧ FrameEnd U o U' L room_1.cells room_1.slots) := by
  refine MetFree.of_bodySF (plainFor_of_name pn_4) hisR ?_
  intro p e s m args below meth c s₁ Bd hml0 hP hK
  obtain ⟨rfl, hZ, hh⟩ := hP
  have hx := Bd.exec
  have hby := Bd.bytes
  have hml : c.maxLocals = 18 := hml0
  have hown : s.vm.findClass "com/example/fence_finder/fencefinder/model/FencePlaceEqualsPinLaw" = some m.cls := findClass_of_methodNamed Bd.named
  have hnm := (name_of_methodNamed Bd.named Bd.method).1
  have X0 : Stand p l e room_1 s m #[(.int p1), (.int p2), (.int p3), (.int p4), (.int p5)] below meth c s₁ [] 0 0 := Stand.of_body Bd
  have e0 : s₁.heap = h0 := by rw [← hh, Bd.state]; rfl
  have N0 := Fr.nil n0
  have eF : entryFrame m #[(.int p1), (.int p2), (.int p3), (.int p4), (.int p5)] maxLocals = mkF m 0 #[.val (.int p1), .val (.int p2), .val (.int p3), .val (.int p4), .val (.int p5), .unset, .unset, .unset, .unset, .unset, .unset, .unset, .unset, .unset, .unset, .unset, .unset, .unset] [] := by first | (simp [entryFrame, mkF, argsToLocals, Value.category, maxLocals]; done) | rfl
  show Ends p e below s room_1 (Q0 Z p1 p2 p3 p4 p5 ca cl h0 n0) (s₁.setTop (entryFrame m #[(.int p1), (.int p2), (.int p3), (.int p4), (.int p5)] maxLocals))
  rw [eF]
  refine Ends.of (F' := s₁.setTop (mkF m 16 #[.val (.int p1), .val (.int p2), .val (.int p3), .val (.int p4), .val (.int p5), .val (.int (p1 &&& (2147483647 : Int32))), .val (.int (p2 &&& (2147483647 : Int32))), .unset, .unset, .unset, .unset, .unset, .unset, .unset, .unset, .unset, .unset, .unset] [(.int (p5 &&& (1 : Int32)))])) (fun _ kt => ?_) ?_
  · show Steps p.tables e below (s₁.setTop (mkF m 0 #[.val (.int p1), .val (.int p2), .val (.int p3), .val (.int p4), .val (.int p5), .unset, .unset, .unset, .unset, .unset, .unset, .unset, .unset, .unset, .unset, .unset, .unset, .unset] [])) _
    refine XS.iloadN X0.here hx rfl (hb hby at_0) rfl ?_
    show Steps p.tables e below (s₁.setTop (mkF m 1 #[.val (.int p1), .val (.int p2), .val (.int p3), .val (.int p4), .val (.int p5), .unset, .unset, .unset, .unset, .unset, .unset, .unset, .unset, .unset, .unset, .unset, .unset, .unset] [(.int p1)])) _
    refine X0.ldcInt hx hown (mvT hZ (hw _ (List.mem_of_getElem? (i := 0) rfl))) (g := (mkF m 1 #[.val (.int p1), .val (.int p2), .val (.int p3), .val (.int p4), .val (.int p5), .unset, .unset, .unset, .unset, .unset, .unset, .unset, .unset, .unset, .unset, .unset, .unset, .unset] [(.int p1)])) rfl (hb hby at_1) _ ?_
    show Steps p.tables e below (s₁.setTop (mkF m 3 #[.val (.int p1), .val (.int p2), .val (.int p3), .val (.int p4), .val (.int p5), .unset, .unset, .unset, .unset, .unset, .unset, .unset, .unset, .unset, .unset, .unset, .unset, .unset] [(.int (2147483647 : Int32)), (.int p1)])) _
    refine XS.iand X0.here hx rfl (hb hby at_3) rfl ?_
    show Steps p.tables e below (s₁.setTop (mkF m 4 #[.val (.int p1), .val (.int p2), .val (.int p3), .val (.int p4), .val (.int p5), .unset, .unset, .unset, .unset, .unset, .unset, .unset, .unset, .unset, .unset, .unset, .unset, .unset] [(.int (p1 &&& (2147483647 : Int32)))])) _
    refine XS.istore X0.here hx rfl (hb hby at_4) rfl (l' := #[.val (.int p1), .val (.int p2), .val (.int p3), .val (.int p4), .val (.int p5), .val (.int (p1 &&& (2147483647 : Int32))), .unset, .unset, .unset, .unset, .unset, .unset, .unset, .unset, .unset, .unset, .unset, .unset]) rfl ?_
    show Steps p.tables e below (s₁.setTop (mkF m 6 #[.val (.int p1), .val (.int p2), .val (.int p3), .val (.int p4), .val (.int p5), .val (.int (p1 &&& (2147483647 : Int32))), .unset, .unset, .unset, .unset, .unset, .unset, .unset, .unset, .unset, .unset, .unset, .unset] [])) _
    refine XS.iloadN X0.here hx rfl (hb hby at_6) rfl ?_
    show Steps p.tables e below (s₁.setTop (mkF m 7 #[.val (.int p1), .val (.int p2), .val (.int p3), .val (.int p4), .val (.int p5), .val (.int (p1 &&& (2147483647 : Int32))), .unset, .unset, .unset, .unset, .unset, .unset, .unset, .unset, .unset, .unset, .unset, .unset] [(.int p2)])) _
    refine X0.ldcInt hx hown (mvT hZ (hw _ (List.mem_of_getElem? (i := 0) rfl))) (g := (mkF m 7 #[.val (.int p1), .val (.int p2), .val (.int p3), .val (.int p4), .val (.int p5), .val (.int (p1 &&& (2147483647 : Int32))), .unset, .unset, .unset, .unset, .unset, .unset, .unset, .unset, .unset, .unset, .unset, .unset] [(.int p2)])) rfl (hb hby at_7) _ ?_
    show Steps p.tables e below (s₁.setTop (mkF m 9 #[.val (.int p1), .val (.int p2), .val (.int p3), .val (.int p4), .val (.int p5), .val (.int (p1 &&& (2147483647 : Int32))), .unset, .unset, .unset, .unset, .unset, .unset, .unset, .unset, .unset, .unset, .unset, .unset] [(.int (2147483647 : Int32)), (.int p2)])) _
    refine XS.iand X0.here hx rfl (hb hby at_9) rfl ?_
    show Steps p.tables e below (s₁.setTop (mkF m 10 #[.val (.int p1), .val (.int p2), .val (.int p3), .val (.int p4), .val (.int p5), .val (.int (p1 &&& (2147483647 : Int32))), .unset, .unset, .unset, .unset, .unset, .unset, .unset, .unset, .unset, .unset, .unset, .unset] [(.int (p2 &&& (2147483647 : Int32)))])) _
    refine XS.istore X0.here hx rfl (hb hby at_10) rfl (l' := #[.val (.int p1), .val (.int p2), .val (.int p3), .val (.int p4), .val (.int p5), .val (.int (p1 &&& (2147483647 : Int32))), .val (.int (p2 &&& (2147483647 : Int32))), .unset, .unset, .unset, .unset, .unset, .unset, .unset, .unset, .unset, .unset, .unset]) rfl ?_
    show Steps p.tables e below (s₁.setTop (mkF m 12 #[.val (.int p1), .val (.int p2), .val (.int p3), .val (.int p4), .val (.int p5), .val (.int (p1 &&& (2147483647 : Int32))), .val (.int (p2 &&& (2147483647 : Int32))), .unset, .unset, .unset, .unset, .unset, .unset, .unset, .unset, .unset, .unset, .unset] [])) _
    refine XS.iload X0.here hx rfl (hb hby at_12) rfl ?_
    show Steps p.tables e below (s₁.setTop (mkF m 14 #[.val (.int p1), .val (.int p2), .val (.int p3), .val (.int p4), .val (.int p5), .val (.int (p1 &&& (2147483647 : Int32))), .val (.int (p2 &&& (2147483647 : Int32))), .unset, .unset, .unset, .unset, .unset, .unset, .unset, .unset, .unset, .unset, .unset] [(.int p5)])) _
    refine XS.iconst X0.here hx rfl (hb hby at_14) ?_
    show Steps p.tables e below (s₁.setTop (mkF m 15 #[.val (.int p1), .val (.int p2), .val (.int p3), .val (.int p4), .val (.int p5), .val (.int (p1 &&& (2147483647 : Int32))), .val (.int (p2 &&& (2147483647 : Int32))), .unset, .unset, .unset, .unset, .unset, .unset, .unset, .unset, .unset, .unset, .unset] [(.int (1 : Int32)), (.int p5)])) _
    refine XS.iand X0.here hx rfl (hb hby at_15) rfl ?_
    exact kt
  have blk : ∀ cc dd : Int32, ¬ cc < (0 : Int32) → ¬ dd < (0 : Int32) → Ends p e below s room_1 (Q0 Z p1 p2 p3 p4 p5 ca cl h0 n0) (s₁.setTop (mkF m 48 #[.val (.int p1), .val (.int p2), .val (.int p3), .val (.int p4), .val (.int p5), .val (.int (p1 &&& (2147483647 : Int32))), .val (.int (p2 &&& (2147483647 : Int32))), .val (.int cc), .val (.int dd), .unset, .unset, .unset, .unset, .unset, .unset, .unset, .unset, .unset] [])) := by
    intro cc dd hcc hdd
    obtain ⟨T19, h19, X19, e19, E19, A19, D19, -, st19⟩ := newO X0 hx hZ hown (hw _ (List.mem_of_getElem? (i := 1) rfl)) (hw _ (List.mem_of_getElem? (i := 2) rfl)) (hw _ (List.mem_of_getElem? (i := 3) rfl)) e0 (g := (mkF m 48 #[.val (.int p1), .val (.int p2), .val (.int p3), .val (.int p4), .val (.int p5), .val (.int (p1 &&& (2147483647 : Int32))), .val (.int (p2 &&& (2147483647 : Int32))), .val (.int cc), .val (.int dd), .unset, .unset, .unset, .unset, .unset, .unset, .unset, .unset, .unset] [])) rfl (hb hby at_48) (by decide) (by decide)
    obtain ⟨b19, g19⟩ : ∃ z, z = h0.size := ⟨_, rfl⟩
    rw [← g19] at A19 D19 st19
    have F_thread_b19 : Fld Z h19 b19 "com/example/fence_finder/fencefinder/model/FencePlace" "thread" "I" (.int (0 : Int32)) := D19 (Or.inr (hw _ (List.mem_of_getElem? (i := 16) rfl))) (ty := .int) (by decide)
    have F_instruction_b19 : Fld Z h19 b19 "com/example/fence_finder/fencefinder/model/FencePlace" "instruction" "I" (.int (0 : Int32)) := D19 (Or.inr (hw _ (List.mem_of_getElem? (i := 18) rfl))) (ty := .int) (by decide)
    refine Ends.of st19 ?_
    have Z1 : n0 ≤ h19.size := Nat.le_trans Z0 E19.1
    have gb1 : n0 ≤ b19 := Nat.le_trans Z0 (Nat.le_of_eq g19.symm)
    refine Ends.of (F' := T19.setTop (mkF m 56 #[.val (.int p1), .val (.int p2), .val (.int p3), .val (.int p4), .val (.int p5), .val (.int (p1 &&& (2147483647 : Int32))), .val (.int (p2 &&& (2147483647 : Int32))), .val (.int cc), .val (.int dd), .unset, .unset, .unset, .unset, .unset, .unset, .unset, .unset, .unset] [(.int (p2 &&& (2147483647 : Int32))), (.int (p1 &&& (2147483647 : Int32))), (.ref b19), (.ref b19)])) (fun _ kt => ?_) ?_
    · show Steps p.tables e below (T19.setTop (mkF m 51 #[.val (.int p1), .val (.int p2), .val (.int p3), .val (.int p4), .val (.int p5), .val (.int (p1 &&& (2147483647 : Int32))), .val (.int (p2 &&& (2147483647 : Int32))), .val (.int cc), .val (.int dd), .unset, .unset, .unset, .unset, .unset, .unset, .unset, .unset, .unset] [(.ref b19)])) _
      refine XS.dup X19.here hx rfl (hb hby at_51) rfl rfl ?_
      show Steps p.tables e below (T19.setTop (mkF m 52 #[.val (.int p1), .val (.int p2), .val (.int p3), .val (.int p4), .val (.int p5), .val (.int (p1 &&& (2147483647 : Int32))), .val (.int (p2 &&& (2147483647 : Int32))), .val (.int cc), .val (.int dd), .unset, .unset, .unset, .unset, .unset, .unset, .unset, .unset, .unset] [(.ref b19), (.ref b19)])) _
      refine XS.iload X19.here hx rfl (hb hby at_52) rfl ?_
      show Steps p.tables e below (T19.setTop (mkF m 54 #[.val (.int p1), .val (.int p2), .val (.int p3), .val (.int p4), .val (.int p5), .val (.int (p1 &&& (2147483647 : Int32))), .val (.int (p2 &&& (2147483647 : Int32))), .val (.int cc), .val (.int dd), .unset, .unset, .unset, .unset, .unset, .unset, .unset, .unset, .unset] [(.int (p1 &&& (2147483647 : Int32))), (.ref b19), (.ref b19)])) _
      refine XS.iload X19.here hx rfl (hb hby at_54) rfl ?_
      exact kt
    obtain ⟨_, _, ⟨T20, L20, k20, n20⟩, -, X20, ⟨Lc20, hQ20, l20, y20, z20⟩, st20⟩ := X19.specialBack hx (y := (⟨"com/example/fence_finder/fencefinder/model/FencePlace", "<init>", "(II)V"⟩ : MethodName)) rfl hown (mvT hZ (hw _ (List.mem_of_getElem? (i := 4) rfl))) (mvT hZ (hw _ (List.mem_of_getElem? (i := 5) rfl))) (mvT hZ (hw _ (List.mem_of_getElem? (i := 6) rfl))) (by decide) (backOf (W := 1) (rm1 l Z a0 hw [] b19 (p1 &&& (2147483647 : Int32)) (p2 &&& (2147483647 : Int32)) h19 n0 Z1 (own_m p1) (own_m p2) A19 F_thread_b19 F_instruction_b19 gb1) hZ (hw _ (List.mem_of_getElem? (i := 6) rfl)) (hw _ (List.mem_of_getElem? (i := 3) rfl)) (by decide) (by decide)) (g := (mkF m 56 #[.val (.int p1), .val (.int p2), .val (.int p3), .val (.int p4), .val (.int p5), .val (.int (p1 &&& (2147483647 : Int32))), .val (.int (p2 &&& (2147483647 : Int32))), .val (.int cc), .val (.int dd), .unset, .unset, .unset, .unset, .unset, .unset, .unset, .unset, .unset] [(.int (p2 &&& (2147483647 : Int32))), (.int (p1 &&& (2147483647 : Int32))), (.ref b19), (.ref b19)])) rfl (by rw [hml]; rfl) (Steps.refl _) (a := b19) (argsL := [(.int (p1 &&& (2147483647 : Int32))), (.int (p2 &&& (2147483647 : Int32)))]) (rest := [(.ref b19)]) (lenOf pd_0 rfl) rfl (by show 2 * 0 + _ ≤ _; exact Nat.le_of_eq rfl) (hb hby at_56) (fun _ _ => ⟨rfl, e19, (by decide : 1 + 0 ≤ _), (by decide : 2 + 0 ≤ _)⟩)
    dsimp only [Pt.U, Pt.locs, Pt.cells, Pt.slots] at X20 l20 y20 z20 st20 hQ20
    subst l20 y20 z20
    obtain ⟨rfl, N20q, K20, Ex20, Ft20, Fi20⟩ := hQ20
    have N20 := Fr.app N0 N20q
    refine Ends.st st20 ?_
    refine Ends.of (F' := T20.setTop (mkF m 61 #[.val (.int p1), .val (.int p2), .val (.int p3), .val (.int p4), .val (.int p5), .val (.int (p1 &&& (2147483647 : Int32))), .val (.int (p2 &&& (2147483647 : Int32))), .val (.int cc), .val (.int dd), .val (.ref b19), .unset, .unset, .unset, .unset, .unset, .unset, .unset, .unset] [])) (fun _ kt => ?_) ?_
    · show Steps p.tables e below (T20.setTop (mkF m 59 #[.val (.int p1), .val (.int p2), .val (.int p3), .val (.int p4), .val (.int p5), .val (.int (p1 &&& (2147483647 : Int32))), .val (.int (p2 &&& (2147483647 : Int32))), .val (.int cc), .val (.int dd), .unset, .unset, .unset, .unset, .unset, .unset, .unset, .unset, .unset] [(.ref b19)])) _
      refine XS.astore X20.here hx rfl (hb hby at_59) rfl rfl (l' := #[.val (.int p1), .val (.int p2), .val (.int p3), .val (.int p4), .val (.int p5), .val (.int (p1 &&& (2147483647 : Int32))), .val (.int (p2 &&& (2147483647 : Int32))), .val (.int cc), .val (.int dd), .val (.ref b19), .unset, .unset, .unset, .unset, .unset, .unset, .unset, .unset]) rfl ?_
      exact kt
    obtain ⟨T21, h21, X21, e21, E21, A21, D21, -, st21⟩ := newO X20 hx hZ hown (hw _ (List.mem_of_getElem? (i := 1) rfl)) (hw _ (List.mem_of_getElem? (i := 2) rfl)) (hw _ (List.mem_of_getElem? (i := 3) rfl)) rfl (g := (mkF m 61 #[.val (.int p1), .val (.int p2), .val (.int p3), .val (.int p4), .val (.int p5), .val (.int (p1 &&& (2147483647 : Int32))), .val (.int (p2 &&& (2147483647 : Int32))), .val (.int cc), .val (.int dd), .val (.ref b19), .unset, .unset, .unset, .unset, .unset, .unset, .unset, .unset] [])) rfl (hb hby at_61) (by decide) (by decide)
    obtain ⟨b21, g21⟩ : ∃ z, z = T20.heap.size := ⟨_, rfl⟩
    rw [← g21] at A21 D21 st21
    have F_thread_b21 : Fld Z h21 b21 "com/example/fence_finder/fencefinder/model/FencePlace" "thread" "I" (.int (0 : Int32)) := D21 (Or.inr (hw _ (List.mem_of_getElem? (i := 16) rfl))) (ty := .int) (by decide)
    have F_instruction_b21 : Fld Z h21 b21 "com/example/fence_finder/fencefinder/model/FencePlace" "instruction" "I" (.int (0 : Int32)) := D21 (Or.inr (hw _ (List.mem_of_getElem? (i := 18) rfl))) (ty := .int) (by decide)
    refine Ends.of st21 ?_
    have Z2 : n0 ≤ h21.size := Nat.le_trans (Nat.le_trans Z1 K20.1) E21.1
    have gb2 : n0 ≤ b21 := Nat.le_trans (Nat.le_trans Z1 K20.1) (Nat.le_of_eq g21.symm)
    refine Ends.of (F' := T21.setTop (mkF m 69 #[.val (.int p1), .val (.int p2), .val (.int p3), .val (.int p4), .val (.int p5), .val (.int (p1 &&& (2147483647 : Int32))), .val (.int (p2 &&& (2147483647 : Int32))), .val (.int cc), .val (.int dd), .val (.ref b19), .unset, .unset, .unset, .unset, .unset, .unset, .unset, .unset] [(.int dd), (.int cc), (.ref b21), (.ref b21)])) (fun _ kt => ?_) ?_
    · show Steps p.tables e below (T21.setTop (mkF m 64 #[.val (.int p1), .val (.int p2), .val (.int p3), .val (.int p4), .val (.int p5), .val (.int (p1 &&& (2147483647 : Int32))), .val (.int (p2 &&& (2147483647 : Int32))), .val (.int cc), .val (.int dd), .val (.ref b19), .unset, .unset, .unset, .unset, .unset, .unset, .unset, .unset] [(.ref b21)])) _
      refine XS.dup X21.here hx rfl (hb hby at_64) rfl rfl ?_
      show Steps p.tables e below (T21.setTop (mkF m 65 #[.val (.int p1), .val (.int p2), .val (.int p3), .val (.int p4), .val (.int p5), .val (.int (p1 &&& (2147483647 : Int32))), .val (.int (p2 &&& (2147483647 : Int32))), .val (.int cc), .val (.int dd), .val (.ref b19), .unset, .unset, .unset, .unset, .unset, .unset, .unset, .unset] [(.ref b21), (.ref b21)])) _
      refine XS.iload X21.here hx rfl (hb hby at_65) rfl ?_
      show Steps p.tables e below (T21.setTop (mkF m 67 #[.val (.int p1), .val (.int p2), .val (.int p3), .val (.int p4), .val (.int p5), .val (.int (p1 &&& (2147483647 : Int32))), .val (.int (p2 &&& (2147483647 : Int32))), .val (.int cc), .val (.int dd), .val (.ref b19), .unset, .unset, .unset, .unset, .unset, .unset, .unset, .unset] [(.int cc), (.ref b21), (.ref b21)])) _
      refine XS.iload X21.here hx rfl (hb hby at_67) rfl ?_
      exact kt
    obtain ⟨_, _, ⟨T22, L22, k22, n22⟩, -, X22, ⟨Lc22, hQ22, l22, y22, z22⟩, st22⟩ := X21.specialBack hx (y := (⟨"com/example/fence_finder/fencefinder/model/FencePlace", "<init>", "(II)V"⟩ : MethodName)) rfl hown (mvT hZ (hw _ (List.mem_of_getElem? (i := 4) rfl))) (mvT hZ (hw _ (List.mem_of_getElem? (i := 5) rfl))) (mvT hZ (hw _ (List.mem_of_getElem? (i := 6) rfl))) (by decide) (backOf (W := 1) (rm1 l Z a0 hw [] b21 cc dd h21 n0 Z2 hcc hdd A21 F_thread_b21 F_instruction_b21 gb2) hZ (hw _ (List.mem_of_getElem? (i := 6) rfl)) (hw _ (List.mem_of_getElem? (i := 3) rfl)) (by decide) (by decide)) (g := (mkF m 69 #[.val (.int p1), .val (.int p2), .val (.int p3), .val (.int p4), .val (.int p5), .val (.int (p1 &&& (2147483647 : Int32))), .val (.int (p2 &&& (2147483647 : Int32))), .val (.int cc), .val (.int dd), .val (.ref b19), .unset, .unset, .unset, .unset, .unset, .unset, .unset, .unset] [(.int dd), (.int cc), (.ref b21), (.ref b21)])) rfl (by rw [hml]; rfl) (Steps.refl _) (a := b21) (argsL := [(.int cc), (.int dd)]) (rest := [(.ref b21)]) (lenOf pd_0 rfl) rfl (by show 2 * 0 + _ ≤ _; exact Nat.le_of_eq rfl) (hb hby at_69) (fun _ _ => ⟨rfl, e21, (by decide : 2 + 0 ≤ _), (by decide : 4 + 0 ≤ _)⟩)
    dsimp only [Pt.U, Pt.locs, Pt.cells, Pt.slots] at X22 l22 y22 z22 st22 hQ22
    subst l22 y22 z22
    obtain ⟨rfl, N22q, K22, Ex22, Ft22, Fi22⟩ := hQ22
    have N22 := Fr.app N20 N22q
    refine Ends.st st22 ?_
    have ne12 : b19 ∉ [b21] := ninS (Nat.ne_of_lt (Nat.lt_of_lt_of_le Ft20.lt (Nat.le_of_eq g21.symm))) nin0
    have Ft1 := (Ft20.ext E21).keep K22 ne12
    have Fi1 := (Fi20.ext E21).keep K22 ne12
    have Ex1 := (Ex20.ext E21).keep K22
    have Z3 : n0 ≤ T22.heap.size := Nat.le_trans Z2 K22.1
    have K03 : Keep h0 T22.heap [] := ((((Keep.refl h0 []).ext E19).trans K20 (allS (Or.inr (Nat.le_of_eq g19.symm)) all0)).ext E21).trans K22 (allS (Or.inr (Nat.le_trans (Nat.le_trans E19.1 K20.1) (Nat.le_of_eq g21.symm))) all0)
    have S_h3 : Sta Z T22.heap "java/lang/Integer$IntegerCache" "high" "I" (.int (127 : Int32)) := own_sta S_h K03
    have S_c3 : Sta Z T22.heap "java/lang/Integer$IntegerCache" "cache" "[Ljava/lang/Integer;" (.ref ca) := own_sta S_c K03
    have A_c3 : Arr Z T22.heap ca cl (.object "java/lang/Integer") := ⟨K03.2.1 ca cl A_c.1 nin0, A_c.2⟩
    have els3 : ∀ j, j < 256 → ∃ r, cl.slots[j]? = some (.ref r) ∧ Exa Z T22.heap r "java/lang/Integer" := fun j hj => by obtain ⟨r, q1, q2⟩ := els j hj; exact ⟨r, q1, q2.keep K03⟩
    refine Ends.of (F' := T22.setTop (mkF m 76 #[.val (.int p1), .val (.int p2), .val (.int p3), .val (.int p4), .val (.int p5), .val (.int (p1 &&& (2147483647 : Int32))), .val (.int (p2 &&& (2147483647 : Int32))), .val (.int cc), .val (.int dd), .val (.ref b19), .val (.ref b21), .unset, .unset, .unset, .unset, .unset, .unset, .unset] [(.int (p1 &&& (2147483647 : Int32)))])) (fun _ kt => ?_) ?_
    · show Steps p.tables e below (T22.setTop (mkF m 72 #[.val (.int p1), .val (.int p2), .val (.int p3), .val (.int p4), .val (.int p5), .val (.int (p1 &&& (2147483647 : Int32))), .val (.int (p2 &&& (2147483647 : Int32))), .val (.int cc), .val (.int dd), .val (.ref b19), .unset, .unset, .unset, .unset, .unset, .unset, .unset, .unset] [(.ref b21)])) _
      refine XS.astore X22.here hx rfl (hb hby at_72) rfl rfl (l' := #[.val (.int p1), .val (.int p2), .val (.int p3), .val (.int p4), .val (.int p5), .val (.int (p1 &&& (2147483647 : Int32))), .val (.int (p2 &&& (2147483647 : Int32))), .val (.int cc), .val (.int dd), .val (.ref b19), .val (.ref b21), .unset, .unset, .unset, .unset, .unset, .unset, .unset]) rfl ?_
      show Steps p.tables e below (T22.setTop (mkF m 74 #[.val (.int p1), .val (.int p2), .val (.int p3), .val (.int p4), .val (.int p5), .val (.int (p1 &&& (2147483647 : Int32))), .val (.int (p2 &&& (2147483647 : Int32))), .val (.int cc), .val (.int dd), .val (.ref b19), .val (.ref b21), .unset, .unset, .unset, .unset, .unset, .unset, .unset] [])) _
      refine XS.iload X22.here hx rfl (hb hby at_74) rfl ?_
      exact kt
    obtain ⟨_, _, ⟨T23, L23, k23, n23⟩, -, X23, ⟨Lc23, hQ23, l23, y23, z23⟩, st23⟩ := Jvm.LawKit.callS X22 hx (y := (⟨"java/lang/Integer", "valueOf", "(I)Ljava/lang/Integer;"⟩ : MethodName)) hown (mvT hZ (hw _ (List.mem_of_getElem? (i := 19) rfl))) (mvT hZ (hw _ (List.mem_of_getElem? (i := 20) rfl))) (mvT hZ (hw _ (List.mem_of_getElem? (i := 21) rfl))) (mvT hZ (hw _ (List.mem_of_getElem? (i := 22) rfl))) (by decide) (backOf (W := 0) (rm4 l Z a0 hw [] (p1 &&& (2147483647 : Int32)) ca cl T22.heap n0 Z3 (own_m p1) S_h3 S_c3 A_c3 z_c els3) hZ (hw _ (List.mem_of_getElem? (i := 22) rfl)) (hw _ (List.mem_of_getElem? (i := 21) rfl)) (by decide) (by decide)) (g := (mkF m 76 #[.val (.int p1), .val (.int p2), .val (.int p3), .val (.int p4), .val (.int p5), .val (.int (p1 &&& (2147483647 : Int32))), .val (.int (p2 &&& (2147483647 : Int32))), .val (.int cc), .val (.int dd), .val (.ref b19), .val (.ref b21), .unset, .unset, .unset, .unset, .unset, .unset, .unset] [(.int (p1 &&& (2147483647 : Int32)))])) rfl (by rw [hml]; rfl) (argsL := [(.int (p1 &&& (2147483647 : Int32)))]) (rest := []) (lenOf pd_2 rfl) rfl (by show 2 * 0 + _ ≤ _; exact Nat.le_of_eq rfl) (hb hby at_76) (fun _ _ => ⟨rfl, rfl, (by decide : 2 + 1 ≤ _), (by decide : 4 + 1 ≤ _)⟩)
    dsimp only [Pt.U, Pt.locs, Pt.cells, Pt.slots] at X23 l23 y23 z23 st23 hQ23
    subst l23 y23 z23
    obtain ⟨r23, rfl, N23q, K23, Er23⟩ := hQ23
    have N23 := Fr.app N22 N23q
    refine Ends.of st23 ?_
    have Z4 : n0 ≤ T23.heap.size := Nat.le_trans Z3 K23.1
    have Ft1a := Ft1.keep K23 nin0
    have Ft2a := Ft22.keep K23 nin0
    have Fi1a := Fi1.keep K23 nin0
    have Fi2a := Fi22.keep K23 nin0
    have Ex1a := Ex1.keep K23
    have Ex2a := Ex22.keep K23
    refine Ends.of (F' := T23.setTop (mkF m 85 #[.val (.int p1), .val (.int p2), .val (.int p3), .val (.int p4), .val (.int p5), .val (.int (p1 &&& (2147483647 : Int32))), .val (.int (p2 &&& (2147483647 : Int32))), .val (.int cc), .val (.int dd), .val (.ref b19), .val (.ref b21), .val (.ref r23), .unset, .unset, .unset, .unset, .unset, .unset] [(.int cc), (.int (p1 &&& (2147483647 : Int32)))])) (fun _ kt => ?_) ?_
    · show Steps p.tables e below (T23.setTop (mkF m 79 #[.val (.int p1), .val (.int p2), .val (.int p3), .val (.int p4), .val (.int p5), .val (.int (p1 &&& (2147483647 : Int32))), .val (.int (p2 &&& (2147483647 : Int32))), .val (.int cc), .val (.int dd), .val (.ref b19), .val (.ref b21), .unset, .unset, .unset, .unset, .unset, .unset, .unset] [(.ref r23)])) _
      refine XS.astore X23.here hx rfl (hb hby at_79) rfl rfl (l' := #[.val (.int p1), .val (.int p2), .val (.int p3), .val (.int p4), .val (.int p5), .val (.int (p1 &&& (2147483647 : Int32))), .val (.int (p2 &&& (2147483647 : Int32))), .val (.int cc), .val (.int dd), .val (.ref b19), .val (.ref b21), .val (.ref r23), .unset, .unset, .unset, .unset, .unset, .unset]) rfl ?_
      show Steps p.tables e below (T23.setTop (mkF m 81 #[.val (.int p1), .val (.int p2), .val (.int p3), .val (.int p4), .val (.int p5), .val (.int (p1 &&& (2147483647 : Int32))), .val (.int (p2 &&& (2147483647 : Int32))), .val (.int cc), .val (.int dd), .val (.ref b19), .val (.ref b21), .val (.ref r23), .unset, .unset, .unset, .unset, .unset, .unset] [])) _
      refine XS.iload X23.here hx rfl (hb hby at_81) rfl ?_
      show Steps p.tables e below (T23.setTop (mkF m 83 #[.val (.int p1), .val (.int p2), .val (.int p3), .val (.int p4), .val (.int p5), .val (.int (p1 &&& (2147483647 : Int32))), .val (.int (p2 &&& (2147483647 : Int32))), .val (.int cc), .val (.int dd), .val (.ref b19), .val (.ref b21), .val (.ref r23), .unset, .unset, .unset, .unset, .unset, .unset] [(.int (p1 &&& (2147483647 : Int32)))])) _
      refine XS.iload X23.here hx rfl (hb hby at_83) rfl ?_
      exact kt
    by_cases hac : (p1 &&& (2147483647 : Int32)) = cc
    · refine Ends.of (F' := T23.setTop (mkF m 92 #[.val (.int p1), .val (.int p2), .val (.int p3), .val (.int p4), .val (.int p5), .val (.int (p1 &&& (2147483647 : Int32))), .val (.int (p2 &&& (2147483647 : Int32))), .val (.int cc), .val (.int dd), .val (.ref b19), .val (.ref b21), .val (.ref r23), .unset, .unset, .unset, .unset, .unset, .unset] [(.int dd), (.int (p2 &&& (2147483647 : Int32)))])) (fun _ kt => ?_) ?_
      · show Steps p.tables e below (T23.setTop (mkF m 85 #[.val (.int p1), .val (.int p2), .val (.int p3), .val (.int p4), .val (.int p5), .val (.int (p1 &&& (2147483647 : Int32))), .val (.int (p2 &&& (2147483647 : Int32))), .val (.int cc), .val (.int dd), .val (.ref b19), .val (.ref b21), .val (.ref r23), .unset, .unset, .unset, .unset, .unset, .unset] [(.int cc), (.int (p1 &&& (2147483647 : Int32)))])) _
        refine XS.icmpNo X23.here hx rfl (hb hby at_85) rfl (teq hac).2 ?_
        show Steps p.tables e below (T23.setTop (mkF m 88 #[.val (.int p1), .val (.int p2), .val (.int p3), .val (.int p4), .val (.int p5), .val (.int (p1 &&& (2147483647 : Int32))), .val (.int (p2 &&& (2147483647 : Int32))), .val (.int cc), .val (.int dd), .val (.ref b19), .val (.ref b21), .val (.ref r23), .unset, .unset, .unset, .unset, .unset, .unset] [])) _
        refine XS.iload X23.here hx rfl (hb hby at_88) rfl ?_
        show Steps p.tables e below (T23.setTop (mkF m 90 #[.val (.int p1), .val (.int p2), .val (.int p3), .val (.int p4), .val (.int p5), .val (.int (p1 &&& (2147483647 : Int32))), .val (.int (p2 &&& (2147483647 : Int32))), .val (.int cc), .val (.int dd), .val (.ref b19), .val (.ref b21), .val (.ref r23), .unset, .unset, .unset, .unset, .unset, .unset] [(.int (p2 &&& (2147483647 : Int32)))])) _
        refine XS.iload X23.here hx rfl (hb hby at_90) rfl ?_
        exact kt
      by_cases hbd : (p2 &&& (2147483647 : Int32)) = dd
      · refine Ends.of (F' := T23.setTop (mkF m 106 #[.val (.int p1), .val (.int p2), .val (.int p3), .val (.int p4), .val (.int p5), .val (.int (p1 &&& (2147483647 : Int32))), .val (.int (p2 &&& (2147483647 : Int32))), .val (.int cc), .val (.int dd), .val (.ref b19), .val (.ref b21), .val (.ref r23), .val (.int (1 : Int32)), .unset, .unset, .unset, .unset, .unset] [(.ref b21), (.ref b19)])) (fun _ kt => ?_) ?_
        · show Steps p.tables e below (T23.setTop (mkF m 92 #[.val (.int p1), .val (.int p2), .val (.int p3), .val (.int p4), .val (.int p5), .val (.int (p1 &&& (2147483647 : Int32))), .val (.int (p2 &&& (2147483647 : Int32))), .val (.int cc), .val (.int dd), .val (.ref b19), .val (.ref b21), .val (.ref r23), .unset, .unset, .unset, .unset, .unset, .unset] [(.int dd), (.int (p2 &&& (2147483647 : Int32)))])) _
          refine XS.icmpNo X23.here hx rfl (hb hby at_92) rfl (teq hbd).2 ?_
          show Steps p.tables e below (T23.setTop (mkF m 95 #[.val (.int p1), .val (.int p2), .val (.int p3), .val (.int p4), .val (.int p5), .val (.int (p1 &&& (2147483647 : Int32))), .val (.int (p2 &&& (2147483647 : Int32))), .val (.int cc), .val (.int dd), .val (.ref b19), .val (.ref b21), .val (.ref r23), .unset, .unset, .unset, .unset, .unset, .unset] [])) _
          refine XS.iconst X23.here hx rfl (hb hby at_95) ?_
          show Steps p.tables e below (T23.setTop (mkF m 96 #[.val (.int p1), .val (.int p2), .val (.int p3), .val (.int p4), .val (.int p5), .val (.int (p1 &&& (2147483647 : Int32))), .val (.int (p2 &&& (2147483647 : Int32))), .val (.int cc), .val (.int dd), .val (.ref b19), .val (.ref b21), .val (.ref r23), .unset, .unset, .unset, .unset, .unset, .unset] [(.int (1 : Int32))])) _
          refine XS.goto X23.here hx rfl (pc0 := 96) (pc' := 100) rfl (hb hby at_96) (by decide) (by decide) ?_
          show Steps p.tables e below (T23.setTop (mkF m 100 #[.val (.int p1), .val (.int p2), .val (.int p3), .val (.int p4), .val (.int p5), .val (.int (p1 &&& (2147483647 : Int32))), .val (.int (p2 &&& (2147483647 : Int32))), .val (.int cc), .val (.int dd), .val (.ref b19), .val (.ref b21), .val (.ref r23), .unset, .unset, .unset, .unset, .unset, .unset] [(.int (1 : Int32))])) _
          refine XS.istore X23.here hx rfl (hb hby at_100) rfl (l' := #[.val (.int p1), .val (.int p2), .val (.int p3), .val (.int p4), .val (.int p5), .val (.int (p1 &&& (2147483647 : Int32))), .val (.int (p2 &&& (2147483647 : Int32))), .val (.int cc), .val (.int dd), .val (.ref b19), .val (.ref b21), .val (.ref r23), .val (.int (1 : Int32)), .unset, .unset, .unset, .unset, .unset]) rfl ?_
          show Steps p.tables e below (T23.setTop (mkF m 102 #[.val (.int p1), .val (.int p2), .val (.int p3), .val (.int p4), .val (.int p5), .val (.int (p1 &&& (2147483647 : Int32))), .val (.int (p2 &&& (2147483647 : Int32))), .val (.int cc), .val (.int dd), .val (.ref b19), .val (.ref b21), .val (.ref r23), .val (.int (1 : Int32)), .unset, .unset, .unset, .unset, .unset] [])) _
          refine XS.aload X23.here hx rfl (hb hby at_102) rfl rfl ?_
          show Steps p.tables e below (T23.setTop (mkF m 104 #[.val (.int p1), .val (.int p2), .val (.int p3), .val (.int p4), .val (.int p5), .val (.int (p1 &&& (2147483647 : Int32))), .val (.int (p2 &&& (2147483647 : Int32))), .val (.int cc), .val (.int dd), .val (.ref b19), .val (.ref b21), .val (.ref r23), .val (.int (1 : Int32)), .unset, .unset, .unset, .unset, .unset] [(.ref b19)])) _
          refine XS.aload X23.here hx rfl (hb hby at_104) rfl rfl ?_
          exact kt
        obtain ⟨cq29, kq29, q29a, q29b, q29c⟩ := isOf hZ rfl Ex1a
        obtain ⟨_, _, ⟨T29, L29, k29, n29⟩, -, X29, ⟨Lc29, hQ29, l29, y29, z29⟩, st29⟩ := X23.virtualBack hx (y := (⟨"com/example/fence_finder/fencefinder/model/FencePlace", "equals", "(Ljava/lang/Object;)Z"⟩ : MethodName)) (z := (⟨"com/example/fence_finder/fencefinder/model/FencePlace", "equals", "(Ljava/lang/Object;)Z"⟩ : MethodName)) hown (mvT hZ (hw _ (List.mem_of_getElem? (i := 26) rfl))) (mvT hZ (hw _ (List.mem_of_getElem? (i := 27) rfl))) (notFace_of_selects (args := #[]) (mvT hZ (hw _ (List.mem_of_getElem? (i := 29) rfl)))) (mvT hZ (hw _ (List.mem_of_getElem? (i := 29) rfl))) (mvT hZ (hw _ (List.mem_of_getElem? (i := 28) rfl))) (by decide) (backOf (W := 0) (eqA l Z a0 hw [] b19 b21 (p1 &&& (2147483647 : Int32)) (p2 &&& (2147483647 : Int32)) cc dd T23.heap n0 Z4 Ex2a Ft1a Fi1a Ft2a Fi2a) hZ (hw _ (List.mem_of_getElem? (i := 30) rfl)) (hw _ (List.mem_of_getElem? (i := 3) rfl)) (by decide) (by decide)) q29a q29c (g := (mkF m 106 #[.val (.int p1), .val (.int p2), .val (.int p3), .val (.int p4), .val (.int p5), .val (.int (p1 &&& (2147483647 : Int32))), .val (.int (p2 &&& (2147483647 : Int32))), .val (.int cc), .val (.int dd), .val (.ref b19), .val (.ref b21), .val (.ref r23), .val (.int (1 : Int32)), .unset, .unset, .unset, .unset, .unset] [(.ref b21), (.ref b19)])) rfl (by rw [hml]; rfl) (Steps.refl _) (argsL := [(.ref b21)]) (rest := []) (lenOf pd_3 rfl) rfl (by show 2 * 0 + _ ≤ _; exact Nat.le_of_eq rfl) (hb hby at_106) (fun _ _ => ⟨rfl, rfl, (by decide : 3 + 0 ≤ _), (by decide : 5 + 0 ≤ _)⟩)
        dsimp only [Pt.U, Pt.locs, Pt.cells, Pt.slots] at X29 l29 y29 z29 st29 hQ29
        subst l29 y29 z29
        obtain ⟨rfl, N29q, e29⟩ := hQ29
        have N29 := Fr.app N23 N29q
        refine Ends.st st29 ?_
        refine Ends.of (F' := T29.setTop (mkF m 115 #[.val (.int p1), .val (.int p2), .val (.int p3), .val (.int p4), .val (.int p5), .val (.int (p1 &&& (2147483647 : Int32))), .val (.int (p2 &&& (2147483647 : Int32))), .val (.int cc), .val (.int dd), .val (.ref b19), .val (.ref b21), .val (.ref r23), .val (.int (1 : Int32)), .val (.int (if (cc = (p1 &&& (2147483647 : Int32)) ∧ dd = (p2 &&& (2147483647 : Int32))) then (1 : Int32) else (0 : Int32))), .unset, .unset, .unset, .unset] [(.ref b19), (.ref b21)])) (fun _ kt => ?_) ?_
        · show Steps p.tables e below (T29.setTop (mkF m 109 #[.val (.int p1), .val (.int p2), .val (.int p3), .val (.int p4), .val (.int p5), .val (.int (p1 &&& (2147483647 : Int32))), .val (.int (p2 &&& (2147483647 : Int32))), .val (.int cc), .val (.int dd), .val (.ref b19), .val (.ref b21), .val (.ref r23), .val (.int (1 : Int32)), .unset, .unset, .unset, .unset, .unset] [(.int (if (cc = (p1 &&& (2147483647 : Int32)) ∧ dd = (p2 &&& (2147483647 : Int32))) then (1 : Int32) else (0 : Int32)))])) _
          refine XS.istore X29.here hx rfl (hb hby at_109) rfl (l' := #[.val (.int p1), .val (.int p2), .val (.int p3), .val (.int p4), .val (.int p5), .val (.int (p1 &&& (2147483647 : Int32))), .val (.int (p2 &&& (2147483647 : Int32))), .val (.int cc), .val (.int dd), .val (.ref b19), .val (.ref b21), .val (.ref r23), .val (.int (1 : Int32)), .val (.int (if (cc = (p1 &&& (2147483647 : Int32)) ∧ dd = (p2 &&& (2147483647 : Int32))) then (1 : Int32) else (0 : Int32))), .unset, .unset, .unset, .unset]) rfl ?_
          show Steps p.tables e below (T29.setTop (mkF m 111 #[.val (.int p1), .val (.int p2), .val (.int p3), .val (.int p4), .val (.int p5), .val (.int (p1 &&& (2147483647 : Int32))), .val (.int (p2 &&& (2147483647 : Int32))), .val (.int cc), .val (.int dd), .val (.ref b19), .val (.ref b21), .val (.ref r23), .val (.int (1 : Int32)), .val (.int (if (cc = (p1 &&& (2147483647 : Int32)) ∧ dd = (p2 &&& (2147483647 : Int32))) then (1 : Int32) else (0 : Int32))), .unset, .unset, .unset, .unset] [])) _
          refine XS.aload X29.here hx rfl (hb hby at_111) rfl rfl ?_
          show Steps p.tables e below (T29.setTop (mkF m 113 #[.val (.int p1), .val (.int p2), .val (.int p3), .val (.int p4), .val (.int p5), .val (.int (p1 &&& (2147483647 : Int32))), .val (.int (p2 &&& (2147483647 : Int32))), .val (.int cc), .val (.int dd), .val (.ref b19), .val (.ref b21), .val (.ref r23), .val (.int (1 : Int32)), .val (.int (if (cc = (p1 &&& (2147483647 : Int32)) ∧ dd = (p2 &&& (2147483647 : Int32))) then (1 : Int32) else (0 : Int32))), .unset, .unset, .unset, .unset] [(.ref b21)])) _
          refine XS.aload X29.here hx rfl (hb hby at_113) rfl rfl ?_
          exact kt
        obtain ⟨cq30, kq30, q30a, q30b, q30c⟩ := isOf hZ e29 Ex2a
        obtain ⟨_, _, ⟨T30, L30, k30, n30⟩, -, X30, ⟨Lc30, hQ30, l30, y30, z30⟩, st30⟩ := X29.virtualBack hx (y := (⟨"com/example/fence_finder/fencefinder/model/FencePlace", "equals", "(Ljava/lang/Object;)Z"⟩ : MethodName)) (z := (⟨"com/example/fence_finder/fencefinder/model/FencePlace", "equals", "(Ljava/lang/Object;)Z"⟩ : MethodName)) hown (mvT hZ (hw _ (List.mem_of_getElem? (i := 26) rfl))) (mvT hZ (hw _ (List.mem_of_getElem? (i := 27) rfl))) (notFace_of_selects (args := #[]) (mvT hZ (hw _ (List.mem_of_getElem? (i := 29) rfl)))) (mvT hZ (hw _ (List.mem_of_getElem? (i := 29) rfl))) (mvT hZ (hw _ (List.mem_of_getElem? (i := 28) rfl))) (by decide) (backOf (W := 0) (eqA l Z a0 hw [] b21 b19 cc dd (p1 &&& (2147483647 : Int32)) (p2 &&& (2147483647 : Int32)) T23.heap n0 Z4 Ex1a Ft2a Fi2a Ft1a Fi1a) hZ (hw _ (List.mem_of_getElem? (i := 30) rfl)) (hw _ (List.mem_of_getElem? (i := 3) rfl)) (by decide) (by decide)) q30a q30c (g := (mkF m 115 #[.val (.int p1), .val (.int p2), .val (.int p3), .val (.int p4), .val (.int p5), .val (.int (p1 &&& (2147483647 : Int32))), .val (.int (p2 &&& (2147483647 : Int32))), .val (.int cc), .val (.int dd), .val (.ref b19), .val (.ref b21), .val (.ref r23), .val (.int (1 : Int32)), .val (.int (if (cc = (p1 &&& (2147483647 : Int32)) ∧ dd = (p2 &&& (2147483647 : Int32))) then (1 : Int32) else (0 : Int32))), .unset, .unset, .unset, .unset] [(.ref b19), (.ref b21)])) rfl (by rw [hml]; rfl) (Steps.refl _) (argsL := [(.ref b19)]) (rest := []) (lenOf pd_3 rfl) rfl (by show 2 * 0 + _ ≤ _; exact Nat.le_of_eq rfl) (hb hby at_115) (fun _ _ => ⟨rfl, e29, (by decide : 3 + 0 ≤ _), (by decide : 5 + 0 ≤ _)⟩)
        dsimp only [Pt.U, Pt.locs, Pt.cells, Pt.slots] at X30 l30 y30 z30 st30 hQ30
        subst l30 y30 z30
        obtain ⟨rfl, N30q, e30⟩ := hQ30
        have N30 := Fr.app N29 N30q
        refine Ends.st st30 ?_
        refine Ends.of (F' := T30.setTop (mkF m 124 #[.val (.int p1), .val (.int p2), .val (.int p3), .val (.int p4), .val (.int p5), .val (.int (p1 &&& (2147483647 : Int32))), .val (.int (p2 &&& (2147483647 : Int32))), .val (.int cc), .val (.int dd), .val (.ref b19), .val (.ref b21), .val (.ref r23), .val (.int (1 : Int32)), .val (.int (if (cc = (p1 &&& (2147483647 : Int32)) ∧ dd = (p2 &&& (2147483647 : Int32))) then (1 : Int32) else (0 : Int32))), .val (.int (if ((p1 &&& (2147483647 : Int32)) = cc ∧ (p2 &&& (2147483647 : Int32)) = dd) then (1 : Int32) else (0 : Int32))), .unset, .unset, .unset] [(.ref b19), (.ref b19)])) (fun _ kt => ?_) ?_
        · show Steps p.tables e below (T30.setTop (mkF m 118 #[.val (.int p1), .val (.int p2), .val (.int p3), .val (.int p4), .val (.int p5), .val (.int (p1 &&& (2147483647 : Int32))), .val (.int (p2 &&& (2147483647 : Int32))), .val (.int cc), .val (.int dd), .val (.ref b19), .val (.ref b21), .val (.ref r23), .val (.int (1 : Int32)), .val (.int (if (cc = (p1 &&& (2147483647 : Int32)) ∧ dd = (p2 &&& (2147483647 : Int32))) then (1 : Int32) else (0 : Int32))), .unset, .unset, .unset, .unset] [(.int (if ((p1 &&& (2147483647 : Int32)) = cc ∧ (p2 &&& (2147483647 : Int32)) = dd) then (1 : Int32) else (0 : Int32)))])) _
          refine XS.istore X30.here hx rfl (hb hby at_118) rfl (l' := #[.val (.int p1), .val (.int p2), .val (.int p3), .val (.int p4), .val (.int p5), .val (.int (p1 &&& (2147483647 : Int32))), .val (.int (p2 &&& (2147483647 : Int32))), .val (.int cc), .val (.int dd), .val (.ref b19), .val (.ref b21), .val (.ref r23), .val (.int (1 : Int32)), .val (.int (if (cc = (p1 &&& (2147483647 : Int32)) ∧ dd = (p2 &&& (2147483647 : Int32))) then (1 : Int32) else (0 : Int32))), .val (.int (if ((p1 &&& (2147483647 : Int32)) = cc ∧ (p2 &&& (2147483647 : Int32)) = dd) then (1 : Int32) else (0 : Int32))), .unset, .unset, .unset]) rfl ?_
          show Steps p.tables e below (T30.setTop (mkF m 120 #[.val (.int p1), .val (.int p2), .val (.int p3), .val (.int p4), .val (.int p5), .val (.int (p1 &&& (2147483647 : Int32))), .val (.int (p2 &&& (2147483647 : Int32))), .val (.int cc), .val (.int dd), .val (.ref b19), .val (.ref b21), .val (.ref r23), .val (.int (1 : Int32)), .val (.int (if (cc = (p1 &&& (2147483647 : Int32)) ∧ dd = (p2 &&& (2147483647 : Int32))) then (1 : Int32) else (0 : Int32))), .val (.int (if ((p1 &&& (2147483647 : Int32)) = cc ∧ (p2 &&& (2147483647 : Int32)) = dd) then (1 : Int32) else (0 : Int32))), .unset, .unset, .unset] [])) _
          refine XS.aload X30.here hx rfl (hb hby at_120) rfl rfl ?_
          show Steps p.tables e below (T30.setTop (mkF m 122 #[.val (.int p1), .val (.int p2), .val (.int p3), .val (.int p4), .val (.int p5), .val (.int (p1 &&& (2147483647 : Int32))), .val (.int (p2 &&& (2147483647 : Int32))), .val (.int cc), .val (.int dd), .val (.ref b19), .val (.ref b21), .val (.ref r23), .val (.int (1 : Int32)), .val (.int (if (cc = (p1 &&& (2147483647 : Int32)) ∧ dd = (p2 &&& (2147483647 : Int32))) then (1 : Int32) else (0 : Int32))), .val (.int (if ((p1 &&& (2147483647 : Int32)) = cc ∧ (p2 &&& (2147483647 : Int32)) = dd) then (1 : Int32) else (0 : Int32))), .unset, .unset, .unset] [(.ref b19)])) _
          refine XS.aload X30.here hx rfl (hb hby at_122) rfl rfl ?_
          exact kt
        obtain ⟨cq31, kq31, q31a, q31b, q31c⟩ := isOf hZ e30 Ex1a
        obtain ⟨_, _, ⟨T31, L31, k31, n31⟩, -, X31, ⟨Lc31, hQ31, l31, y31, z31⟩, st31⟩ := X30.virtualBack hx (y := (⟨"com/example/fence_finder/fencefinder/model/FencePlace", "equals", "(Ljava/lang/Object;)Z"⟩ : MethodName)) (z := (⟨"com/example/fence_finder/fencefinder/model/FencePlace", "equals", "(Ljava/lang/Object;)Z"⟩ : MethodName)) hown (mvT hZ (hw _ (List.mem_of_getElem? (i := 26) rfl))) (mvT hZ (hw _ (List.mem_of_getElem? (i := 27) rfl))) (notFace_of_selects (args := #[]) (mvT hZ (hw _ (List.mem_of_getElem? (i := 29) rfl)))) (mvT hZ (hw _ (List.mem_of_getElem? (i := 29) rfl))) (mvT hZ (hw _ (List.mem_of_getElem? (i := 28) rfl))) (by decide) (backOf (W := 0) (eqA l Z a0 hw [] b19 b19 (p1 &&& (2147483647 : Int32)) (p2 &&& (2147483647 : Int32)) (p1 &&& (2147483647 : Int32)) (p2 &&& (2147483647 : Int32)) T23.heap n0 Z4 Ex1a Ft1a Fi1a Ft1a Fi1a) hZ (hw _ (List.mem_of_getElem? (i := 30) rfl)) (hw _ (List.mem_of_getElem? (i := 3) rfl)) (by decide) (by decide)) q31a q31c (g := (mkF m 124 #[.val (.int p1), .val (.int p2), .val (.int p3), .val (.int p4), .val (.int p5), .val (.int (p1 &&& (2147483647 : Int32))), .val (.int (p2 &&& (2147483647 : Int32))), .val (.int cc), .val (.int dd), .val (.ref b19), .val (.ref b21), .val (.ref r23), .val (.int (1 : Int32)), .val (.int (if (cc = (p1 &&& (2147483647 : Int32)) ∧ dd = (p2 &&& (2147483647 : Int32))) then (1 : Int32) else (0 : Int32))), .val (.int (if ((p1 &&& (2147483647 : Int32)) = cc ∧ (p2 &&& (2147483647 : Int32)) = dd) then (1 : Int32) else (0 : Int32))), .unset, .unset, .unset] [(.ref b19), (.ref b19)])) rfl (by rw [hml]; rfl) (Steps.refl _) (argsL := [(.ref b19)]) (rest := []) (lenOf pd_3 rfl) rfl (by show 2 * 0 + _ ≤ _; exact Nat.le_of_eq rfl) (hb hby at_124) (fun _ _ => ⟨rfl, e30, (by decide : 3 + 0 ≤ _), (by decide : 5 + 0 ≤ _)⟩)
        dsimp only [Pt.U, Pt.locs, Pt.cells, Pt.slots] at X31 l31 y31 z31 st31 hQ31
        subst l31 y31 z31
        obtain ⟨rfl, N31q, e31⟩ := hQ31
        have N31 := Fr.app N30 N31q
        refine Ends.st st31 ?_
        refine Ends.of (F' := T31.setTop (mkF m 132 #[.val (.int p1), .val (.int p2), .val (.int p3), .val (.int p4), .val (.int p5), .val (.int (p1 &&& (2147483647 : Int32))), .val (.int (p2 &&& (2147483647 : Int32))), .val (.int cc), .val (.int dd), .val (.ref b19), .val (.ref b21), .val (.ref r23), .val (.int (1 : Int32)), .val (.int (if (cc = (p1 &&& (2147483647 : Int32)) ∧ dd = (p2 &&& (2147483647 : Int32))) then (1 : Int32) else (0 : Int32))), .val (.int (if ((p1 &&& (2147483647 : Int32)) = cc ∧ (p2 &&& (2147483647 : Int32)) = dd) then (1 : Int32) else (0 : Int32))), .val (.int (if ((p1 &&& (2147483647 : Int32)) = (p1 &&& (2147483647 : Int32)) ∧ (p2 &&& (2147483647 : Int32)) = (p2 &&& (2147483647 : Int32))) then (1 : Int32) else (0 : Int32))), .unset, .unset] [.null, (.ref b19)])) (fun _ kt => ?_) ?_
        · show Steps p.tables e below (T31.setTop (mkF m 127 #[.val (.int p1), .val (.int p2), .val (.int p3), .val (.int p4), .val (.int p5), .val (.int (p1 &&& (2147483647 : Int32))), .val (.int (p2 &&& (2147483647 : Int32))), .val (.int cc), .val (.int dd), .val (.ref b19), .val (.ref b21), .val (.ref r23), .val (.int (1 : Int32)), .val (.int (if (cc = (p1 &&& (2147483647 : Int32)) ∧ dd = (p2 &&& (2147483647 : Int32))) then (1 : Int32) else (0 : Int32))), .val (.int (if ((p1 &&& (2147483647 : Int32)) = cc ∧ (p2 &&& (2147483647 : Int32)) = dd) then (1 : Int32) else (0 : Int32))), .unset, .unset, .unset] [(.int (if ((p1 &&& (2147483647 : Int32)) = (p1 &&& (2147483647 : Int32)) ∧ (p2 &&& (2147483647 : Int32)) = (p2 &&& (2147483647 : Int32))) then (1 : Int32) else (0 : Int32)))])) _
          refine XS.istore X31.here hx rfl (hb hby at_127) rfl (l' := #[.val (.int p1), .val (.int p2), .val (.int p3), .val (.int p4), .val (.int p5), .val (.int (p1 &&& (2147483647 : Int32))), .val (.int (p2 &&& (2147483647 : Int32))), .val (.int cc), .val (.int dd), .val (.ref b19), .val (.ref b21), .val (.ref r23), .val (.int (1 : Int32)), .val (.int (if (cc = (p1 &&& (2147483647 : Int32)) ∧ dd = (p2 &&& (2147483647 : Int32))) then (1 : Int32) else (0 : Int32))), .val (.int (if ((p1 &&& (2147483647 : Int32)) = cc ∧ (p2 &&& (2147483647 : Int32)) = dd) then (1 : Int32) else (0 : Int32))), .val (.int (if ((p1 &&& (2147483647 : Int32)) = (p1 &&& (2147483647 : Int32)) ∧ (p2 &&& (2147483647 : Int32)) = (p2 &&& (2147483647 : Int32))) then (1 : Int32) else (0 : Int32))), .unset, .unset]) rfl ?_
          show Steps p.tables e below (T31.setTop (mkF m 129 #[.val (.int p1), .val (.int p2), .val (.int p3), .val (.int p4), .val (.int p5), .val (.int (p1 &&& (2147483647 : Int32))), .val (.int (p2 &&& (2147483647 : Int32))), .val (.int cc), .val (.int dd), .val (.ref b19), .val (.ref b21), .val (.ref r23), .val (.int (1 : Int32)), .val (.int (if (cc = (p1 &&& (2147483647 : Int32)) ∧ dd = (p2 &&& (2147483647 : Int32))) then (1 : Int32) else (0 : Int32))), .val (.int (if ((p1 &&& (2147483647 : Int32)) = cc ∧ (p2 &&& (2147483647 : Int32)) = dd) then (1 : Int32) else (0 : Int32))), .val (.int (if ((p1 &&& (2147483647 : Int32)) = (p1 &&& (2147483647 : Int32)) ∧ (p2 &&& (2147483647 : Int32)) = (p2 &&& (2147483647 : Int32))) then (1 : Int32) else (0 : Int32))), .unset, .unset] [])) _
          refine XS.aload X31.here hx rfl (hb hby at_129) rfl rfl ?_
          show Steps p.tables e below (T31.setTop (mkF m 131 #[.val (.int p1), .val (.int p2), .val (.int p3), .val (.int p4), .val (.int p5), .val (.int (p1 &&& (2147483647 : Int32))), .val (.int (p2 &&& (2147483647 : Int32))), .val (.int cc), .val (.int dd), .val (.ref b19), .val (.ref b21), .val (.ref r23), .val (.int (1 : Int32)), .val (.int (if (cc = (p1 &&& (2147483647 : Int32)) ∧ dd = (p2 &&& (2147483647 : Int32))) then (1 : Int32) else (0 : Int32))), .val (.int (if ((p1 &&& (2147483647 : Int32)) = cc ∧ (p2 &&& (2147483647 : Int32)) = dd) then (1 : Int32) else (0 : Int32))), .val (.int (if ((p1 &&& (2147483647 : Int32)) = (p1 &&& (2147483647 : Int32)) ∧ (p2 &&& (2147483647 : Int32)) = (p2 &&& (2147483647 : Int32))) then (1 : Int32) else (0 : Int32))), .unset, .unset] [(.ref b19)])) _
          refine XS.aconstNull X31.here hx rfl (hb hby at_131) ?_
          exact kt
        obtain ⟨cq32, kq32, q32a, q32b, q32c⟩ := isOf hZ e31 Ex1a
        obtain ⟨_, _, ⟨T32, L32, k32, n32⟩, -, X32, ⟨Lc32, hQ32, l32, y32, z32⟩, st32⟩ := X31.virtualBack hx (y := (⟨"com/example/fence_finder/fencefinder/model/FencePlace", "equals", "(Ljava/lang/Object;)Z"⟩ : MethodName)) (z := (⟨"com/example/fence_finder/fencefinder/model/FencePlace", "equals", "(Ljava/lang/Object;)Z"⟩ : MethodName)) hown (mvT hZ (hw _ (List.mem_of_getElem? (i := 26) rfl))) (mvT hZ (hw _ (List.mem_of_getElem? (i := 27) rfl))) (notFace_of_selects (args := #[]) (mvT hZ (hw _ (List.mem_of_getElem? (i := 29) rfl)))) (mvT hZ (hw _ (List.mem_of_getElem? (i := 29) rfl))) (mvT hZ (hw _ (List.mem_of_getElem? (i := 28) rfl))) (by decide) (backOf (W := 0) (eqN l Z a0 hw [] b19 T23.heap n0 Z4) hZ (hw _ (List.mem_of_getElem? (i := 30) rfl)) (hw _ (List.mem_of_getElem? (i := 3) rfl)) (by decide) (by decide)) q32a q32c (g := (mkF m 132 #[.val (.int p1), .val (.int p2), .val (.int p3), .val (.int p4), .val (.int p5), .val (.int (p1 &&& (2147483647 : Int32))), .val (.int (p2 &&& (2147483647 : Int32))), .val (.int cc), .val (.int dd), .val (.ref b19), .val (.ref b21), .val (.ref r23), .val (.int (1 : Int32)), .val (.int (if (cc = (p1 &&& (2147483647 : Int32)) ∧ dd = (p2 &&& (2147483647 : Int32))) then (1 : Int32) else (0 : Int32))), .val (.int (if ((p1 &&& (2147483647 : Int32)) = cc ∧ (p2 &&& (2147483647 : Int32)) = dd) then (1 : Int32) else (0 : Int32))), .val (.int (if ((p1 &&& (2147483647 : Int32)) = (p1 &&& (2147483647 : Int32)) ∧ (p2 &&& (2147483647 : Int32)) = (p2 &&& (2147483647 : Int32))) then (1 : Int32) else (0 : Int32))), .unset, .unset] [.null, (.ref b19)])) rfl (by rw [hml]; rfl) (Steps.refl _) (argsL := [.null]) (rest := []) (lenOf pd_3 rfl) rfl (by show 2 * 0 + _ ≤ _; exact Nat.le_of_eq rfl) (hb hby at_132) (fun _ _ => ⟨rfl, e31, (by decide : 3 + 0 ≤ _), (by decide : 5 + 0 ≤ _)⟩)
        dsimp only [Pt.U, Pt.locs, Pt.cells, Pt.slots] at X32 l32 y32 z32 st32 hQ32
        subst l32 y32 z32
        obtain ⟨rfl, N32q, e32⟩ := hQ32
        have N32 := Fr.app N31 N32q
        refine Ends.st st32 ?_
        refine Ends.of (F' := T32.setTop (mkF m 141 #[.val (.int p1), .val (.int p2), .val (.int p3), .val (.int p4), .val (.int p5), .val (.int (p1 &&& (2147483647 : Int32))), .val (.int (p2 &&& (2147483647 : Int32))), .val (.int cc), .val (.int dd), .val (.ref b19), .val (.ref b21), .val (.ref r23), .val (.int (1 : Int32)), .val (.int (if (cc = (p1 &&& (2147483647 : Int32)) ∧ dd = (p2 &&& (2147483647 : Int32))) then (1 : Int32) else (0 : Int32))), .val (.int (if ((p1 &&& (2147483647 : Int32)) = cc ∧ (p2 &&& (2147483647 : Int32)) = dd) then (1 : Int32) else (0 : Int32))), .val (.int (if ((p1 &&& (2147483647 : Int32)) = (p1 &&& (2147483647 : Int32)) ∧ (p2 &&& (2147483647 : Int32)) = (p2 &&& (2147483647 : Int32))) then (1 : Int32) else (0 : Int32))), .val (.int (0 : Int32)), .unset] [(.ref r23), (.ref b19)])) (fun _ kt => ?_) ?_
        · show Steps p.tables e below (T32.setTop (mkF m 135 #[.val (.int p1), .val (.int p2), .val (.int p3), .val (.int p4), .val (.int p5), .val (.int (p1 &&& (2147483647 : Int32))), .val (.int (p2 &&& (2147483647 : Int32))), .val (.int cc), .val (.int dd), .val (.ref b19), .val (.ref b21), .val (.ref r23), .val (.int (1 : Int32)), .val (.int (if (cc = (p1 &&& (2147483647 : Int32)) ∧ dd = (p2 &&& (2147483647 : Int32))) then (1 : Int32) else (0 : Int32))), .val (.int (if ((p1 &&& (2147483647 : Int32)) = cc ∧ (p2 &&& (2147483647 : Int32)) = dd) then (1 : Int32) else (0 : Int32))), .val (.int (if ((p1 &&& (2147483647 : Int32)) = (p1 &&& (2147483647 : Int32)) ∧ (p2 &&& (2147483647 : Int32)) = (p2 &&& (2147483647 : Int32))) then (1 : Int32) else (0 : Int32))), .unset, .unset] [(.int (0 : Int32))])) _
          refine XS.istore X32.here hx rfl (hb hby at_135) rfl (l' := #[.val (.int p1), .val (.int p2), .val (.int p3), .val (.int p4), .val (.int p5), .val (.int (p1 &&& (2147483647 : Int32))), .val (.int (p2 &&& (2147483647 : Int32))), .val (.int cc), .val (.int dd), .val (.ref b19), .val (.ref b21), .val (.ref r23), .val (.int (1 : Int32)), .val (.int (if (cc = (p1 &&& (2147483647 : Int32)) ∧ dd = (p2 &&& (2147483647 : Int32))) then (1 : Int32) else (0 : Int32))), .val (.int (if ((p1 &&& (2147483647 : Int32)) = cc ∧ (p2 &&& (2147483647 : Int32)) = dd) then (1 : Int32) else (0 : Int32))), .val (.int (if ((p1 &&& (2147483647 : Int32)) = (p1 &&& (2147483647 : Int32)) ∧ (p2 &&& (2147483647 : Int32)) = (p2 &&& (2147483647 : Int32))) then (1 : Int32) else (0 : Int32))), .val (.int (0 : Int32)), .unset]) rfl ?_
          show Steps p.tables e below (T32.setTop (mkF m 137 #[.val (.int p1), .val (.int p2), .val (.int p3), .val (.int p4), .val (.int p5), .val (.int (p1 &&& (2147483647 : Int32))), .val (.int (p2 &&& (2147483647 : Int32))), .val (.int cc), .val (.int dd), .val (.ref b19), .val (.ref b21), .val (.ref r23), .val (.int (1 : Int32)), .val (.int (if (cc = (p1 &&& (2147483647 : Int32)) ∧ dd = (p2 &&& (2147483647 : Int32))) then (1 : Int32) else (0 : Int32))), .val (.int (if ((p1 &&& (2147483647 : Int32)) = cc ∧ (p2 &&& (2147483647 : Int32)) = dd) then (1 : Int32) else (0 : Int32))), .val (.int (if ((p1 &&& (2147483647 : Int32)) = (p1 &&& (2147483647 : Int32)) ∧ (p2 &&& (2147483647 : Int32)) = (p2 &&& (2147483647 : Int32))) then (1 : Int32) else (0 : Int32))), .val (.int (0 : Int32)), .unset] [])) _
          refine XS.aload X32.here hx rfl (hb hby at_137) rfl rfl ?_
          show Steps p.tables e below (T32.setTop (mkF m 139 #[.val (.int p1), .val (.int p2), .val (.int p3), .val (.int p4), .val (.int p5), .val (.int (p1 &&& (2147483647 : Int32))), .val (.int (p2 &&& (2147483647 : Int32))), .val (.int cc), .val (.int dd), .val (.ref b19), .val (.ref b21), .val (.ref r23), .val (.int (1 : Int32)), .val (.int (if (cc = (p1 &&& (2147483647 : Int32)) ∧ dd = (p2 &&& (2147483647 : Int32))) then (1 : Int32) else (0 : Int32))), .val (.int (if ((p1 &&& (2147483647 : Int32)) = cc ∧ (p2 &&& (2147483647 : Int32)) = dd) then (1 : Int32) else (0 : Int32))), .val (.int (if ((p1 &&& (2147483647 : Int32)) = (p1 &&& (2147483647 : Int32)) ∧ (p2 &&& (2147483647 : Int32)) = (p2 &&& (2147483647 : Int32))) then (1 : Int32) else (0 : Int32))), .val (.int (0 : Int32)), .unset] [(.ref b19)])) _
          refine XS.aload X32.here hx rfl (hb hby at_139) rfl rfl ?_
          exact kt
        obtain ⟨cq33, kq33, q33a, q33b, q33c⟩ := isOf hZ e32 Ex1a
        obtain ⟨_, _, ⟨T33, L33, k33, n33⟩, -, X33, ⟨Lc33, hQ33, l33, y33, z33⟩, st33⟩ := X32.virtualBack hx (y := (⟨"com/example/fence_finder/fencefinder/model/FencePlace", "equals", "(Ljava/lang/Object;)Z"⟩ : MethodName)) (z := (⟨"com/example/fence_finder/fencefinder/model/FencePlace", "equals", "(Ljava/lang/Object;)Z"⟩ : MethodName)) hown (mvT hZ (hw _ (List.mem_of_getElem? (i := 26) rfl))) (mvT hZ (hw _ (List.mem_of_getElem? (i := 27) rfl))) (notFace_of_selects (args := #[]) (mvT hZ (hw _ (List.mem_of_getElem? (i := 29) rfl)))) (mvT hZ (hw _ (List.mem_of_getElem? (i := 29) rfl))) (mvT hZ (hw _ (List.mem_of_getElem? (i := 28) rfl))) (by decide) (backOf (W := 0) (eqO l Z a0 hw [] b19 r23 T23.heap n0 Z4 Er23) hZ (hw _ (List.mem_of_getElem? (i := 30) rfl)) (hw _ (List.mem_of_getElem? (i := 3) rfl)) (by decide) (by decide)) q33a q33c (g := (mkF m 141 #[.val (.int p1), .val (.int p2), .val (.int p3), .val (.int p4), .val (.int p5), .val (.int (p1 &&& (2147483647 : Int32))), .val (.int (p2 &&& (2147483647 : Int32))), .val (.int cc), .val (.int dd), .val (.ref b19), .val (.ref b21), .val (.ref r23), .val (.int (1 : Int32)), .val (.int (if (cc = (p1 &&& (2147483647 : Int32)) ∧ dd = (p2 &&& (2147483647 : Int32))) then (1 : Int32) else (0 : Int32))), .val (.int (if ((p1 &&& (2147483647 : Int32)) = cc ∧ (p2 &&& (2147483647 : Int32)) = dd) then (1 : Int32) else (0 : Int32))), .val (.int (if ((p1 &&& (2147483647 : Int32)) = (p1 &&& (2147483647 : Int32)) ∧ (p2 &&& (2147483647 : Int32)) = (p2 &&& (2147483647 : Int32))) then (1 : Int32) else (0 : Int32))), .val (.int (0 : Int32)), .unset] [(.ref r23), (.ref b19)])) rfl (by rw [hml]; rfl) (Steps.refl _) (argsL := [(.ref r23)]) (rest := []) (lenOf pd_3 rfl) rfl (by show 2 * 0 + _ ≤ _; exact Nat.le_of_eq rfl) (hb hby at_141) (fun _ _ => ⟨rfl, e32, (by decide : 3 + 0 ≤ _), (by decide : 5 + 0 ≤ _)⟩)
        dsimp only [Pt.U, Pt.locs, Pt.cells, Pt.slots] at X33 l33 y33 z33 st33 hQ33
        subst l33 y33 z33
        obtain ⟨rfl, N33q, e33⟩ := hQ33
        have N33 := Fr.app N32 N33q
        refine Ends.st st33 ?_
        refine Ends.of (F' := T33.setTop (mkF m 180 #[.val (.int p1), .val (.int p2), .val (.int p3), .val (.int p4), .val (.int p5), .val (.int (p1 &&& (2147483647 : Int32))), .val (.int (p2 &&& (2147483647 : Int32))), .val (.int cc), .val (.int dd), .val (.ref b19), .val (.ref b21), .val (.ref r23), .val (.int (1 : Int32)), .val (.int (if (cc = (p1 &&& (2147483647 : Int32)) ∧ dd = (p2 &&& (2147483647 : Int32))) then (1 : Int32) else (0 : Int32))), .val (.int (if ((p1 &&& (2147483647 : Int32)) = cc ∧ (p2 &&& (2147483647 : Int32)) = dd) then (1 : Int32) else (0 : Int32))), .val (.int (if ((p1 &&& (2147483647 : Int32)) = (p1 &&& (2147483647 : Int32)) ∧ (p2 &&& (2147483647 : Int32)) = (p2 &&& (2147483647 : Int32))) then (1 : Int32) else (0 : Int32))), .val (.int (0 : Int32)), .val (.int (0 : Int32))] [(.int (1 : Int32))])) (fun _ kt => ?_) ?_
        · show Steps p.tables e below (T33.setTop (mkF m 144 #[.val (.int p1), .val (.int p2), .val (.int p3), .val (.int p4), .val (.int p5), .val (.int (p1 &&& (2147483647 : Int32))), .val (.int (p2 &&& (2147483647 : Int32))), .val (.int cc), .val (.int dd), .val (.ref b19), .val (.ref b21), .val (.ref r23), .val (.int (1 : Int32)), .val (.int (if (cc = (p1 &&& (2147483647 : Int32)) ∧ dd = (p2 &&& (2147483647 : Int32))) then (1 : Int32) else (0 : Int32))), .val (.int (if ((p1 &&& (2147483647 : Int32)) = cc ∧ (p2 &&& (2147483647 : Int32)) = dd) then (1 : Int32) else (0 : Int32))), .val (.int (if ((p1 &&& (2147483647 : Int32)) = (p1 &&& (2147483647 : Int32)) ∧ (p2 &&& (2147483647 : Int32)) = (p2 &&& (2147483647 : Int32))) then (1 : Int32) else (0 : Int32))), .val (.int (0 : Int32)), .unset] [(.int (0 : Int32))])) _
          refine XS.istore X33.here hx rfl (hb hby at_144) rfl (l' := #[.val (.int p1), .val (.int p2), .val (.int p3), .val (.int p4), .val (.int p5), .val (.int (p1 &&& (2147483647 : Int32))), .val (.int (p2 &&& (2147483647 : Int32))), .val (.int cc), .val (.int dd), .val (.ref b19), .val (.ref b21), .val (.ref r23), .val (.int (1 : Int32)), .val (.int (if (cc = (p1 &&& (2147483647 : Int32)) ∧ dd = (p2 &&& (2147483647 : Int32))) then (1 : Int32) else (0 : Int32))), .val (.int (if ((p1 &&& (2147483647 : Int32)) = cc ∧ (p2 &&& (2147483647 : Int32)) = dd) then (1 : Int32) else (0 : Int32))), .val (.int (if ((p1 &&& (2147483647 : Int32)) = (p1 &&& (2147483647 : Int32)) ∧ (p2 &&& (2147483647 : Int32)) = (p2 &&& (2147483647 : Int32))) then (1 : Int32) else (0 : Int32))), .val (.int (0 : Int32)), .val (.int (0 : Int32))]) rfl ?_
          show Steps p.tables e below (T33.setTop (mkF m 146 #[.val (.int p1), .val (.int p2), .val (.int p3), .val (.int p4), .val (.int p5), .val (.int (p1 &&& (2147483647 : Int32))), .val (.int (p2 &&& (2147483647 : Int32))), .val (.int cc), .val (.int dd), .val (.ref b19), .val (.ref b21), .val (.ref r23), .val (.int (1 : Int32)), .val (.int (if (cc = (p1 &&& (2147483647 : Int32)) ∧ dd = (p2 &&& (2147483647 : Int32))) then (1 : Int32) else (0 : Int32))), .val (.int (if ((p1 &&& (2147483647 : Int32)) = cc ∧ (p2 &&& (2147483647 : Int32)) = dd) then (1 : Int32) else (0 : Int32))), .val (.int (if ((p1 &&& (2147483647 : Int32)) = (p1 &&& (2147483647 : Int32)) ∧ (p2 &&& (2147483647 : Int32)) = (p2 &&& (2147483647 : Int32))) then (1 : Int32) else (0 : Int32))), .val (.int (0 : Int32)), .val (.int (0 : Int32))] [])) _
          refine XS.iload X33.here hx rfl (hb hby at_146) rfl ?_
          show Steps p.tables e below (T33.setTop (mkF m 148 #[.val (.int p1), .val (.int p2), .val (.int p3), .val (.int p4), .val (.int p5), .val (.int (p1 &&& (2147483647 : Int32))), .val (.int (p2 &&& (2147483647 : Int32))), .val (.int cc), .val (.int dd), .val (.ref b19), .val (.ref b21), .val (.ref r23), .val (.int (1 : Int32)), .val (.int (if (cc = (p1 &&& (2147483647 : Int32)) ∧ dd = (p2 &&& (2147483647 : Int32))) then (1 : Int32) else (0 : Int32))), .val (.int (if ((p1 &&& (2147483647 : Int32)) = cc ∧ (p2 &&& (2147483647 : Int32)) = dd) then (1 : Int32) else (0 : Int32))), .val (.int (if ((p1 &&& (2147483647 : Int32)) = (p1 &&& (2147483647 : Int32)) ∧ (p2 &&& (2147483647 : Int32)) = (p2 &&& (2147483647 : Int32))) then (1 : Int32) else (0 : Int32))), .val (.int (0 : Int32)), .val (.int (0 : Int32))] [(.int (if (cc = (p1 &&& (2147483647 : Int32)) ∧ dd = (p2 &&& (2147483647 : Int32))) then (1 : Int32) else (0 : Int32)))])) _
          refine XS.iload X33.here hx rfl (hb hby at_148) rfl ?_
          show Steps p.tables e below (T33.setTop (mkF m 150 #[.val (.int p1), .val (.int p2), .val (.int p3), .val (.int p4), .val (.int p5), .val (.int (p1 &&& (2147483647 : Int32))), .val (.int (p2 &&& (2147483647 : Int32))), .val (.int cc), .val (.int dd), .val (.ref b19), .val (.ref b21), .val (.ref r23), .val (.int (1 : Int32)), .val (.int (if (cc = (p1 &&& (2147483647 : Int32)) ∧ dd = (p2 &&& (2147483647 : Int32))) then (1 : Int32) else (0 : Int32))), .val (.int (if ((p1 &&& (2147483647 : Int32)) = cc ∧ (p2 &&& (2147483647 : Int32)) = dd) then (1 : Int32) else (0 : Int32))), .val (.int (if ((p1 &&& (2147483647 : Int32)) = (p1 &&& (2147483647 : Int32)) ∧ (p2 &&& (2147483647 : Int32)) = (p2 &&& (2147483647 : Int32))) then (1 : Int32) else (0 : Int32))), .val (.int (0 : Int32)), .val (.int (0 : Int32))] [(.int (1 : Int32)), (.int (if (cc = (p1 &&& (2147483647 : Int32)) ∧ dd = (p2 &&& (2147483647 : Int32))) then (1 : Int32) else (0 : Int32)))])) _
          refine XS.icmpNo X33.here hx rfl (hb hby at_150) rfl (teq (if_pos ⟨hac.symm, hbd.symm⟩)).2 ?_
          show Steps p.tables e below (T33.setTop (mkF m 153 #[.val (.int p1), .val (.int p2), .val (.int p3), .val (.int p4), .val (.int p5), .val (.int (p1 &&& (2147483647 : Int32))), .val (.int (p2 &&& (2147483647 : Int32))), .val (.int cc), .val (.int dd), .val (.ref b19), .val (.ref b21), .val (.ref r23), .val (.int (1 : Int32)), .val (.int (if (cc = (p1 &&& (2147483647 : Int32)) ∧ dd = (p2 &&& (2147483647 : Int32))) then (1 : Int32) else (0 : Int32))), .val (.int (if ((p1 &&& (2147483647 : Int32)) = cc ∧ (p2 &&& (2147483647 : Int32)) = dd) then (1 : Int32) else (0 : Int32))), .val (.int (if ((p1 &&& (2147483647 : Int32)) = (p1 &&& (2147483647 : Int32)) ∧ (p2 &&& (2147483647 : Int32)) = (p2 &&& (2147483647 : Int32))) then (1 : Int32) else (0 : Int32))), .val (.int (0 : Int32)), .val (.int (0 : Int32))] [])) _
          refine XS.iload X33.here hx rfl (hb hby at_153) rfl ?_
          show Steps p.tables e below (T33.setTop (mkF m 155 #[.val (.int p1), .val (.int p2), .val (.int p3), .val (.int p4), .val (.int p5), .val (.int (p1 &&& (2147483647 : Int32))), .val (.int (p2 &&& (2147483647 : Int32))), .val (.int cc), .val (.int dd), .val (.ref b19), .val (.ref b21), .val (.ref r23), .val (.int (1 : Int32)), .val (.int (if (cc = (p1 &&& (2147483647 : Int32)) ∧ dd = (p2 &&& (2147483647 : Int32))) then (1 : Int32) else (0 : Int32))), .val (.int (if ((p1 &&& (2147483647 : Int32)) = cc ∧ (p2 &&& (2147483647 : Int32)) = dd) then (1 : Int32) else (0 : Int32))), .val (.int (if ((p1 &&& (2147483647 : Int32)) = (p1 &&& (2147483647 : Int32)) ∧ (p2 &&& (2147483647 : Int32)) = (p2 &&& (2147483647 : Int32))) then (1 : Int32) else (0 : Int32))), .val (.int (0 : Int32)), .val (.int (0 : Int32))] [(.int (if ((p1 &&& (2147483647 : Int32)) = cc ∧ (p2 &&& (2147483647 : Int32)) = dd) then (1 : Int32) else (0 : Int32)))])) _
          refine XS.iload X33.here hx rfl (hb hby at_155) rfl ?_
          show Steps p.tables e below (T33.setTop (mkF m 157 #[.val (.int p1), .val (.int p2), .val (.int p3), .val (.int p4), .val (.int p5), .val (.int (p1 &&& (2147483647 : Int32))), .val (.int (p2 &&& (2147483647 : Int32))), .val (.int cc), .val (.int dd), .val (.ref b19), .val (.ref b21), .val (.ref r23), .val (.int (1 : Int32)), .val (.int (if (cc = (p1 &&& (2147483647 : Int32)) ∧ dd = (p2 &&& (2147483647 : Int32))) then (1 : Int32) else (0 : Int32))), .val (.int (if ((p1 &&& (2147483647 : Int32)) = cc ∧ (p2 &&& (2147483647 : Int32)) = dd) then (1 : Int32) else (0 : Int32))), .val (.int (if ((p1 &&& (2147483647 : Int32)) = (p1 &&& (2147483647 : Int32)) ∧ (p2 &&& (2147483647 : Int32)) = (p2 &&& (2147483647 : Int32))) then (1 : Int32) else (0 : Int32))), .val (.int (0 : Int32)), .val (.int (0 : Int32))] [(.int (1 : Int32)), (.int (if ((p1 &&& (2147483647 : Int32)) = cc ∧ (p2 &&& (2147483647 : Int32)) = dd) then (1 : Int32) else (0 : Int32)))])) _
          refine XS.icmpNo X33.here hx rfl (hb hby at_157) rfl (teq (if_pos ⟨hac, hbd⟩)).2 ?_
          show Steps p.tables e below (T33.setTop (mkF m 160 #[.val (.int p1), .val (.int p2), .val (.int p3), .val (.int p4), .val (.int p5), .val (.int (p1 &&& (2147483647 : Int32))), .val (.int (p2 &&& (2147483647 : Int32))), .val (.int cc), .val (.int dd), .val (.ref b19), .val (.ref b21), .val (.ref r23), .val (.int (1 : Int32)), .val (.int (if (cc = (p1 &&& (2147483647 : Int32)) ∧ dd = (p2 &&& (2147483647 : Int32))) then (1 : Int32) else (0 : Int32))), .val (.int (if ((p1 &&& (2147483647 : Int32)) = cc ∧ (p2 &&& (2147483647 : Int32)) = dd) then (1 : Int32) else (0 : Int32))), .val (.int (if ((p1 &&& (2147483647 : Int32)) = (p1 &&& (2147483647 : Int32)) ∧ (p2 &&& (2147483647 : Int32)) = (p2 &&& (2147483647 : Int32))) then (1 : Int32) else (0 : Int32))), .val (.int (0 : Int32)), .val (.int (0 : Int32))] [])) _
          refine XS.iload X33.here hx rfl (hb hby at_160) rfl ?_
          show Steps p.tables e below (T33.setTop (mkF m 162 #[.val (.int p1), .val (.int p2), .val (.int p3), .val (.int p4), .val (.int p5), .val (.int (p1 &&& (2147483647 : Int32))), .val (.int (p2 &&& (2147483647 : Int32))), .val (.int cc), .val (.int dd), .val (.ref b19), .val (.ref b21), .val (.ref r23), .val (.int (1 : Int32)), .val (.int (if (cc = (p1 &&& (2147483647 : Int32)) ∧ dd = (p2 &&& (2147483647 : Int32))) then (1 : Int32) else (0 : Int32))), .val (.int (if ((p1 &&& (2147483647 : Int32)) = cc ∧ (p2 &&& (2147483647 : Int32)) = dd) then (1 : Int32) else (0 : Int32))), .val (.int (if ((p1 &&& (2147483647 : Int32)) = (p1 &&& (2147483647 : Int32)) ∧ (p2 &&& (2147483647 : Int32)) = (p2 &&& (2147483647 : Int32))) then (1 : Int32) else (0 : Int32))), .val (.int (0 : Int32)), .val (.int (0 : Int32))] [(.int (if ((p1 &&& (2147483647 : Int32)) = (p1 &&& (2147483647 : Int32)) ∧ (p2 &&& (2147483647 : Int32)) = (p2 &&& (2147483647 : Int32))) then (1 : Int32) else (0 : Int32)))])) _
          refine XS.ifNo X33.here hx rfl (hb hby at_162) rfl ((if0 _ _).trans (feq (by rw [if_pos ⟨rfl, rfl⟩]; decide)).1) ?_
          show Steps p.tables e below (T33.setTop (mkF m 165 #[.val (.int p1), .val (.int p2), .val (.int p3), .val (.int p4), .val (.int p5), .val (.int (p1 &&& (2147483647 : Int32))), .val (.int (p2 &&& (2147483647 : Int32))), .val (.int cc), .val (.int dd), .val (.ref b19), .val (.ref b21), .val (.ref r23), .val (.int (1 : Int32)), .val (.int (if (cc = (p1 &&& (2147483647 : Int32)) ∧ dd = (p2 &&& (2147483647 : Int32))) then (1 : Int32) else (0 : Int32))), .val (.int (if ((p1 &&& (2147483647 : Int32)) = cc ∧ (p2 &&& (2147483647 : Int32)) = dd) then (1 : Int32) else (0 : Int32))), .val (.int (if ((p1 &&& (2147483647 : Int32)) = (p1 &&& (2147483647 : Int32)) ∧ (p2 &&& (2147483647 : Int32)) = (p2 &&& (2147483647 : Int32))) then (1 : Int32) else (0 : Int32))), .val (.int (0 : Int32)), .val (.int (0 : Int32))] [])) _
          refine XS.iload X33.here hx rfl (hb hby at_165) rfl ?_
          show Steps p.tables e below (T33.setTop (mkF m 167 #[.val (.int p1), .val (.int p2), .val (.int p3), .val (.int p4), .val (.int p5), .val (.int (p1 &&& (2147483647 : Int32))), .val (.int (p2 &&& (2147483647 : Int32))), .val (.int cc), .val (.int dd), .val (.ref b19), .val (.ref b21), .val (.ref r23), .val (.int (1 : Int32)), .val (.int (if (cc = (p1 &&& (2147483647 : Int32)) ∧ dd = (p2 &&& (2147483647 : Int32))) then (1 : Int32) else (0 : Int32))), .val (.int (if ((p1 &&& (2147483647 : Int32)) = cc ∧ (p2 &&& (2147483647 : Int32)) = dd) then (1 : Int32) else (0 : Int32))), .val (.int (if ((p1 &&& (2147483647 : Int32)) = (p1 &&& (2147483647 : Int32)) ∧ (p2 &&& (2147483647 : Int32)) = (p2 &&& (2147483647 : Int32))) then (1 : Int32) else (0 : Int32))), .val (.int (0 : Int32)), .val (.int (0 : Int32))] [(.int (0 : Int32))])) _
          refine XS.ifNo X33.here hx rfl (hb hby at_167) rfl ((if0 _ _).trans (teq rfl).2) ?_
          show Steps p.tables e below (T33.setTop (mkF m 170 #[.val (.int p1), .val (.int p2), .val (.int p3), .val (.int p4), .val (.int p5), .val (.int (p1 &&& (2147483647 : Int32))), .val (.int (p2 &&& (2147483647 : Int32))), .val (.int cc), .val (.int dd), .val (.ref b19), .val (.ref b21), .val (.ref r23), .val (.int (1 : Int32)), .val (.int (if (cc = (p1 &&& (2147483647 : Int32)) ∧ dd = (p2 &&& (2147483647 : Int32))) then (1 : Int32) else (0 : Int32))), .val (.int (if ((p1 &&& (2147483647 : Int32)) = cc ∧ (p2 &&& (2147483647 : Int32)) = dd) then (1 : Int32) else (0 : Int32))), .val (.int (if ((p1 &&& (2147483647 : Int32)) = (p1 &&& (2147483647 : Int32)) ∧ (p2 &&& (2147483647 : Int32)) = (p2 &&& (2147483647 : Int32))) then (1 : Int32) else (0 : Int32))), .val (.int (0 : Int32)), .val (.int (0 : Int32))] [])) _
          refine XS.iload X33.here hx rfl (hb hby at_170) rfl ?_
          show Steps p.tables e below (T33.setTop (mkF m 172 #[.val (.int p1), .val (.int p2), .val (.int p3), .val (.int p4), .val (.int p5), .val (.int (p1 &&& (2147483647 : Int32))), .val (.int (p2 &&& (2147483647 : Int32))), .val (.int cc), .val (.int dd), .val (.ref b19), .val (.ref b21), .val (.ref r23), .val (.int (1 : Int32)), .val (.int (if (cc = (p1 &&& (2147483647 : Int32)) ∧ dd = (p2 &&& (2147483647 : Int32))) then (1 : Int32) else (0 : Int32))), .val (.int (if ((p1 &&& (2147483647 : Int32)) = cc ∧ (p2 &&& (2147483647 : Int32)) = dd) then (1 : Int32) else (0 : Int32))), .val (.int (if ((p1 &&& (2147483647 : Int32)) = (p1 &&& (2147483647 : Int32)) ∧ (p2 &&& (2147483647 : Int32)) = (p2 &&& (2147483647 : Int32))) then (1 : Int32) else (0 : Int32))), .val (.int (0 : Int32)), .val (.int (0 : Int32))] [(.int (0 : Int32))])) _
          refine XS.ifNo X33.here hx rfl (hb hby at_172) rfl ((if0 _ _).trans (teq rfl).2) ?_
          show Steps p.tables e below (T33.setTop (mkF m 175 #[.val (.int p1), .val (.int p2), .val (.int p3), .val (.int p4), .val (.int p5), .val (.int (p1 &&& (2147483647 : Int32))), .val (.int (p2 &&& (2147483647 : Int32))), .val (.int cc), .val (.int dd), .val (.ref b19), .val (.ref b21), .val (.ref r23), .val (.int (1 : Int32)), .val (.int (if (cc = (p1 &&& (2147483647 : Int32)) ∧ dd = (p2 &&& (2147483647 : Int32))) then (1 : Int32) else (0 : Int32))), .val (.int (if ((p1 &&& (2147483647 : Int32)) = cc ∧ (p2 &&& (2147483647 : Int32)) = dd) then (1 : Int32) else (0 : Int32))), .val (.int (if ((p1 &&& (2147483647 : Int32)) = (p1 &&& (2147483647 : Int32)) ∧ (p2 &&& (2147483647 : Int32)) = (p2 &&& (2147483647 : Int32))) then (1 : Int32) else (0 : Int32))), .val (.int (0 : Int32)), .val (.int (0 : Int32))] [])) _
          refine XS.iconst X33.here hx rfl (hb hby at_175) ?_
          show Steps p.tables e below (T33.setTop (mkF m 176 #[.val (.int p1), .val (.int p2), .val (.int p3), .val (.int p4), .val (.int p5), .val (.int (p1 &&& (2147483647 : Int32))), .val (.int (p2 &&& (2147483647 : Int32))), .val (.int cc), .val (.int dd), .val (.ref b19), .val (.ref b21), .val (.ref r23), .val (.int (1 : Int32)), .val (.int (if (cc = (p1 &&& (2147483647 : Int32)) ∧ dd = (p2 &&& (2147483647 : Int32))) then (1 : Int32) else (0 : Int32))), .val (.int (if ((p1 &&& (2147483647 : Int32)) = cc ∧ (p2 &&& (2147483647 : Int32)) = dd) then (1 : Int32) else (0 : Int32))), .val (.int (if ((p1 &&& (2147483647 : Int32)) = (p1 &&& (2147483647 : Int32)) ∧ (p2 &&& (2147483647 : Int32)) = (p2 &&& (2147483647 : Int32))) then (1 : Int32) else (0 : Int32))), .val (.int (0 : Int32)), .val (.int (0 : Int32))] [(.int (1 : Int32))])) _
          refine XS.goto X33.here hx rfl (pc0 := 176) (pc' := 180) rfl (hb hby at_176) (by decide) (by decide) ?_
          exact kt
        obtain ⟨fs, hr, hrun, hended, hW, hsame⟩ := X33.leave (v := some (.int (1 : Int32))) (fun h => by rw [Bd.returns] at h; cases h)
        exact ⟨_, _, retN X33 hx (t := .boolean) Bd.returns (by simp) (hb hby at_180) hr, hrun, hended, _, _, rfl, ⟨rfl, N33⟩, ⟨_, rfl⟩, hW, hsame.mono (by decide) (by decide)⟩
      · refine Ends.of (F' := T23.setTop (mkF m 106 #[.val (.int p1), .val (.int p2), .val (.int p3), .val (.int p4), .val (.int p5), .val (.int (p1 &&& (2147483647 : Int32))), .val (.int (p2 &&& (2147483647 : Int32))), .val (.int cc), .val (.int dd), .val (.ref b19), .val (.ref b21), .val (.ref r23), .val (.int (0 : Int32)), .unset, .unset, .unset, .unset, .unset] [(.ref b21), (.ref b19)])) (fun _ kt => ?_) ?_
        · show Steps p.tables e below (T23.setTop (mkF m 92 #[.val (.int p1), .val (.int p2), .val (.int p3), .val (.int p4), .val (.int p5), .val (.int (p1 &&& (2147483647 : Int32))), .val (.int (p2 &&& (2147483647 : Int32))), .val (.int cc), .val (.int dd), .val (.ref b19), .val (.ref b21), .val (.ref r23), .unset, .unset, .unset, .unset, .unset, .unset] [(.int dd), (.int (p2 &&& (2147483647 : Int32)))])) _
          refine XS.icmpYes X23.here hx rfl (pc0 := 92) (pc' := 99) rfl (hb hby at_92) rfl (feq hbd).2 (by decide) (by decide) ?_
          show Steps p.tables e below (T23.setTop (mkF m 99 #[.val (.int p1), .val (.int p2), .val (.int p3), .val (.int p4), .val (.int p5), .val (.int (p1 &&& (2147483647 : Int32))), .val (.int (p2 &&& (2147483647 : Int32))), .val (.int cc), .val (.int dd), .val (.ref b19), .val (.ref b21), .val (.ref r23), .unset, .unset, .unset, .unset, .unset, .unset] [])) _
          refine XS.iconst X23.here hx rfl (hb hby at_99) ?_
          show Steps p.tables e below (T23.setTop (mkF m 100 #[.val (.int p1), .val (.int p2), .val (.int p3), .val (.int p4), .val (.int p5), .val (.int (p1 &&& (2147483647 : Int32))), .val (.int (p2 &&& (2147483647 : Int32))), .val (.int cc), .val (.int dd), .val (.ref b19), .val (.ref b21), .val (.ref r23), .unset, .unset, .unset, .unset, .unset, .unset] [(.int (0 : Int32))])) _
          refine XS.istore X23.here hx rfl (hb hby at_100) rfl (l' := #[.val (.int p1), .val (.int p2), .val (.int p3), .val (.int p4), .val (.int p5), .val (.int (p1 &&& (2147483647 : Int32))), .val (.int (p2 &&& (2147483647 : Int32))), .val (.int cc), .val (.int dd), .val (.ref b19), .val (.ref b21), .val (.ref r23), .val (.int (0 : Int32)), .unset, .unset, .unset, .unset, .unset]) rfl ?_
          show Steps p.tables e below (T23.setTop (mkF m 102 #[.val (.int p1), .val (.int p2), .val (.int p3), .val (.int p4), .val (.int p5), .val (.int (p1 &&& (2147483647 : Int32))), .val (.int (p2 &&& (2147483647 : Int32))), .val (.int cc), .val (.int dd), .val (.ref b19), .val (.ref b21), .val (.ref r23), .val (.int (0 : Int32)), .unset, .unset, .unset, .unset, .unset] [])) _
          refine XS.aload X23.here hx rfl (hb hby at_102) rfl rfl ?_
          show Steps p.tables e below (T23.setTop (mkF m 104 #[.val (.int p1), .val (.int p2), .val (.int p3), .val (.int p4), .val (.int p5), .val (.int (p1 &&& (2147483647 : Int32))), .val (.int (p2 &&& (2147483647 : Int32))), .val (.int cc), .val (.int dd), .val (.ref b19), .val (.ref b21), .val (.ref r23), .val (.int (0 : Int32)), .unset, .unset, .unset, .unset, .unset] [(.ref b19)])) _
          refine XS.aload X23.here hx rfl (hb hby at_104) rfl rfl ?_
          exact kt
        obtain ⟨cq34, kq34, q34a, q34b, q34c⟩ := isOf hZ rfl Ex1a
        obtain ⟨_, _, ⟨T34, L34, k34, n34⟩, -, X34, ⟨Lc34, hQ34, l34, y34, z34⟩, st34⟩ := X23.virtualBack hx (y := (⟨"com/example/fence_finder/fencefinder/model/FencePlace", "equals", "(Ljava/lang/Object;)Z"⟩ : MethodName)) (z := (⟨"com/example/fence_finder/fencefinder/model/FencePlace", "equals", "(Ljava/lang/Object;)Z"⟩ : MethodName)) hown (mvT hZ (hw _ (List.mem_of_getElem? (i := 26) rfl))) (mvT hZ (hw _ (List.mem_of_getElem? (i := 27) rfl))) (notFace_of_selects (args := #[]) (mvT hZ (hw _ (List.mem_of_getElem? (i := 29) rfl)))) (mvT hZ (hw _ (List.mem_of_getElem? (i := 29) rfl))) (mvT hZ (hw _ (List.mem_of_getElem? (i := 28) rfl))) (by decide) (backOf (W := 0) (eqA l Z a0 hw [] b19 b21 (p1 &&& (2147483647 : Int32)) (p2 &&& (2147483647 : Int32)) cc dd T23.heap n0 Z4 Ex2a Ft1a Fi1a Ft2a Fi2a) hZ (hw _ (List.mem_of_getElem? (i := 30) rfl)) (hw _ (List.mem_of_getElem? (i := 3) rfl)) (by decide) (by decide)) q34a q34c (g := (mkF m 106 #[.val (.int p1), .val (.int p2), .val (.int p3), .val (.int p4), .val (.int p5), .val (.int (p1 &&& (2147483647 : Int32))), .val (.int (p2 &&& (2147483647 : Int32))), .val (.int cc), .val (.int dd), .val (.ref b19), .val (.ref b21), .val (.ref r23), .val (.int (0 : Int32)), .unset, .unset, .unset, .unset, .unset] [(.ref b21), (.ref b19)])) rfl (by rw [hml]; rfl) (Steps.refl _) (argsL := [(.ref b21)]) (rest := []) (lenOf pd_3 rfl) rfl (by show 2 * 0 + _ ≤ _; exact Nat.le_of_eq rfl) (hb hby at_106) (fun _ _ => ⟨rfl, rfl, (by decide : 3 + 0 ≤ _), (by decide : 5 + 0 ≤ _)⟩)
        dsimp only [Pt.U, Pt.locs, Pt.cells, Pt.slots] at X34 l34 y34 z34 st34 hQ34
        subst l34 y34 z34
        obtain ⟨rfl, N34q, e34⟩ := hQ34
        have N34 := Fr.app N23 N34q
        refine Ends.st st34 ?_
        refine Ends.of (F' := T34.setTop (mkF m 115 #[.val (.int p1), .val (.int p2), .val (.int p3), .val (.int p4), .val (.int p5), .val (.int (p1 &&& (2147483647 : Int32))), .val (.int (p2 &&& (2147483647 : Int32))), .val (.int cc), .val (.int dd), .val (.ref b19), .val (.ref b21), .val (.ref r23), .val (.int (0 : Int32)), .val (.int (if (cc = (p1 &&& (2147483647 : Int32)) ∧ dd = (p2 &&& (2147483647 : Int32))) then (1 : Int32) else (0 : Int32))), .unset, .unset, .unset, .unset] [(.ref b19), (.ref b21)])) (fun _ kt => ?_) ?_
        · show Steps p.tables e below (T34.setTop (mkF m 109 #[.val (.int p1), .val (.int p2), .val (.int p3), .val (.int p4), .val (.int p5), .val (.int (p1 &&& (2147483647 : Int32))), .val (.int (p2 &&& (2147483647 : Int32))), .val (.int cc), .val (.int dd), .val (.ref b19), .val (.ref b21), .val (.ref r23), .val (.int (0 : Int32)), .unset, .unset, .unset, .unset, .unset] [(.int (if (cc = (p1 &&& (2147483647 : Int32)) ∧ dd = (p2 &&& (2147483647 : Int32))) then (1 : Int32) else (0 : Int32)))])) _
          refine XS.istore X34.here hx rfl (hb hby at_109) rfl (l' := #[.val (.int p1), .val (.int p2), .val (.int p3), .val (.int p4), .val (.int p5), .val (.int (p1 &&& (2147483647 : Int32))), .val (.int (p2 &&& (2147483647 : Int32))), .val (.int cc), .val (.int dd), .val (.ref b19), .val (.ref b21), .val (.ref r23), .val (.int (0 : Int32)), .val (.int (if (cc = (p1 &&& (2147483647 : Int32)) ∧ dd = (p2 &&& (2147483647 : Int32))) then (1 : Int32) else (0 : Int32))), .unset, .unset, .unset, .unset]) rfl ?_
          show Steps p.tables e below (T34.setTop (mkF m 111 #[.val (.int p1), .val (.int p2), .val (.int p3), .val (.int p4), .val (.int p5), .val (.int (p1 &&& (2147483647 : Int32))), .val (.int (p2 &&& (2147483647 : Int32))), .val (.int cc), .val (.int dd), .val (.ref b19), .val (.ref b21), .val (.ref r23), .val (.int (0 : Int32)), .val (.int (if (cc = (p1 &&& (2147483647 : Int32)) ∧ dd = (p2 &&& (2147483647 : Int32))) then (1 : Int32) else (0 : Int32))), .unset, .unset, .unset, .unset] [])) _
          refine XS.aload X34.here hx rfl (hb hby at_111) rfl rfl ?_
          show Steps p.tables e below (T34.setTop (mkF m 113 #[.val (.int p1), .val (.int p2), .val (.int p3), .val (.int p4), .val (.int p5), .val (.int (p1 &&& (2147483647 : Int32))), .val (.int (p2 &&& (2147483647 : Int32))), .val (.int cc), .val (.int dd), .val (.ref b19), .val (.ref b21), .val (.ref r23), .val (.int (0 : Int32)), .val (.int (if (cc = (p1 &&& (2147483647 : Int32)) ∧ dd = (p2 &&& (2147483647 : Int32))) then (1 : Int32) else (0 : Int32))), .unset, .unset, .unset, .unset] [(.ref b21)])) _
          refine XS.aload X34.here hx rfl (hb hby at_113) rfl rfl ?_
          exact kt
        obtain ⟨cq35, kq35, q35a, q35b, q35c⟩ := isOf hZ e34 Ex2a
        obtain ⟨_, _, ⟨T35, L35, k35, n35⟩, -, X35, ⟨Lc35, hQ35, l35, y35, z35⟩, st35⟩ := X34.virtualBack hx (y := (⟨"com/example/fence_finder/fencefinder/model/FencePlace", "equals", "(Ljava/lang/Object;)Z"⟩ : MethodName)) (z := (⟨"com/example/fence_finder/fencefinder/model/FencePlace", "equals", "(Ljava/lang/Object;)Z"⟩ : MethodName)) hown (mvT hZ (hw _ (List.mem_of_getElem? (i := 26) rfl))) (mvT hZ (hw _ (List.mem_of_getElem? (i := 27) rfl))) (notFace_of_selects (args := #[]) (mvT hZ (hw _ (List.mem_of_getElem? (i := 29) rfl)))) (mvT hZ (hw _ (List.mem_of_getElem? (i := 29) rfl))) (mvT hZ (hw _ (List.mem_of_getElem? (i := 28) rfl))) (by decide) (backOf (W := 0) (eqA l Z a0 hw [] b21 b19 cc dd (p1 &&& (2147483647 : Int32)) (p2 &&& (2147483647 : Int32)) T23.heap n0 Z4 Ex1a Ft2a Fi2a Ft1a Fi1a) hZ (hw _ (List.mem_of_getElem? (i := 30) rfl)) (hw _ (List.mem_of_getElem? (i := 3) rfl)) (by decide) (by decide)) q35a q35c (g := (mkF m 115 #[.val (.int p1), .val (.int p2), .val (.int p3), .val (.int p4), .val (.int p5), .val (.int (p1 &&& (2147483647 : Int32))), .val (.int (p2 &&& (2147483647 : Int32))), .val (.int cc), .val (.int dd), .val (.ref b19), .val (.ref b21), .val (.ref r23), .val (.int (0 : Int32)), .val (.int (if (cc = (p1 &&& (2147483647 : Int32)) ∧ dd = (p2 &&& (2147483647 : Int32))) then (1 : Int32) else (0 : Int32))), .unset, .unset, .unset, .unset] [(.ref b19), (.ref b21)])) rfl (by rw [hml]; rfl) (Steps.refl _) (argsL := [(.ref b19)]) (rest := []) (lenOf pd_3 rfl) rfl (by show 2 * 0 + _ ≤ _; exact Nat.le_of_eq rfl) (hb hby at_115) (fun _ _ => ⟨rfl, e34, (by decide : 3 + 0 ≤ _), (by decide : 5 + 0 ≤ _)⟩)
        dsimp only [Pt.U, Pt.locs, Pt.cells, Pt.slots] at X35 l35 y35 z35 st35 hQ35
        subst l35 y35 z35
        obtain ⟨rfl, N35q, e35⟩ := hQ35
        have N35 := Fr.app N34 N35q
        refine Ends.st st35 ?_
        refine Ends.of (F' := T35.setTop (mkF m 124 #[.val (.int p1), .val (.int p2), .val (.int p3), .val (.int p4), .val (.int p5), .val (.int (p1 &&& (2147483647 : Int32))), .val (.int (p2 &&& (2147483647 : Int32))), .val (.int cc), .val (.int dd), .val (.ref b19), .val (.ref b21), .val (.ref r23), .val (.int (0 : Int32)), .val (.int (if (cc = (p1 &&& (2147483647 : Int32)) ∧ dd = (p2 &&& (2147483647 : Int32))) then (1 : Int32) else (0 : Int32))), .val (.int (if ((p1 &&& (2147483647 : Int32)) = cc ∧ (p2 &&& (2147483647 : Int32)) = dd) then (1 : Int32) else (0 : Int32))), .unset, .unset, .unset] [(.ref b19), (.ref b19)])) (fun _ kt => ?_) ?_
        · show Steps p.tables e below (T35.setTop (mkF m 118 #[.val (.int p1), .val (.int p2), .val (.int p3), .val (.int p4), .val (.int p5), .val (.int (p1 &&& (2147483647 : Int32))), .val (.int (p2 &&& (2147483647 : Int32))), .val (.int cc), .val (.int dd), .val (.ref b19), .val (.ref b21), .val (.ref r23), .val (.int (0 : Int32)), .val (.int (if (cc = (p1 &&& (2147483647 : Int32)) ∧ dd = (p2 &&& (2147483647 : Int32))) then (1 : Int32) else (0 : Int32))), .unset, .unset, .unset, .unset] [(.int (if ((p1 &&& (2147483647 : Int32)) = cc ∧ (p2 &&& (2147483647 : Int32)) = dd) then (1 : Int32) else (0 : Int32)))])) _
          refine XS.istore X35.here hx rfl (hb hby at_118) rfl (l' := #[.val (.int p1), .val (.int p2), .val (.int p3), .val (.int p4), .val (.int p5), .val (.int (p1 &&& (2147483647 : Int32))), .val (.int (p2 &&& (2147483647 : Int32))), .val (.int cc), .val (.int dd), .val (.ref b19), .val (.ref b21), .val (.ref r23), .val (.int (0 : Int32)), .val (.int (if (cc = (p1 &&& (2147483647 : Int32)) ∧ dd = (p2 &&& (2147483647 : Int32))) then (1 : Int32) else (0 : Int32))), .val (.int (if ((p1 &&& (2147483647 : Int32)) = cc ∧ (p2 &&& (2147483647 : Int32)) = dd) then (1 : Int32) else (0 : Int32))), .unset, .unset, .unset]) rfl ?_
          show Steps p.tables e below (T35.setTop (mkF m 120 #[.val (.int p1), .val (.int p2), .val (.int p3), .val (.int p4), .val (.int p5), .val (.int (p1 &&& (2147483647 : Int32))), .val (.int (p2 &&& (2147483647 : Int32))), .val (.int cc), .val (.int dd), .val (.ref b19), .val (.ref b21), .val (.ref r23), .val (.int (0 : Int32)), .val (.int (if (cc = (p1 &&& (2147483647 : Int32)) ∧ dd = (p2 &&& (2147483647 : Int32))) then (1 : Int32) else (0 : Int32))), .val (.int (if ((p1 &&& (2147483647 : Int32)) = cc ∧ (p2 &&& (2147483647 : Int32)) = dd) then (1 : Int32) else (0 : Int32))), .unset, .unset, .unset] [])) _
          refine XS.aload X35.here hx rfl (hb hby at_120) rfl rfl ?_
          show Steps p.tables e below (T35.setTop (mkF m 122 #[.val (.int p1), .val (.int p2), .val (.int p3), .val (.int p4), .val (.int p5), .val (.int (p1 &&& (2147483647 : Int32))), .val (.int (p2 &&& (2147483647 : Int32))), .val (.int cc), .val (.int dd), .val (.ref b19), .val (.ref b21), .val (.ref r23), .val (.int (0 : Int32)), .val (.int (if (cc = (p1 &&& (2147483647 : Int32)) ∧ dd = (p2 &&& (2147483647 : Int32))) then (1 : Int32) else (0 : Int32))), .val (.int (if ((p1 &&& (2147483647 : Int32)) = cc ∧ (p2 &&& (2147483647 : Int32)) = dd) then (1 : Int32) else (0 : Int32))), .unset, .unset, .unset] [(.ref b19)])) _
          refine XS.aload X35.here hx rfl (hb hby at_122) rfl rfl ?_
          exact kt
        obtain ⟨cq36, kq36, q36a, q36b, q36c⟩ := isOf hZ e35 Ex1a
        obtain ⟨_, _, ⟨T36, L36, k36, n36⟩, -, X36, ⟨Lc36, hQ36, l36, y36, z36⟩, st36⟩ := X35.virtualBack hx (y := (⟨"com/example/fence_finder/fencefinder/model/FencePlace", "equals", "(Ljava/lang/Object;)Z"⟩ : MethodName)) (z := (⟨"com/example/fence_finder/fencefinder/model/FencePlace", "equals", "(Ljava/lang/Object;)Z"⟩ : MethodName)) hown (mvT hZ (hw _ (List.mem_of_getElem? (i := 26) rfl))) (mvT hZ (hw _ (List.mem_of_getElem? (i := 27) rfl))) (notFace_of_selects (args := #[]) (mvT hZ (hw _ (List.mem_of_getElem? (i := 29) rfl)))) (mvT hZ (hw _ (List.mem_of_getElem? (i := 29) rfl))) (mvT hZ (hw _ (List.mem_of_getElem? (i := 28) rfl))) (by decide) (backOf (W := 0) (eqA l Z a0 hw [] b19 b19 (p1 &&& (2147483647 : Int32)) (p2 &&& (2147483647 : Int32)) (p1 &&& (2147483647 : Int32)) (p2 &&& (2147483647 : Int32)) T23.heap n0 Z4 Ex1a Ft1a Fi1a Ft1a Fi1a) hZ (hw _ (List.mem_of_getElem? (i := 30) rfl)) (hw _ (List.mem_of_getElem? (i := 3) rfl)) (by decide) (by decide)) q36a q36c (g := (mkF m 124 #[.val (.int p1), .val (.int p2), .val (.int p3), .val (.int p4), .val (.int p5), .val (.int (p1 &&& (2147483647 : Int32))), .val (.int (p2 &&& (2147483647 : Int32))), .val (.int cc), .val (.int dd), .val (.ref b19), .val (.ref b21), .val (.ref r23), .val (.int (0 : Int32)), .val (.int (if (cc = (p1 &&& (2147483647 : Int32)) ∧ dd = (p2 &&& (2147483647 : Int32))) then (1 : Int32) else (0 : Int32))), .val (.int (if ((p1 &&& (2147483647 : Int32)) = cc ∧ (p2 &&& (2147483647 : Int32)) = dd) then (1 : Int32) else (0 : Int32))), .unset, .unset, .unset] [(.ref b19), (.ref b19)])) rfl (by rw [hml]; rfl) (Steps.refl _) (argsL := [(.ref b19)]) (rest := []) (lenOf pd_3 rfl) rfl (by show 2 * 0 + _ ≤ _; exact Nat.le_of_eq rfl) (hb hby at_124) (fun _ _ => ⟨rfl, e35, (by decide : 3 + 0 ≤ _), (by decide : 5 + 0 ≤ _)⟩)
        dsimp only [Pt.U, Pt.locs, Pt.cells, Pt.slots] at X36 l36 y36 z36 st36 hQ36
        subst l36 y36 z36
        obtain ⟨rfl, N36q, e36⟩ := hQ36
        have N36 := Fr.app N35 N36q
        refine Ends.st st36 ?_
        refine Ends.of (F' := T36.setTop (mkF m 132 #[.val (.int p1), .val (.int p2), .val (.int p3), .val (.int p4), .val (.int p5), .val (.int (p1 &&& (2147483647 : Int32))), .val (.int (p2 &&& (2147483647 : Int32))), .val (.int cc), .val (.int dd), .val (.ref b19), .val (.ref b21), .val (.ref r23), .val (.int (0 : Int32)), .val (.int (if (cc = (p1 &&& (2147483647 : Int32)) ∧ dd = (p2 &&& (2147483647 : Int32))) then (1 : Int32) else (0 : Int32))), .val (.int (if ((p1 &&& (2147483647 : Int32)) = cc ∧ (p2 &&& (2147483647 : Int32)) = dd) then (1 : Int32) else (0 : Int32))), .val (.int (if ((p1 &&& (2147483647 : Int32)) = (p1 &&& (2147483647 : Int32)) ∧ (p2 &&& (2147483647 : Int32)) = (p2 &&& (2147483647 : Int32))) then (1 : Int32) else (0 : Int32))), .unset, .unset] [.null, (.ref b19)])) (fun _ kt => ?_) ?_
        · show Steps p.tables e below (T36.setTop (mkF m 127 #[.val (.int p1), .val (.int p2), .val (.int p3), .val (.int p4), .val (.int p5), .val (.int (p1 &&& (2147483647 : Int32))), .val (.int (p2 &&& (2147483647 : Int32))), .val (.int cc), .val (.int dd), .val (.ref b19), .val (.ref b21), .val (.ref r23), .val (.int (0 : Int32)), .val (.int (if (cc = (p1 &&& (2147483647 : Int32)) ∧ dd = (p2 &&& (2147483647 : Int32))) then (1 : Int32) else (0 : Int32))), .val (.int (if ((p1 &&& (2147483647 : Int32)) = cc ∧ (p2 &&& (2147483647 : Int32)) = dd) then (1 : Int32) else (0 : Int32))), .unset, .unset, .unset] [(.int (if ((p1 &&& (2147483647 : Int32)) = (p1 &&& (2147483647 : Int32)) ∧ (p2 &&& (2147483647 : Int32)) = (p2 &&& (2147483647 : Int32))) then (1 : Int32) else (0 : Int32)))])) _
          refine XS.istore X36.here hx rfl (hb hby at_127) rfl (l' := #[.val (.int p1), .val (.int p2), .val (.int p3), .val (.int p4), .val (.int p5), .val (.int (p1 &&& (2147483647 : Int32))), .val (.int (p2 &&& (2147483647 : Int32))), .val (.int cc), .val (.int dd), .val (.ref b19), .val (.ref b21), .val (.ref r23), .val (.int (0 : Int32)), .val (.int (if (cc = (p1 &&& (2147483647 : Int32)) ∧ dd = (p2 &&& (2147483647 : Int32))) then (1 : Int32) else (0 : Int32))), .val (.int (if ((p1 &&& (2147483647 : Int32)) = cc ∧ (p2 &&& (2147483647 : Int32)) = dd) then (1 : Int32) else (0 : Int32))), .val (.int (if ((p1 &&& (2147483647 : Int32)) = (p1 &&& (2147483647 : Int32)) ∧ (p2 &&& (2147483647 : Int32)) = (p2 &&& (2147483647 : Int32))) then (1 : Int32) else (0 : Int32))), .unset, .unset]) rfl ?_
          show Steps p.tables e below (T36.setTop (mkF m 129 #[.val (.int p1), .val (.int p2), .val (.int p3), .val (.int p4), .val (.int p5), .val (.int (p1 &&& (2147483647 : Int32))), .val (.int (p2 &&& (2147483647 : Int32))), .val (.int cc), .val (.int dd), .val (.ref b19), .val (.ref b21), .val (.ref r23), .val (.int (0 : Int32)), .val (.int (if (cc = (p1 &&& (2147483647 : Int32)) ∧ dd = (p2 &&& (2147483647 : Int32))) then (1 : Int32) else (0 : Int32))), .val (.int (if ((p1 &&& (2147483647 : Int32)) = cc ∧ (p2 &&& (2147483647 : Int32)) = dd) then (1 : Int32) else (0 : Int32))), .val (.int (if ((p1 &&& (2147483647 : Int32)) = (p1 &&& (2147483647 : Int32)) ∧ (p2 &&& (2147483647 : Int32)) = (p2 &&& (2147483647 : Int32))) then (1 : Int32) else (0 : Int32))), .unset, .unset] [])) _
          refine XS.aload X36.here hx rfl (hb hby at_129) rfl rfl ?_
          show Steps p.tables e below (T36.setTop (mkF m 131 #[.val (.int p1), .val (.int p2), .val (.int p3), .val (.int p4), .val (.int p5), .val (.int (p1 &&& (2147483647 : Int32))), .val (.int (p2 &&& (2147483647 : Int32))), .val (.int cc), .val (.int dd), .val (.ref b19), .val (.ref b21), .val (.ref r23), .val (.int (0 : Int32)), .val (.int (if (cc = (p1 &&& (2147483647 : Int32)) ∧ dd = (p2 &&& (2147483647 : Int32))) then (1 : Int32) else (0 : Int32))), .val (.int (if ((p1 &&& (2147483647 : Int32)) = cc ∧ (p2 &&& (2147483647 : Int32)) = dd) then (1 : Int32) else (0 : Int32))), .val (.int (if ((p1 &&& (2147483647 : Int32)) = (p1 &&& (2147483647 : Int32)) ∧ (p2 &&& (2147483647 : Int32)) = (p2 &&& (2147483647 : Int32))) then (1 : Int32) else (0 : Int32))), .unset, .unset] [(.ref b19)])) _
          refine XS.aconstNull X36.here hx rfl (hb hby at_131) ?_
          exact kt
        obtain ⟨cq37, kq37, q37a, q37b, q37c⟩ := isOf hZ e36 Ex1a
        obtain ⟨_, _, ⟨T37, L37, k37, n37⟩, -, X37, ⟨Lc37, hQ37, l37, y37, z37⟩, st37⟩ := X36.virtualBack hx (y := (⟨"com/example/fence_finder/fencefinder/model/FencePlace", "equals", "(Ljava/lang/Object;)Z"⟩ : MethodName)) (z := (⟨"com/example/fence_finder/fencefinder/model/FencePlace", "equals", "(Ljava/lang/Object;)Z"⟩ : MethodName)) hown (mvT hZ (hw _ (List.mem_of_getElem? (i := 26) rfl))) (mvT hZ (hw _ (List.mem_of_getElem? (i := 27) rfl))) (notFace_of_selects (args := #[]) (mvT hZ (hw _ (List.mem_of_getElem? (i := 29) rfl)))) (mvT hZ (hw _ (List.mem_of_getElem? (i := 29) rfl))) (mvT hZ (hw _ (List.mem_of_getElem? (i := 28) rfl))) (by decide) (backOf (W := 0) (eqN l Z a0 hw [] b19 T23.heap n0 Z4) hZ (hw _ (List.mem_of_getElem? (i := 30) rfl)) (hw _ (List.mem_of_getElem? (i := 3) rfl)) (by decide) (by decide)) q37a q37c (g := (mkF m 132 #[.val (.int p1), .val (.int p2), .val (.int p3), .val (.int p4), .val (.int p5), .val (.int (p1 &&& (2147483647 : Int32))), .val (.int (p2 &&& (2147483647 : Int32))), .val (.int cc), .val (.int dd), .val (.ref b19), .val (.ref b21), .val (.ref r23), .val (.int (0 : Int32)), .val (.int (if (cc = (p1 &&& (2147483647 : Int32)) ∧ dd = (p2 &&& (2147483647 : Int32))) then (1 : Int32) else (0 : Int32))), .val (.int (if ((p1 &&& (2147483647 : Int32)) = cc ∧ (p2 &&& (2147483647 : Int32)) = dd) then (1 : Int32) else (0 : Int32))), .val (.int (if ((p1 &&& (2147483647 : Int32)) = (p1 &&& (2147483647 : Int32)) ∧ (p2 &&& (2147483647 : Int32)) = (p2 &&& (2147483647 : Int32))) then (1 : Int32) else (0 : Int32))), .unset, .unset] [.null, (.ref b19)])) rfl (by rw [hml]; rfl) (Steps.refl _) (argsL := [.null]) (rest := []) (lenOf pd_3 rfl) rfl (by show 2 * 0 + _ ≤ _; exact Nat.le_of_eq rfl) (hb hby at_132) (fun _ _ => ⟨rfl, e36, (by decide : 3 + 0 ≤ _), (by decide : 5 + 0 ≤ _)⟩)
        dsimp only [Pt.U, Pt.locs, Pt.cells, Pt.slots] at X37 l37 y37 z37 st37 hQ37
        subst l37 y37 z37
        obtain ⟨rfl, N37q, e37⟩ := hQ37
        have N37 := Fr.app N36 N37q
        refine Ends.st st37 ?_
        refine Ends.of (F' := T37.setTop (mkF m 141 #[.val (.int p1), .val (.int p2), .val (.int p3), .val (.int p4), .val (.int p5), .val (.int (p1 &&& (2147483647 : Int32))), .val (.int (p2 &&& (2147483647 : Int32))), .val (.int cc), .val (.int dd), .val (.ref b19), .val (.ref b21), .val (.ref r23), .val (.int (0 : Int32)), .val (.int (if (cc = (p1 &&& (2147483647 : Int32)) ∧ dd = (p2 &&& (2147483647 : Int32))) then (1 : Int32) else (0 : Int32))), .val (.int (if ((p1 &&& (2147483647 : Int32)) = cc ∧ (p2 &&& (2147483647 : Int32)) = dd) then (1 : Int32) else (0 : Int32))), .val (.int (if ((p1 &&& (2147483647 : Int32)) = (p1 &&& (2147483647 : Int32)) ∧ (p2 &&& (2147483647 : Int32)) = (p2 &&& (2147483647 : Int32))) then (1 : Int32) else (0 : Int32))), .val (.int (0 : Int32)), .unset] [(.ref r23), (.ref b19)])) (fun _ kt => ?_) ?_
        · show Steps p.tables e below (T37.setTop (mkF m 135 #[.val (.int p1), .val (.int p2), .val (.int p3), .val (.int p4), .val (.int p5), .val (.int (p1 &&& (2147483647 : Int32))), .val (.int (p2 &&& (2147483647 : Int32))), .val (.int cc), .val (.int dd), .val (.ref b19), .val (.ref b21), .val (.ref r23), .val (.int (0 : Int32)), .val (.int (if (cc = (p1 &&& (2147483647 : Int32)) ∧ dd = (p2 &&& (2147483647 : Int32))) then (1 : Int32) else (0 : Int32))), .val (.int (if ((p1 &&& (2147483647 : Int32)) = cc ∧ (p2 &&& (2147483647 : Int32)) = dd) then (1 : Int32) else (0 : Int32))), .val (.int (if ((p1 &&& (2147483647 : Int32)) = (p1 &&& (2147483647 : Int32)) ∧ (p2 &&& (2147483647 : Int32)) = (p2 &&& (2147483647 : Int32))) then (1 : Int32) else (0 : Int32))), .unset, .unset] [(.int (0 : Int32))])) _
          refine XS.istore X37.here hx rfl (hb hby at_135) rfl (l' := #[.val (.int p1), .val (.int p2), .val (.int p3), .val (.int p4), .val (.int p5), .val (.int (p1 &&& (2147483647 : Int32))), .val (.int (p2 &&& (2147483647 : Int32))), .val (.int cc), .val (.int dd), .val (.ref b19), .val (.ref b21), .val (.ref r23), .val (.int (0 : Int32)), .val (.int (if (cc = (p1 &&& (2147483647 : Int32)) ∧ dd = (p2 &&& (2147483647 : Int32))) then (1 : Int32) else (0 : Int32))), .val (.int (if ((p1 &&& (2147483647 : Int32)) = cc ∧ (p2 &&& (2147483647 : Int32)) = dd) then (1 : Int32) else (0 : Int32))), .val (.int (if ((p1 &&& (2147483647 : Int32)) = (p1 &&& (2147483647 : Int32)) ∧ (p2 &&& (2147483647 : Int32)) = (p2 &&& (2147483647 : Int32))) then (1 : Int32) else (0 : Int32))), .val (.int (0 : Int32)), .unset]) rfl ?_
          show Steps p.tables e below (T37.setTop (mkF m 137 #[.val (.int p1), .val (.int p2), .val (.int p3), .val (.int p4), .val (.int p5), .val (.int (p1 &&& (2147483647 : Int32))), .val (.int (p2 &&& (2147483647 : Int32))), .val (.int cc), .val (.int dd), .val (.ref b19), .val (.ref b21), .val (.ref r23), .val (.int (0 : Int32)), .val (.int (if (cc = (p1 &&& (2147483647 : Int32)) ∧ dd = (p2 &&& (2147483647 : Int32))) then (1 : Int32) else (0 : Int32))), .val (.int (if ((p1 &&& (2147483647 : Int32)) = cc ∧ (p2 &&& (2147483647 : Int32)) = dd) then (1 : Int32) else (0 : Int32))), .val (.int (if ((p1 &&& (2147483647 : Int32)) = (p1 &&& (2147483647 : Int32)) ∧ (p2 &&& (2147483647 : Int32)) = (p2 &&& (2147483647 : Int32))) then (1 : Int32) else (0 : Int32))), .val (.int (0 : Int32)), .unset] [])) _
          refine XS.aload X37.here hx rfl (hb hby at_137) rfl rfl ?_
          show Steps p.tables e below (T37.setTop (mkF m 139 #[.val (.int p1), .val (.int p2), .val (.int p3), .val (.int p4), .val (.int p5), .val (.int (p1 &&& (2147483647 : Int32))), .val (.int (p2 &&& (2147483647 : Int32))), .val (.int cc), .val (.int dd), .val (.ref b19), .val (.ref b21), .val (.ref r23), .val (.int (0 : Int32)), .val (.int (if (cc = (p1 &&& (2147483647 : Int32)) ∧ dd = (p2 &&& (2147483647 : Int32))) then (1 : Int32) else (0 : Int32))), .val (.int (if ((p1 &&& (2147483647 : Int32)) = cc ∧ (p2 &&& (2147483647 : Int32)) = dd) then (1 : Int32) else (0 : Int32))), .val (.int (if ((p1 &&& (2147483647 : Int32)) = (p1 &&& (2147483647 : Int32)) ∧ (p2 &&& (2147483647 : Int32)) = (p2 &&& (2147483647 : Int32))) then (1 : Int32) else (0 : Int32))), .val (.int (0 : Int32)), .unset] [(.ref b19)])) _
          refine XS.aload X37.here hx rfl (hb hby at_139) rfl rfl ?_
          exact kt
        obtain ⟨cq38, kq38, q38a, q38b, q38c⟩ := isOf hZ e37 Ex1a
        obtain ⟨_, _, ⟨T38, L38, k38, n38⟩, -, X38, ⟨Lc38, hQ38, l38, y38, z38⟩, st38⟩ := X37.virtualBack hx (y := (⟨"com/example/fence_finder/fencefinder/model/FencePlace", "equals", "(Ljava/lang/Object;)Z"⟩ : MethodName)) (z := (⟨"com/example/fence_finder/fencefinder/model/FencePlace", "equals", "(Ljava/lang/Object;)Z"⟩ : MethodName)) hown (mvT hZ (hw _ (List.mem_of_getElem? (i := 26) rfl))) (mvT hZ (hw _ (List.mem_of_getElem? (i := 27) rfl))) (notFace_of_selects (args := #[]) (mvT hZ (hw _ (List.mem_of_getElem? (i := 29) rfl)))) (mvT hZ (hw _ (List.mem_of_getElem? (i := 29) rfl))) (mvT hZ (hw _ (List.mem_of_getElem? (i := 28) rfl))) (by decide) (backOf (W := 0) (eqO l Z a0 hw [] b19 r23 T23.heap n0 Z4 Er23) hZ (hw _ (List.mem_of_getElem? (i := 30) rfl)) (hw _ (List.mem_of_getElem? (i := 3) rfl)) (by decide) (by decide)) q38a q38c (g := (mkF m 141 #[.val (.int p1), .val (.int p2), .val (.int p3), .val (.int p4), .val (.int p5), .val (.int (p1 &&& (2147483647 : Int32))), .val (.int (p2 &&& (2147483647 : Int32))), .val (.int cc), .val (.int dd), .val (.ref b19), .val (.ref b21), .val (.ref r23), .val (.int (0 : Int32)), .val (.int (if (cc = (p1 &&& (2147483647 : Int32)) ∧ dd = (p2 &&& (2147483647 : Int32))) then (1 : Int32) else (0 : Int32))), .val (.int (if ((p1 &&& (2147483647 : Int32)) = cc ∧ (p2 &&& (2147483647 : Int32)) = dd) then (1 : Int32) else (0 : Int32))), .val (.int (if ((p1 &&& (2147483647 : Int32)) = (p1 &&& (2147483647 : Int32)) ∧ (p2 &&& (2147483647 : Int32)) = (p2 &&& (2147483647 : Int32))) then (1 : Int32) else (0 : Int32))), .val (.int (0 : Int32)), .unset] [(.ref r23), (.ref b19)])) rfl (by rw [hml]; rfl) (Steps.refl _) (argsL := [(.ref r23)]) (rest := []) (lenOf pd_3 rfl) rfl (by show 2 * 0 + _ ≤ _; exact Nat.le_of_eq rfl) (hb hby at_141) (fun _ _ => ⟨rfl, e37, (by decide : 3 + 0 ≤ _), (by decide : 5 + 0 ≤ _)⟩)
        dsimp only [Pt.U, Pt.locs, Pt.cells, Pt.slots] at X38 l38 y38 z38 st38 hQ38
        subst l38 y38 z38
        obtain ⟨rfl, N38q, e38⟩ := hQ38
        have N38 := Fr.app N37 N38q
        refine Ends.st st38 ?_
        refine Ends.of (F' := T38.setTop (mkF m 180 #[.val (.int p1), .val (.int p2), .val (.int p3), .val (.int p4), .val (.int p5), .val (.int (p1 &&& (2147483647 : Int32))), .val (.int (p2 &&& (2147483647 : Int32))), .val (.int cc), .val (.int dd), .val (.ref b19), .val (.ref b21), .val (.ref r23), .val (.int (0 : Int32)), .val (.int (if (cc = (p1 &&& (2147483647 : Int32)) ∧ dd = (p2 &&& (2147483647 : Int32))) then (1 : Int32) else (0 : Int32))), .val (.int (if ((p1 &&& (2147483647 : Int32)) = cc ∧ (p2 &&& (2147483647 : Int32)) = dd) then (1 : Int32) else (0 : Int32))), .val (.int (if ((p1 &&& (2147483647 : Int32)) = (p1 &&& (2147483647 : Int32)) ∧ (p2 &&& (2147483647 : Int32)) = (p2 &&& (2147483647 : Int32))) then (1 : Int32) else (0 : Int32))), .val (.int (0 : Int32)), .val (.int (0 : Int32))] [(.int (1 : Int32))])) (fun _ kt => ?_) ?_
        · show Steps p.tables e below (T38.setTop (mkF m 144 #[.val (.int p1), .val (.int p2), .val (.int p3), .val (.int p4), .val (.int p5), .val (.int (p1 &&& (2147483647 : Int32))), .val (.int (p2 &&& (2147483647 : Int32))), .val (.int cc), .val (.int dd), .val (.ref b19), .val (.ref b21), .val (.ref r23), .val (.int (0 : Int32)), .val (.int (if (cc = (p1 &&& (2147483647 : Int32)) ∧ dd = (p2 &&& (2147483647 : Int32))) then (1 : Int32) else (0 : Int32))), .val (.int (if ((p1 &&& (2147483647 : Int32)) = cc ∧ (p2 &&& (2147483647 : Int32)) = dd) then (1 : Int32) else (0 : Int32))), .val (.int (if ((p1 &&& (2147483647 : Int32)) = (p1 &&& (2147483647 : Int32)) ∧ (p2 &&& (2147483647 : Int32)) = (p2 &&& (2147483647 : Int32))) then (1 : Int32) else (0 : Int32))), .val (.int (0 : Int32)), .unset] [(.int (0 : Int32))])) _
          refine XS.istore X38.here hx rfl (hb hby at_144) rfl (l' := #[.val (.int p1), .val (.int p2), .val (.int p3), .val (.int p4), .val (.int p5), .val (.int (p1 &&& (2147483647 : Int32))), .val (.int (p2 &&& (2147483647 : Int32))), .val (.int cc), .val (.int dd), .val (.ref b19), .val (.ref b21), .val (.ref r23), .val (.int (0 : Int32)), .val (.int (if (cc = (p1 &&& (2147483647 : Int32)) ∧ dd = (p2 &&& (2147483647 : Int32))) then (1 : Int32) else (0 : Int32))), .val (.int (if ((p1 &&& (2147483647 : Int32)) = cc ∧ (p2 &&& (2147483647 : Int32)) = dd) then (1 : Int32) else (0 : Int32))), .val (.int (if ((p1 &&& (2147483647 : Int32)) = (p1 &&& (2147483647 : Int32)) ∧ (p2 &&& (2147483647 : Int32)) = (p2 &&& (2147483647 : Int32))) then (1 : Int32) else (0 : Int32))), .val (.int (0 : Int32)), .val (.int (0 : Int32))]) rfl ?_
          show Steps p.tables e below (T38.setTop (mkF m 146 #[.val (.int p1), .val (.int p2), .val (.int p3), .val (.int p4), .val (.int p5), .val (.int (p1 &&& (2147483647 : Int32))), .val (.int (p2 &&& (2147483647 : Int32))), .val (.int cc), .val (.int dd), .val (.ref b19), .val (.ref b21), .val (.ref r23), .val (.int (0 : Int32)), .val (.int (if (cc = (p1 &&& (2147483647 : Int32)) ∧ dd = (p2 &&& (2147483647 : Int32))) then (1 : Int32) else (0 : Int32))), .val (.int (if ((p1 &&& (2147483647 : Int32)) = cc ∧ (p2 &&& (2147483647 : Int32)) = dd) then (1 : Int32) else (0 : Int32))), .val (.int (if ((p1 &&& (2147483647 : Int32)) = (p1 &&& (2147483647 : Int32)) ∧ (p2 &&& (2147483647 : Int32)) = (p2 &&& (2147483647 : Int32))) then (1 : Int32) else (0 : Int32))), .val (.int (0 : Int32)), .val (.int (0 : Int32))] [])) _
          refine XS.iload X38.here hx rfl (hb hby at_146) rfl ?_
          show Steps p.tables e below (T38.setTop (mkF m 148 #[.val (.int p1), .val (.int p2), .val (.int p3), .val (.int p4), .val (.int p5), .val (.int (p1 &&& (2147483647 : Int32))), .val (.int (p2 &&& (2147483647 : Int32))), .val (.int cc), .val (.int dd), .val (.ref b19), .val (.ref b21), .val (.ref r23), .val (.int (0 : Int32)), .val (.int (if (cc = (p1 &&& (2147483647 : Int32)) ∧ dd = (p2 &&& (2147483647 : Int32))) then (1 : Int32) else (0 : Int32))), .val (.int (if ((p1 &&& (2147483647 : Int32)) = cc ∧ (p2 &&& (2147483647 : Int32)) = dd) then (1 : Int32) else (0 : Int32))), .val (.int (if ((p1 &&& (2147483647 : Int32)) = (p1 &&& (2147483647 : Int32)) ∧ (p2 &&& (2147483647 : Int32)) = (p2 &&& (2147483647 : Int32))) then (1 : Int32) else (0 : Int32))), .val (.int (0 : Int32)), .val (.int (0 : Int32))] [(.int (if (cc = (p1 &&& (2147483647 : Int32)) ∧ dd = (p2 &&& (2147483647 : Int32))) then (1 : Int32) else (0 : Int32)))])) _
          refine XS.iload X38.here hx rfl (hb hby at_148) rfl ?_
          show Steps p.tables e below (T38.setTop (mkF m 150 #[.val (.int p1), .val (.int p2), .val (.int p3), .val (.int p4), .val (.int p5), .val (.int (p1 &&& (2147483647 : Int32))), .val (.int (p2 &&& (2147483647 : Int32))), .val (.int cc), .val (.int dd), .val (.ref b19), .val (.ref b21), .val (.ref r23), .val (.int (0 : Int32)), .val (.int (if (cc = (p1 &&& (2147483647 : Int32)) ∧ dd = (p2 &&& (2147483647 : Int32))) then (1 : Int32) else (0 : Int32))), .val (.int (if ((p1 &&& (2147483647 : Int32)) = cc ∧ (p2 &&& (2147483647 : Int32)) = dd) then (1 : Int32) else (0 : Int32))), .val (.int (if ((p1 &&& (2147483647 : Int32)) = (p1 &&& (2147483647 : Int32)) ∧ (p2 &&& (2147483647 : Int32)) = (p2 &&& (2147483647 : Int32))) then (1 : Int32) else (0 : Int32))), .val (.int (0 : Int32)), .val (.int (0 : Int32))] [(.int (0 : Int32)), (.int (if (cc = (p1 &&& (2147483647 : Int32)) ∧ dd = (p2 &&& (2147483647 : Int32))) then (1 : Int32) else (0 : Int32)))])) _
          refine XS.icmpNo X38.here hx rfl (hb hby at_150) rfl (teq (if_neg (fun q => hbd q.2.symm))).2 ?_
          show Steps p.tables e below (T38.setTop (mkF m 153 #[.val (.int p1), .val (.int p2), .val (.int p3), .val (.int p4), .val (.int p5), .val (.int (p1 &&& (2147483647 : Int32))), .val (.int (p2 &&& (2147483647 : Int32))), .val (.int cc), .val (.int dd), .val (.ref b19), .val (.ref b21), .val (.ref r23), .val (.int (0 : Int32)), .val (.int (if (cc = (p1 &&& (2147483647 : Int32)) ∧ dd = (p2 &&& (2147483647 : Int32))) then (1 : Int32) else (0 : Int32))), .val (.int (if ((p1 &&& (2147483647 : Int32)) = cc ∧ (p2 &&& (2147483647 : Int32)) = dd) then (1 : Int32) else (0 : Int32))), .val (.int (if ((p1 &&& (2147483647 : Int32)) = (p1 &&& (2147483647 : Int32)) ∧ (p2 &&& (2147483647 : Int32)) = (p2 &&& (2147483647 : Int32))) then (1 : Int32) else (0 : Int32))), .val (.int (0 : Int32)), .val (.int (0 : Int32))] [])) _
          refine XS.iload X38.here hx rfl (hb hby at_153) rfl ?_
          show Steps p.tables e below (T38.setTop (mkF m 155 #[.val (.int p1), .val (.int p2), .val (.int p3), .val (.int p4), .val (.int p5), .val (.int (p1 &&& (2147483647 : Int32))), .val (.int (p2 &&& (2147483647 : Int32))), .val (.int cc), .val (.int dd), .val (.ref b19), .val (.ref b21), .val (.ref r23), .val (.int (0 : Int32)), .val (.int (if (cc = (p1 &&& (2147483647 : Int32)) ∧ dd = (p2 &&& (2147483647 : Int32))) then (1 : Int32) else (0 : Int32))), .val (.int (if ((p1 &&& (2147483647 : Int32)) = cc ∧ (p2 &&& (2147483647 : Int32)) = dd) then (1 : Int32) else (0 : Int32))), .val (.int (if ((p1 &&& (2147483647 : Int32)) = (p1 &&& (2147483647 : Int32)) ∧ (p2 &&& (2147483647 : Int32)) = (p2 &&& (2147483647 : Int32))) then (1 : Int32) else (0 : Int32))), .val (.int (0 : Int32)), .val (.int (0 : Int32))] [(.int (if ((p1 &&& (2147483647 : Int32)) = cc ∧ (p2 &&& (2147483647 : Int32)) = dd) then (1 : Int32) else (0 : Int32)))])) _
          refine XS.iload X38.here hx rfl (hb hby at_155) rfl ?_
          show Steps p.tables e below (T38.setTop (mkF m 157 #[.val (.int p1), .val (.int p2), .val (.int p3), .val (.int p4), .val (.int p5), .val (.int (p1 &&& (2147483647 : Int32))), .val (.int (p2 &&& (2147483647 : Int32))), .val (.int cc), .val (.int dd), .val (.ref b19), .val (.ref b21), .val (.ref r23), .val (.int (0 : Int32)), .val (.int (if (cc = (p1 &&& (2147483647 : Int32)) ∧ dd = (p2 &&& (2147483647 : Int32))) then (1 : Int32) else (0 : Int32))), .val (.int (if ((p1 &&& (2147483647 : Int32)) = cc ∧ (p2 &&& (2147483647 : Int32)) = dd) then (1 : Int32) else (0 : Int32))), .val (.int (if ((p1 &&& (2147483647 : Int32)) = (p1 &&& (2147483647 : Int32)) ∧ (p2 &&& (2147483647 : Int32)) = (p2 &&& (2147483647 : Int32))) then (1 : Int32) else (0 : Int32))), .val (.int (0 : Int32)), .val (.int (0 : Int32))] [(.int (0 : Int32)), (.int (if ((p1 &&& (2147483647 : Int32)) = cc ∧ (p2 &&& (2147483647 : Int32)) = dd) then (1 : Int32) else (0 : Int32)))])) _
          refine XS.icmpNo X38.here hx rfl (hb hby at_157) rfl (teq (if_neg (fun q => hbd q.2))).2 ?_
          show Steps p.tables e below (T38.setTop (mkF m 160 #[.val (.int p1), .val (.int p2), .val (.int p3), .val (.int p4), .val (.int p5), .val (.int (p1 &&& (2147483647 : Int32))), .val (.int (p2 &&& (2147483647 : Int32))), .val (.int cc), .val (.int dd), .val (.ref b19), .val (.ref b21), .val (.ref r23), .val (.int (0 : Int32)), .val (.int (if (cc = (p1 &&& (2147483647 : Int32)) ∧ dd = (p2 &&& (2147483647 : Int32))) then (1 : Int32) else (0 : Int32))), .val (.int (if ((p1 &&& (2147483647 : Int32)) = cc ∧ (p2 &&& (2147483647 : Int32)) = dd) then (1 : Int32) else (0 : Int32))), .val (.int (if ((p1 &&& (2147483647 : Int32)) = (p1 &&& (2147483647 : Int32)) ∧ (p2 &&& (2147483647 : Int32)) = (p2 &&& (2147483647 : Int32))) then (1 : Int32) else (0 : Int32))), .val (.int (0 : Int32)), .val (.int (0 : Int32))] [])) _
          refine XS.iload X38.here hx rfl (hb hby at_160) rfl ?_
          show Steps p.tables e below (T38.setTop (mkF m 162 #[.val (.int p1), .val (.int p2), .val (.int p3), .val (.int p4), .val (.int p5), .val (.int (p1 &&& (2147483647 : Int32))), .val (.int (p2 &&& (2147483647 : Int32))), .val (.int cc), .val (.int dd), .val (.ref b19), .val (.ref b21), .val (.ref r23), .val (.int (0 : Int32)), .val (.int (if (cc = (p1 &&& (2147483647 : Int32)) ∧ dd = (p2 &&& (2147483647 : Int32))) then (1 : Int32) else (0 : Int32))), .val (.int (if ((p1 &&& (2147483647 : Int32)) = cc ∧ (p2 &&& (2147483647 : Int32)) = dd) then (1 : Int32) else (0 : Int32))), .val (.int (if ((p1 &&& (2147483647 : Int32)) = (p1 &&& (2147483647 : Int32)) ∧ (p2 &&& (2147483647 : Int32)) = (p2 &&& (2147483647 : Int32))) then (1 : Int32) else (0 : Int32))), .val (.int (0 : Int32)), .val (.int (0 : Int32))] [(.int (if ((p1 &&& (2147483647 : Int32)) = (p1 &&& (2147483647 : Int32)) ∧ (p2 &&& (2147483647 : Int32)) = (p2 &&& (2147483647 : Int32))) then (1 : Int32) else (0 : Int32)))])) _
          refine XS.ifNo X38.here hx rfl (hb hby at_162) rfl ((if0 _ _).trans (feq (by rw [if_pos ⟨rfl, rfl⟩]; decide)).1) ?_
          show Steps p.tables e below (T38.setTop (mkF m 165 #[.val (.int p1), .val (.int p2), .val (.int p3), .val (.int p4), .val (.int p5), .val (.int (p1 &&& (2147483647 : Int32))), .val (.int (p2 &&& (2147483647 : Int32))), .val (.int cc), .val (.int dd), .val (.ref b19), .val (.ref b21), .val (.ref r23), .val (.int (0 : Int32)), .val (.int (if (cc = (p1 &&& (2147483647 : Int32)) ∧ dd = (p2 &&& (2147483647 : Int32))) then (1 : Int32) else (0 : Int32))), .val (.int (if ((p1 &&& (2147483647 : Int32)) = cc ∧ (p2 &&& (2147483647 : Int32)) = dd) then (1 : Int32) else (0 : Int32))), .val (.int (if ((p1 &&& (2147483647 : Int32)) = (p1 &&& (2147483647 : Int32)) ∧ (p2 &&& (2147483647 : Int32)) = (p2 &&& (2147483647 : Int32))) then (1 : Int32) else (0 : Int32))), .val (.int (0 : Int32)), .val (.int (0 : Int32))] [])) _
          refine XS.iload X38.here hx rfl (hb hby at_165) rfl ?_
          show Steps p.tables e below (T38.setTop (mkF m 167 #[.val (.int p1), .val (.int p2), .val (.int p3), .val (.int p4), .val (.int p5), .val (.int (p1 &&& (2147483647 : Int32))), .val (.int (p2 &&& (2147483647 : Int32))), .val (.int cc), .val (.int dd), .val (.ref b19), .val (.ref b21), .val (.ref r23), .val (.int (0 : Int32)), .val (.int (if (cc = (p1 &&& (2147483647 : Int32)) ∧ dd = (p2 &&& (2147483647 : Int32))) then (1 : Int32) else (0 : Int32))), .val (.int (if ((p1 &&& (2147483647 : Int32)) = cc ∧ (p2 &&& (2147483647 : Int32)) = dd) then (1 : Int32) else (0 : Int32))), .val (.int (if ((p1 &&& (2147483647 : Int32)) = (p1 &&& (2147483647 : Int32)) ∧ (p2 &&& (2147483647 : Int32)) = (p2 &&& (2147483647 : Int32))) then (1 : Int32) else (0 : Int32))), .val (.int (0 : Int32)), .val (.int (0 : Int32))] [(.int (0 : Int32))])) _
          refine XS.ifNo X38.here hx rfl (hb hby at_167) rfl ((if0 _ _).trans (teq rfl).2) ?_
          show Steps p.tables e below (T38.setTop (mkF m 170 #[.val (.int p1), .val (.int p2), .val (.int p3), .val (.int p4), .val (.int p5), .val (.int (p1 &&& (2147483647 : Int32))), .val (.int (p2 &&& (2147483647 : Int32))), .val (.int cc), .val (.int dd), .val (.ref b19), .val (.ref b21), .val (.ref r23), .val (.int (0 : Int32)), .val (.int (if (cc = (p1 &&& (2147483647 : Int32)) ∧ dd = (p2 &&& (2147483647 : Int32))) then (1 : Int32) else (0 : Int32))), .val (.int (if ((p1 &&& (2147483647 : Int32)) = cc ∧ (p2 &&& (2147483647 : Int32)) = dd) then (1 : Int32) else (0 : Int32))), .val (.int (if ((p1 &&& (2147483647 : Int32)) = (p1 &&& (2147483647 : Int32)) ∧ (p2 &&& (2147483647 : Int32)) = (p2 &&& (2147483647 : Int32))) then (1 : Int32) else (0 : Int32))), .val (.int (0 : Int32)), .val (.int (0 : Int32))] [])) _
          refine XS.iload X38.here hx rfl (hb hby at_170) rfl ?_
          show Steps p.tables e below (T38.setTop (mkF m 172 #[.val (.int p1), .val (.int p2), .val (.int p3), .val (.int p4), .val (.int p5), .val (.int (p1 &&& (2147483647 : Int32))), .val (.int (p2 &&& (2147483647 : Int32))), .val (.int cc), .val (.int dd), .val (.ref b19), .val (.ref b21), .val (.ref r23), .val (.int (0 : Int32)), .val (.int (if (cc = (p1 &&& (2147483647 : Int32)) ∧ dd = (p2 &&& (2147483647 : Int32))) then (1 : Int32) else (0 : Int32))), .val (.int (if ((p1 &&& (2147483647 : Int32)) = cc ∧ (p2 &&& (2147483647 : Int32)) = dd) then (1 : Int32) else (0 : Int32))), .val (.int (if ((p1 &&& (2147483647 : Int32)) = (p1 &&& (2147483647 : Int32)) ∧ (p2 &&& (2147483647 : Int32)) = (p2 &&& (2147483647 : Int32))) then (1 : Int32) else (0 : Int32))), .val (.int (0 : Int32)), .val (.int (0 : Int32))] [(.int (0 : Int32))])) _
          refine XS.ifNo X38.here hx rfl (hb hby at_172) rfl ((if0 _ _).trans (teq rfl).2) ?_
          show Steps p.tables e below (T38.setTop (mkF m 175 #[.val (.int p1), .val (.int p2), .val (.int p3), .val (.int p4), .val (.int p5), .val (.int (p1 &&& (2147483647 : Int32))), .val (.int (p2 &&& (2147483647 : Int32))), .val (.int cc), .val (.int dd), .val (.ref b19), .val (.ref b21), .val (.ref r23), .val (.int (0 : Int32)), .val (.int (if (cc = (p1 &&& (2147483647 : Int32)) ∧ dd = (p2 &&& (2147483647 : Int32))) then (1 : Int32) else (0 : Int32))), .val (.int (if ((p1 &&& (2147483647 : Int32)) = cc ∧ (p2 &&& (2147483647 : Int32)) = dd) then (1 : Int32) else (0 : Int32))), .val (.int (if ((p1 &&& (2147483647 : Int32)) = (p1 &&& (2147483647 : Int32)) ∧ (p2 &&& (2147483647 : Int32)) = (p2 &&& (2147483647 : Int32))) then (1 : Int32) else (0 : Int32))), .val (.int (0 : Int32)), .val (.int (0 : Int32))] [])) _
          refine XS.iconst X38.here hx rfl (hb hby at_175) ?_
          show Steps p.tables e below (T38.setTop (mkF m 176 #[.val (.int p1), .val (.int p2), .val (.int p3), .val (.int p4), .val (.int p5), .val (.int (p1 &&& (2147483647 : Int32))), .val (.int (p2 &&& (2147483647 : Int32))), .val (.int cc), .val (.int dd), .val (.ref b19), .val (.ref b21), .val (.ref r23), .val (.int (0 : Int32)), .val (.int (if (cc = (p1 &&& (2147483647 : Int32)) ∧ dd = (p2 &&& (2147483647 : Int32))) then (1 : Int32) else (0 : Int32))), .val (.int (if ((p1 &&& (2147483647 : Int32)) = cc ∧ (p2 &&& (2147483647 : Int32)) = dd) then (1 : Int32) else (0 : Int32))), .val (.int (if ((p1 &&& (2147483647 : Int32)) = (p1 &&& (2147483647 : Int32)) ∧ (p2 &&& (2147483647 : Int32)) = (p2 &&& (2147483647 : Int32))) then (1 : Int32) else (0 : Int32))), .val (.int (0 : Int32)), .val (.int (0 : Int32))] [(.int (1 : Int32))])) _
          refine XS.goto X38.here hx rfl (pc0 := 176) (pc' := 180) rfl (hb hby at_176) (by decide) (by decide) ?_
          exact kt
        obtain ⟨fs, hr, hrun, hended, hW, hsame⟩ := X38.leave (v := some (.int (1 : Int32))) (fun h => by rw [Bd.returns] at h; cases h)
        exact ⟨_, _, retN X38 hx (t := .boolean) Bd.returns (by simp) (hb hby at_180) hr, hrun, hended, _, _, rfl, ⟨rfl, N38⟩, ⟨_, rfl⟩, hW, hsame.mono (by decide) (by decide)⟩
    · refine Ends.of (F' := T23.setTop (mkF m 106 #[.val (.int p1), .val (.int p2), .val (.int p3), .val (.int p4), .val (.int p5), .val (.int (p1 &&& (2147483647 : Int32))), .val (.int (p2 &&& (2147483647 : Int32))), .val (.int cc), .val (.int dd), .val (.ref b19), .val (.ref b21), .val (.ref r23), .val (.int (0 : Int32)), .unset, .unset, .unset, .unset, .unset] [(.ref b21), (.ref b19)])) (fun _ kt => ?_) ?_
      · show Steps p.tables e below (T23.setTop (mkF m 85 #[.val (.int p1), .val (.int p2), .val (.int p3), .val (.int p4), .val (.int p5), .val (.int (p1 &&& (2147483647 : Int32))), .val (.int (p2 &&& (2147483647 : Int32))), .val (.int cc), .val (.int dd), .val (.ref b19), .val (.ref b21), .val (.ref r23), .unset, .unset, .unset, .unset, .unset, .unset] [(.int cc), (.int (p1 &&& (2147483647 : Int32)))])) _
        refine XS.icmpYes X23.here hx rfl (pc0 := 85) (pc' := 99) rfl (hb hby at_85) rfl (feq hac).2 (by decide) (by decide) ?_
        show Steps p.tables e below (T23.setTop (mkF m 99 #[.val (.int p1), .val (.int p2), .val (.int p3), .val (.int p4), .val (.int p5), .val (.int (p1 &&& (2147483647 : Int32))), .val (.int (p2 &&& (2147483647 : Int32))), .val (.int cc), .val (.int dd), .val (.ref b19), .val (.ref b21), .val (.ref r23), .unset, .unset, .unset, .unset, .unset, .unset] [])) _
        refine XS.iconst X23.here hx rfl (hb hby at_99) ?_
        show Steps p.tables e below (T23.setTop (mkF m 100 #[.val (.int p1), .val (.int p2), .val (.int p3), .val (.int p4), .val (.int p5), .val (.int (p1 &&& (2147483647 : Int32))), .val (.int (p2 &&& (2147483647 : Int32))), .val (.int cc), .val (.int dd), .val (.ref b19), .val (.ref b21), .val (.ref r23), .unset, .unset, .unset, .unset, .unset, .unset] [(.int (0 : Int32))])) _
        refine XS.istore X23.here hx rfl (hb hby at_100) rfl (l' := #[.val (.int p1), .val (.int p2), .val (.int p3), .val (.int p4), .val (.int p5), .val (.int (p1 &&& (2147483647 : Int32))), .val (.int (p2 &&& (2147483647 : Int32))), .val (.int cc), .val (.int dd), .val (.ref b19), .val (.ref b21), .val (.ref r23), .val (.int (0 : Int32)), .unset, .unset, .unset, .unset, .unset]) rfl ?_
        show Steps p.tables e below (T23.setTop (mkF m 102 #[.val (.int p1), .val (.int p2), .val (.int p3), .val (.int p4), .val (.int p5), .val (.int (p1 &&& (2147483647 : Int32))), .val (.int (p2 &&& (2147483647 : Int32))), .val (.int cc), .val (.int dd), .val (.ref b19), .val (.ref b21), .val (.ref r23), .val (.int (0 : Int32)), .unset, .unset, .unset, .unset, .unset] [])) _
        refine XS.aload X23.here hx rfl (hb hby at_102) rfl rfl ?_
        show Steps p.tables e below (T23.setTop (mkF m 104 #[.val (.int p1), .val (.int p2), .val (.int p3), .val (.int p4), .val (.int p5), .val (.int (p1 &&& (2147483647 : Int32))), .val (.int (p2 &&& (2147483647 : Int32))), .val (.int cc), .val (.int dd), .val (.ref b19), .val (.ref b21), .val (.ref r23), .val (.int (0 : Int32)), .unset, .unset, .unset, .unset, .unset] [(.ref b19)])) _
        refine XS.aload X23.here hx rfl (hb hby at_104) rfl rfl ?_
        exact kt
      obtain ⟨cq24, kq24, q24a, q24b, q24c⟩ := isOf hZ rfl Ex1a
      obtain ⟨_, _, ⟨T24, L24, k24, n24⟩, -, X24, ⟨Lc24, hQ24, l24, y24, z24⟩, st24⟩ := X23.virtualBack hx (y := (⟨"com/example/fence_finder/fencefinder/model/FencePlace", "equals", "(Ljava/lang/Object;)Z"⟩ : MethodName)) (z := (⟨"com/example/fence_finder/fencefinder/model/FencePlace", "equals", "(Ljava/lang/Object;)Z"⟩ : MethodName)) hown (mvT hZ (hw _ (List.mem_of_getElem? (i := 26) rfl))) (mvT hZ (hw _ (List.mem_of_getElem? (i := 27) rfl))) (notFace_of_selects (args := #[]) (mvT hZ (hw _ (List.mem_of_getElem? (i := 29) rfl)))) (mvT hZ (hw _ (List.mem_of_getElem? (i := 29) rfl))) (mvT hZ (hw _ (List.mem_of_getElem? (i := 28) rfl))) (by decide) (backOf (W := 0) (eqA l Z a0 hw [] b19 b21 (p1 &&& (2147483647 : Int32)) (p2 &&& (2147483647 : Int32)) cc dd T23.heap n0 Z4 Ex2a Ft1a Fi1a Ft2a Fi2a) hZ (hw _ (List.mem_of_getElem? (i := 30) rfl)) (hw _ (List.mem_of_getElem? (i := 3) rfl)) (by decide) (by decide)) q24a q24c (g := (mkF m 106 #[.val (.int p1), .val (.int p2), .val (.int p3), .val (.int p4), .val (.int p5), .val (.int (p1 &&& (2147483647 : Int32))), .val (.int (p2 &&& (2147483647 : Int32))), .val (.int cc), .val (.int dd), .val (.ref b19), .val (.ref b21), .val (.ref r23), .val (.int (0 : Int32)), .unset, .unset, .unset, .unset, .unset] [(.ref b21), (.ref b19)])) rfl (by rw [hml]; rfl) (Steps.refl _) (argsL := [(.ref b21)]) (rest := []) (lenOf pd_3 rfl) rfl (by show 2 * 0 + _ ≤ _; exact Nat.le_of_eq rfl) (hb hby at_106) (fun _ _ => ⟨rfl, rfl, (by decide : 3 + 0 ≤ _), (by decide : 5 + 0 ≤ _)⟩)
      dsimp only [Pt.U, Pt.locs, Pt.cells, Pt.slots] at X24 l24 y24 z24 st24 hQ24
      subst l24 y24 z24
      obtain ⟨rfl, N24q, e24⟩ := hQ24
      have N24 := Fr.app N23 N24q
      refine Ends.st st24 ?_
      refine Ends.of (F' := T24.setTop (mkF m 115 #[.val (.int p1), .val (.int p2), .val (.int p3), .val (.int p4), .val (.int p5), .val (.int (p1 &&& (2147483647 : Int32))), .val (.int (p2 &&& (2147483647 : Int32))), .val (.int cc), .val (.int dd), .val (.ref b19), .val (.ref b21), .val (.ref r23), .val (.int (0 : Int32)), .val (.int (if (cc = (p1 &&& (2147483647 : Int32)) ∧ dd = (p2 &&& (2147483647 : Int32))) then (1 : Int32) else (0 : Int32))), .unset, .unset, .unset, .unset] [(.ref b19), (.ref b21)])) (fun _ kt => ?_) ?_
      · show Steps p.tables e below (T24.setTop (mkF m 109 #[.val (.int p1), .val (.int p2), .val (.int p3), .val (.int p4), .val (.int p5), .val (.int (p1 &&& (2147483647 : Int32))), .val (.int (p2 &&& (2147483647 : Int32))), .val (.int cc), .val (.int dd), .val (.ref b19), .val (.ref b21), .val (.ref r23), .val (.int (0 : Int32)), .unset, .unset, .unset, .unset, .unset] [(.int (if (cc = (p1 &&& (2147483647 : Int32)) ∧ dd = (p2 &&& (2147483647 : Int32))) then (1 : Int32) else (0 : Int32)))])) _
        refine XS.istore X24.here hx rfl (hb hby at_109) rfl (l' := #[.val (.int p1), .val (.int p2), .val (.int p3), .val (.int p4), .val (.int p5), .val (.int (p1 &&& (2147483647 : Int32))), .val (.int (p2 &&& (2147483647 : Int32))), .val (.int cc), .val (.int dd), .val (.ref b19), .val (.ref b21), .val (.ref r23), .val (.int (0 : Int32)), .val (.int (if (cc = (p1 &&& (2147483647 : Int32)) ∧ dd = (p2 &&& (2147483647 : Int32))) then (1 : Int32) else (0 : Int32))), .unset, .unset, .unset, .unset]) rfl ?_
        show Steps p.tables e below (T24.setTop (mkF m 111 #[.val (.int p1), .val (.int p2), .val (.int p3), .val (.int p4), .val (.int p5), .val (.int (p1 &&& (2147483647 : Int32))), .val (.int (p2 &&& (2147483647 : Int32))), .val (.int cc), .val (.int dd), .val (.ref b19), .val (.ref b21), .val (.ref r23), .val (.int (0 : Int32)), .val (.int (if (cc = (p1 &&& (2147483647 : Int32)) ∧ dd = (p2 &&& (2147483647 : Int32))) then (1 : Int32) else (0 : Int32))), .unset, .unset, .unset, .unset] [])) _
        refine XS.aload X24.here hx rfl (hb hby at_111) rfl rfl ?_
        show Steps p.tables e below (T24.setTop (mkF m 113 #[.val (.int p1), .val (.int p2), .val (.int p3), .val (.int p4), .val (.int p5), .val (.int (p1 &&& (2147483647 : Int32))), .val (.int (p2 &&& (2147483647 : Int32))), .val (.int cc), .val (.int dd), .val (.ref b19), .val (.ref b21), .val (.ref r23), .val (.int (0 : Int32)), .val (.int (if (cc = (p1 &&& (2147483647 : Int32)) ∧ dd = (p2 &&& (2147483647 : Int32))) then (1 : Int32) else (0 : Int32))), .unset, .unset, .unset, .unset] [(.ref b21)])) _
        refine XS.aload X24.here hx rfl (hb hby at_113) rfl rfl ?_
        exact kt
      obtain ⟨cq25, kq25, q25a, q25b, q25c⟩ := isOf hZ e24 Ex2a
      obtain ⟨_, _, ⟨T25, L25, k25, n25⟩, -, X25, ⟨Lc25, hQ25, l25, y25, z25⟩, st25⟩ := X24.virtualBack hx (y := (⟨"com/example/fence_finder/fencefinder/model/FencePlace", "equals", "(Ljava/lang/Object;)Z"⟩ : MethodName)) (z := (⟨"com/example/fence_finder/fencefinder/model/FencePlace", "equals", "(Ljava/lang/Object;)Z"⟩ : MethodName)) hown (mvT hZ (hw _ (List.mem_of_getElem? (i := 26) rfl))) (mvT hZ (hw _ (List.mem_of_getElem? (i := 27) rfl))) (notFace_of_selects (args := #[]) (mvT hZ (hw _ (List.mem_of_getElem? (i := 29) rfl)))) (mvT hZ (hw _ (List.mem_of_getElem? (i := 29) rfl))) (mvT hZ (hw _ (List.mem_of_getElem? (i := 28) rfl))) (by decide) (backOf (W := 0) (eqA l Z a0 hw [] b21 b19 cc dd (p1 &&& (2147483647 : Int32)) (p2 &&& (2147483647 : Int32)) T23.heap n0 Z4 Ex1a Ft2a Fi2a Ft1a Fi1a) hZ (hw _ (List.mem_of_getElem? (i := 30) rfl)) (hw _ (List.mem_of_getElem? (i := 3) rfl)) (by decide) (by decide)) q25a q25c (g := (mkF m 115 #[.val (.int p1), .val (.int p2), .val (.int p3), .val (.int p4), .val (.int p5), .val (.int (p1 &&& (2147483647 : Int32))), .val (.int (p2 &&& (2147483647 : Int32))), .val (.int cc), .val (.int dd), .val (.ref b19), .val (.ref b21), .val (.ref r23), .val (.int (0 : Int32)), .val (.int (if (cc = (p1 &&& (2147483647 : Int32)) ∧ dd = (p2 &&& (2147483647 : Int32))) then (1 : Int32) else (0 : Int32))), .unset, .unset, .unset, .unset] [(.ref b19), (.ref b21)])) rfl (by rw [hml]; rfl) (Steps.refl _) (argsL := [(.ref b19)]) (rest := []) (lenOf pd_3 rfl) rfl (by show 2 * 0 + _ ≤ _; exact Nat.le_of_eq rfl) (hb hby at_115) (fun _ _ => ⟨rfl, e24, (by decide : 3 + 0 ≤ _), (by decide : 5 + 0 ≤ _)⟩)
      dsimp only [Pt.U, Pt.locs, Pt.cells, Pt.slots] at X25 l25 y25 z25 st25 hQ25
      subst l25 y25 z25
      obtain ⟨rfl, N25q, e25⟩ := hQ25
      have N25 := Fr.app N24 N25q
      refine Ends.st st25 ?_
      refine Ends.of (F' := T25.setTop (mkF m 124 #[.val (.int p1), .val (.int p2), .val (.int p3), .val (.int p4), .val (.int p5), .val (.int (p1 &&& (2147483647 : Int32))), .val (.int (p2 &&& (2147483647 : Int32))), .val (.int cc), .val (.int dd), .val (.ref b19), .val (.ref b21), .val (.ref r23), .val (.int (0 : Int32)), .val (.int (if (cc = (p1 &&& (2147483647 : Int32)) ∧ dd = (p2 &&& (2147483647 : Int32))) then (1 : Int32) else (0 : Int32))), .val (.int (if ((p1 &&& (2147483647 : Int32)) = cc ∧ (p2 &&& (2147483647 : Int32)) = dd) then (1 : Int32) else (0 : Int32))), .unset, .unset, .unset] [(.ref b19), (.ref b19)])) (fun _ kt => ?_) ?_
      · show Steps p.tables e below (T25.setTop (mkF m 118 #[.val (.int p1), .val (.int p2), .val (.int p3), .val (.int p4), .val (.int p5), .val (.int (p1 &&& (2147483647 : Int32))), .val (.int (p2 &&& (2147483647 : Int32))), .val (.int cc), .val (.int dd), .val (.ref b19), .val (.ref b21), .val (.ref r23), .val (.int (0 : Int32)), .val (.int (if (cc = (p1 &&& (2147483647 : Int32)) ∧ dd = (p2 &&& (2147483647 : Int32))) then (1 : Int32) else (0 : Int32))), .unset, .unset, .unset, .unset] [(.int (if ((p1 &&& (2147483647 : Int32)) = cc ∧ (p2 &&& (2147483647 : Int32)) = dd) then (1 : Int32) else (0 : Int32)))])) _
        refine XS.istore X25.here hx rfl (hb hby at_118) rfl (l' := #[.val (.int p1), .val (.int p2), .val (.int p3), .val (.int p4), .val (.int p5), .val (.int (p1 &&& (2147483647 : Int32))), .val (.int (p2 &&& (2147483647 : Int32))), .val (.int cc), .val (.int dd), .val (.ref b19), .val (.ref b21), .val (.ref r23), .val (.int (0 : Int32)), .val (.int (if (cc = (p1 &&& (2147483647 : Int32)) ∧ dd = (p2 &&& (2147483647 : Int32))) then (1 : Int32) else (0 : Int32))), .val (.int (if ((p1 &&& (2147483647 : Int32)) = cc ∧ (p2 &&& (2147483647 : Int32)) = dd) then (1 : Int32) else (0 : Int32))), .unset, .unset, .unset]) rfl ?_
        show Steps p.tables e below (T25.setTop (mkF m 120 #[.val (.int p1), .val (.int p2), .val (.int p3), .val (.int p4), .val (.int p5), .val (.int (p1 &&& (2147483647 : Int32))), .val (.int (p2 &&& (2147483647 : Int32))), .val (.int cc), .val (.int dd), .val (.ref b19), .val (.ref b21), .val (.ref r23), .val (.int (0 : Int32)), .val (.int (if (cc = (p1 &&& (2147483647 : Int32)) ∧ dd = (p2 &&& (2147483647 : Int32))) then (1 : Int32) else (0 : Int32))), .val (.int (if ((p1 &&& (2147483647 : Int32)) = cc ∧ (p2 &&& (2147483647 : Int32)) = dd) then (1 : Int32) else (0 : Int32))), .unset, .unset, .unset] [])) _
        refine XS.aload X25.here hx rfl (hb hby at_120) rfl rfl ?_
        show Steps p.tables e below (T25.setTop (mkF m 122 #[.val (.int p1), .val (.int p2), .val (.int p3), .val (.int p4), .val (.int p5), .val (.int (p1 &&& (2147483647 : Int32))), .val (.int (p2 &&& (2147483647 : Int32))), .val (.int cc), .val (.int dd), .val (.ref b19), .val (.ref b21), .val (.ref r23), .val (.int (0 : Int32)), .val (.int (if (cc = (p1 &&& (2147483647 : Int32)) ∧ dd = (p2 &&& (2147483647 : Int32))) then (1 : Int32) else (0 : Int32))), .val (.int (if ((p1 &&& (2147483647 : Int32)) = cc ∧ (p2 &&& (2147483647 : Int32)) = dd) then (1 : Int32) else (0 : Int32))), .unset, .unset, .unset] [(.ref b19)])) _
        refine XS.aload X25.here hx rfl (hb hby at_122) rfl rfl ?_
        exact kt
      obtain ⟨cq26, kq26, q26a, q26b, q26c⟩ := isOf hZ e25 Ex1a
      obtain ⟨_, _, ⟨T26, L26, k26, n26⟩, -, X26, ⟨Lc26, hQ26, l26, y26, z26⟩, st26⟩ := X25.virtualBack hx (y := (⟨"com/example/fence_finder/fencefinder/model/FencePlace", "equals", "(Ljava/lang/Object;)Z"⟩ : MethodName)) (z := (⟨"com/example/fence_finder/fencefinder/model/FencePlace", "equals", "(Ljava/lang/Object;)Z"⟩ : MethodName)) hown (mvT hZ (hw _ (List.mem_of_getElem? (i := 26) rfl))) (mvT hZ (hw _ (List.mem_of_getElem? (i := 27) rfl))) (notFace_of_selects (args := #[]) (mvT hZ (hw _ (List.mem_of_getElem? (i := 29) rfl)))) (mvT hZ (hw _ (List.mem_of_getElem? (i := 29) rfl))) (mvT hZ (hw _ (List.mem_of_getElem? (i := 28) rfl))) (by decide) (backOf (W := 0) (eqA l Z a0 hw [] b19 b19 (p1 &&& (2147483647 : Int32)) (p2 &&& (2147483647 : Int32)) (p1 &&& (2147483647 : Int32)) (p2 &&& (2147483647 : Int32)) T23.heap n0 Z4 Ex1a Ft1a Fi1a Ft1a Fi1a) hZ (hw _ (List.mem_of_getElem? (i := 30) rfl)) (hw _ (List.mem_of_getElem? (i := 3) rfl)) (by decide) (by decide)) q26a q26c (g := (mkF m 124 #[.val (.int p1), .val (.int p2), .val (.int p3), .val (.int p4), .val (.int p5), .val (.int (p1 &&& (2147483647 : Int32))), .val (.int (p2 &&& (2147483647 : Int32))), .val (.int cc), .val (.int dd), .val (.ref b19), .val (.ref b21), .val (.ref r23), .val (.int (0 : Int32)), .val (.int (if (cc = (p1 &&& (2147483647 : Int32)) ∧ dd = (p2 &&& (2147483647 : Int32))) then (1 : Int32) else (0 : Int32))), .val (.int (if ((p1 &&& (2147483647 : Int32)) = cc ∧ (p2 &&& (2147483647 : Int32)) = dd) then (1 : Int32) else (0 : Int32))), .unset, .unset, .unset] [(.ref b19), (.ref b19)])) rfl (by rw [hml]; rfl) (Steps.refl _) (argsL := [(.ref b19)]) (rest := []) (lenOf pd_3 rfl) rfl (by show 2 * 0 + _ ≤ _; exact Nat.le_of_eq rfl) (hb hby at_124) (fun _ _ => ⟨rfl, e25, (by decide : 3 + 0 ≤ _), (by decide : 5 + 0 ≤ _)⟩)
      dsimp only [Pt.U, Pt.locs, Pt.cells, Pt.slots] at X26 l26 y26 z26 st26 hQ26
      subst l26 y26 z26
      obtain ⟨rfl, N26q, e26⟩ := hQ26
      have N26 := Fr.app N25 N26q
      refine Ends.st st26 ?_
      refine Ends.of (F' := T26.setTop (mkF m 132 #[.val (.int p1), .val (.int p2), .val (.int p3), .val (.int p4), .val (.int p5), .val (.int (p1 &&& (2147483647 : Int32))), .val (.int (p2 &&& (2147483647 : Int32))), .val (.int cc), .val (.int dd), .val (.ref b19), .val (.ref b21), .val (.ref r23), .val (.int (0 : Int32)), .val (.int (if (cc = (p1 &&& (2147483647 : Int32)) ∧ dd = (p2 &&& (2147483647 : Int32))) then (1 : Int32) else (0 : Int32))), .val (.int (if ((p1 &&& (2147483647 : Int32)) = cc ∧ (p2 &&& (2147483647 : Int32)) = dd) then (1 : Int32) else (0 : Int32))), .val (.int (if ((p1 &&& (2147483647 : Int32)) = (p1 &&& (2147483647 : Int32)) ∧ (p2 &&& (2147483647 : Int32)) = (p2 &&& (2147483647 : Int32))) then (1 : Int32) else (0 : Int32))), .unset, .unset] [.null, (.ref b19)])) (fun _ kt => ?_) ?_
      · show Steps p.tables e below (T26.setTop (mkF m 127 #[.val (.int p1), .val (.int p2), .val (.int p3), .val (.int p4), .val (.int p5), .val (.int (p1 &&& (2147483647 : Int32))), .val (.int (p2 &&& (2147483647 : Int32))), .val (.int cc), .val (.int dd), .val (.ref b19), .val (.ref b21), .val (.ref r23), .val (.int (0 : Int32)), .val (.int (if (cc = (p1 &&& (2147483647 : Int32)) ∧ dd = (p2 &&& (2147483647 : Int32))) then (1 : Int32) else (0 : Int32))), .val (.int (if ((p1 &&& (2147483647 : Int32)) = cc ∧ (p2 &&& (2147483647 : Int32)) = dd) then (1 : Int32) else (0 : Int32))), .unset, .unset, .unset] [(.int (if ((p1 &&& (2147483647 : Int32)) = (p1 &&& (2147483647 : Int32)) ∧ (p2 &&& (2147483647 : Int32)) = (p2 &&& (2147483647 : Int32))) then (1 : Int32) else (0 : Int32)))])) _
        refine XS.istore X26.here hx rfl (hb hby at_127) rfl (l' := #[.val (.int p1), .val (.int p2), .val (.int p3), .val (.int p4), .val (.int p5), .val (.int (p1 &&& (2147483647 : Int32))), .val (.int (p2 &&& (2147483647 : Int32))), .val (.int cc), .val (.int dd), .val (.ref b19), .val (.ref b21), .val (.ref r23), .val (.int (0 : Int32)), .val (.int (if (cc = (p1 &&& (2147483647 : Int32)) ∧ dd = (p2 &&& (2147483647 : Int32))) then (1 : Int32) else (0 : Int32))), .val (.int (if ((p1 &&& (2147483647 : Int32)) = cc ∧ (p2 &&& (2147483647 : Int32)) = dd) then (1 : Int32) else (0 : Int32))), .val (.int (if ((p1 &&& (2147483647 : Int32)) = (p1 &&& (2147483647 : Int32)) ∧ (p2 &&& (2147483647 : Int32)) = (p2 &&& (2147483647 : Int32))) then (1 : Int32) else (0 : Int32))), .unset, .unset]) rfl ?_
        show Steps p.tables e below (T26.setTop (mkF m 129 #[.val (.int p1), .val (.int p2), .val (.int p3), .val (.int p4), .val (.int p5), .val (.int (p1 &&& (2147483647 : Int32))), .val (.int (p2 &&& (2147483647 : Int32))), .val (.int cc), .val (.int dd), .val (.ref b19), .val (.ref b21), .val (.ref r23), .val (.int (0 : Int32)), .val (.int (if (cc = (p1 &&& (2147483647 : Int32)) ∧ dd = (p2 &&& (2147483647 : Int32))) then (1 : Int32) else (0 : Int32))), .val (.int (if ((p1 &&& (2147483647 : Int32)) = cc ∧ (p2 &&& (2147483647 : Int32)) = dd) then (1 : Int32) else (0 : Int32))), .val (.int (if ((p1 &&& (2147483647 : Int32)) = (p1 &&& (2147483647 : Int32)) ∧ (p2 &&& (2147483647 : Int32)) = (p2 &&& (2147483647 : Int32))) then (1 : Int32) else (0 : Int32))), .unset, .unset] [])) _
        refine XS.aload X26.here hx rfl (hb hby at_129) rfl rfl ?_
        show Steps p.tables e below (T26.setTop (mkF m 131 #[.val (.int p1), .val (.int p2), .val (.int p3), .val (.int p4), .val (.int p5), .val (.int (p1 &&& (2147483647 : Int32))), .val (.int (p2 &&& (2147483647 : Int32))), .val (.int cc), .val (.int dd), .val (.ref b19), .val (.ref b21), .val (.ref r23), .val (.int (0 : Int32)), .val (.int (if (cc = (p1 &&& (2147483647 : Int32)) ∧ dd = (p2 &&& (2147483647 : Int32))) then (1 : Int32) else (0 : Int32))), .val (.int (if ((p1 &&& (2147483647 : Int32)) = cc ∧ (p2 &&& (2147483647 : Int32)) = dd) then (1 : Int32) else (0 : Int32))), .val (.int (if ((p1 &&& (2147483647 : Int32)) = (p1 &&& (2147483647 : Int32)) ∧ (p2 &&& (2147483647 : Int32)) = (p2 &&& (2147483647 : Int32))) then (1 : Int32) else (0 : Int32))), .unset, .unset] [(.ref b19)])) _
        refine XS.aconstNull X26.here hx rfl (hb hby at_131) ?_
        exact kt
      obtain ⟨cq27, kq27, q27a, q27b, q27c⟩ := isOf hZ e26 Ex1a
      obtain ⟨_, _, ⟨T27, L27, k27, n27⟩, -, X27, ⟨Lc27, hQ27, l27, y27, z27⟩, st27⟩ := X26.virtualBack hx (y := (⟨"com/example/fence_finder/fencefinder/model/FencePlace", "equals", "(Ljava/lang/Object;)Z"⟩ : MethodName)) (z := (⟨"com/example/fence_finder/fencefinder/model/FencePlace", "equals", "(Ljava/lang/Object;)Z"⟩ : MethodName)) hown (mvT hZ (hw _ (List.mem_of_getElem? (i := 26) rfl))) (mvT hZ (hw _ (List.mem_of_getElem? (i := 27) rfl))) (notFace_of_selects (args := #[]) (mvT hZ (hw _ (List.mem_of_getElem? (i := 29) rfl)))) (mvT hZ (hw _ (List.mem_of_getElem? (i := 29) rfl))) (mvT hZ (hw _ (List.mem_of_getElem? (i := 28) rfl))) (by decide) (backOf (W := 0) (eqN l Z a0 hw [] b19 T23.heap n0 Z4) hZ (hw _ (List.mem_of_getElem? (i := 30) rfl)) (hw _ (List.mem_of_getElem? (i := 3) rfl)) (by decide) (by decide)) q27a q27c (g := (mkF m 132 #[.val (.int p1), .val (.int p2), .val (.int p3), .val (.int p4), .val (.int p5), .val (.int (p1 &&& (2147483647 : Int32))), .val (.int (p2 &&& (2147483647 : Int32))), .val (.int cc), .val (.int dd), .val (.ref b19), .val (.ref b21), .val (.ref r23), .val (.int (0 : Int32)), .val (.int (if (cc = (p1 &&& (2147483647 : Int32)) ∧ dd = (p2 &&& (2147483647 : Int32))) then (1 : Int32) else (0 : Int32))), .val (.int (if ((p1 &&& (2147483647 : Int32)) = cc ∧ (p2 &&& (2147483647 : Int32)) = dd) then (1 : Int32) else (0 : Int32))), .val (.int (if ((p1 &&& (2147483647 : Int32)) = (p1 &&& (2147483647 : Int32)) ∧ (p2 &&& (2147483647 : Int32)) = (p2 &&& (2147483647 : Int32))) then (1 : Int32) else (0 : Int32))), .unset, .unset] [.null, (.ref b19)])) rfl (by rw [hml]; rfl) (Steps.refl _) (argsL := [.null]) (rest := []) (lenOf pd_3 rfl) rfl (by show 2 * 0 + _ ≤ _; exact Nat.le_of_eq rfl) (hb hby at_132) (fun _ _ => ⟨rfl, e26, (by decide : 3 + 0 ≤ _), (by decide : 5 + 0 ≤ _)⟩)
      dsimp only [Pt.U, Pt.locs, Pt.cells, Pt.slots] at X27 l27 y27 z27 st27 hQ27
      subst l27 y27 z27
      obtain ⟨rfl, N27q, e27⟩ := hQ27
      have N27 := Fr.app N26 N27q
      refine Ends.st st27 ?_
      refine Ends.of (F' := T27.setTop (mkF m 141 #[.val (.int p1), .val (.int p2), .val (.int p3), .val (.int p4), .val (.int p5), .val (.int (p1 &&& (2147483647 : Int32))), .val (.int (p2 &&& (2147483647 : Int32))), .val (.int cc), .val (.int dd), .val (.ref b19), .val (.ref b21), .val (.ref r23), .val (.int (0 : Int32)), .val (.int (if (cc = (p1 &&& (2147483647 : Int32)) ∧ dd = (p2 &&& (2147483647 : Int32))) then (1 : Int32) else (0 : Int32))), .val (.int (if ((p1 &&& (2147483647 : Int32)) = cc ∧ (p2 &&& (2147483647 : Int32)) = dd) then (1 : Int32) else (0 : Int32))), .val (.int (if ((p1 &&& (2147483647 : Int32)) = (p1 &&& (2147483647 : Int32)) ∧ (p2 &&& (2147483647 : Int32)) = (p2 &&& (2147483647 : Int32))) then (1 : Int32) else (0 : Int32))), .val (.int (0 : Int32)), .unset] [(.ref r23), (.ref b19)])) (fun _ kt => ?_) ?_
      · show Steps p.tables e below (T27.setTop (mkF m 135 #[.val (.int p1), .val (.int p2), .val (.int p3), .val (.int p4), .val (.int p5), .val (.int (p1 &&& (2147483647 : Int32))), .val (.int (p2 &&& (2147483647 : Int32))), .val (.int cc), .val (.int dd), .val (.ref b19), .val (.ref b21), .val (.ref r23), .val (.int (0 : Int32)), .val (.int (if (cc = (p1 &&& (2147483647 : Int32)) ∧ dd = (p2 &&& (2147483647 : Int32))) then (1 : Int32) else (0 : Int32))), .val (.int (if ((p1 &&& (2147483647 : Int32)) = cc ∧ (p2 &&& (2147483647 : Int32)) = dd) then (1 : Int32) else (0 : Int32))), .val (.int (if ((p1 &&& (2147483647 : Int32)) = (p1 &&& (2147483647 : Int32)) ∧ (p2 &&& (2147483647 : Int32)) = (p2 &&& (2147483647 : Int32))) then (1 : Int32) else (0 : Int32))), .unset, .unset] [(.int (0 : Int32))])) _
        refine XS.istore X27.here hx rfl (hb hby at_135) rfl (l' := #[.val (.int p1), .val (.int p2), .val (.int p3), .val (.int p4), .val (.int p5), .val (.int (p1 &&& (2147483647 : Int32))), .val (.int (p2 &&& (2147483647 : Int32))), .val (.int cc), .val (.int dd), .val (.ref b19), .val (.ref b21), .val (.ref r23), .val (.int (0 : Int32)), .val (.int (if (cc = (p1 &&& (2147483647 : Int32)) ∧ dd = (p2 &&& (2147483647 : Int32))) then (1 : Int32) else (0 : Int32))), .val (.int (if ((p1 &&& (2147483647 : Int32)) = cc ∧ (p2 &&& (2147483647 : Int32)) = dd) then (1 : Int32) else (0 : Int32))), .val (.int (if ((p1 &&& (2147483647 : Int32)) = (p1 &&& (2147483647 : Int32)) ∧ (p2 &&& (2147483647 : Int32)) = (p2 &&& (2147483647 : Int32))) then (1 : Int32) else (0 : Int32))), .val (.int (0 : Int32)), .unset]) rfl ?_
        show Steps p.tables e below (T27.setTop (mkF m 137 #[.val (.int p1), .val (.int p2), .val (.int p3), .val (.int p4), .val (.int p5), .val (.int (p1 &&& (2147483647 : Int32))), .val (.int (p2 &&& (2147483647 : Int32))), .val (.int cc), .val (.int dd), .val (.ref b19), .val (.ref b21), .val (.ref r23), .val (.int (0 : Int32)), .val (.int (if (cc = (p1 &&& (2147483647 : Int32)) ∧ dd = (p2 &&& (2147483647 : Int32))) then (1 : Int32) else (0 : Int32))), .val (.int (if ((p1 &&& (2147483647 : Int32)) = cc ∧ (p2 &&& (2147483647 : Int32)) = dd) then (1 : Int32) else (0 : Int32))), .val (.int (if ((p1 &&& (2147483647 : Int32)) = (p1 &&& (2147483647 : Int32)) ∧ (p2 &&& (2147483647 : Int32)) = (p2 &&& (2147483647 : Int32))) then (1 : Int32) else (0 : Int32))), .val (.int (0 : Int32)), .unset] [])) _
        refine XS.aload X27.here hx rfl (hb hby at_137) rfl rfl ?_
        show Steps p.tables e below (T27.setTop (mkF m 139 #[.val (.int p1), .val (.int p2), .val (.int p3), .val (.int p4), .val (.int p5), .val (.int (p1 &&& (2147483647 : Int32))), .val (.int (p2 &&& (2147483647 : Int32))), .val (.int cc), .val (.int dd), .val (.ref b19), .val (.ref b21), .val (.ref r23), .val (.int (0 : Int32)), .val (.int (if (cc = (p1 &&& (2147483647 : Int32)) ∧ dd = (p2 &&& (2147483647 : Int32))) then (1 : Int32) else (0 : Int32))), .val (.int (if ((p1 &&& (2147483647 : Int32)) = cc ∧ (p2 &&& (2147483647 : Int32)) = dd) then (1 : Int32) else (0 : Int32))), .val (.int (if ((p1 &&& (2147483647 : Int32)) = (p1 &&& (2147483647 : Int32)) ∧ (p2 &&& (2147483647 : Int32)) = (p2 &&& (2147483647 : Int32))) then (1 : Int32) else (0 : Int32))), .val (.int (0 : Int32)), .unset] [(.ref b19)])) _
        refine XS.aload X27.here hx rfl (hb hby at_139) rfl rfl ?_
        exact kt
      obtain ⟨cq28, kq28, q28a, q28b, q28c⟩ := isOf hZ e27 Ex1a
      obtain ⟨_, _, ⟨T28, L28, k28, n28⟩, -, X28, ⟨Lc28, hQ28, l28, y28, z28⟩, st28⟩ := X27.virtualBack hx (y := (⟨"com/example/fence_finder/fencefinder/model/FencePlace", "equals", "(Ljava/lang/Object;)Z"⟩ : MethodName)) (z := (⟨"com/example/fence_finder/fencefinder/model/FencePlace", "equals", "(Ljava/lang/Object;)Z"⟩ : MethodName)) hown (mvT hZ (hw _ (List.mem_of_getElem? (i := 26) rfl))) (mvT hZ (hw _ (List.mem_of_getElem? (i := 27) rfl))) (notFace_of_selects (args := #[]) (mvT hZ (hw _ (List.mem_of_getElem? (i := 29) rfl)))) (mvT hZ (hw _ (List.mem_of_getElem? (i := 29) rfl))) (mvT hZ (hw _ (List.mem_of_getElem? (i := 28) rfl))) (by decide) (backOf (W := 0) (eqO l Z a0 hw [] b19 r23 T23.heap n0 Z4 Er23) hZ (hw _ (List.mem_of_getElem? (i := 30) rfl)) (hw _ (List.mem_of_getElem? (i := 3) rfl)) (by decide) (by decide)) q28a q28c (g := (mkF m 141 #[.val (.int p1), .val (.int p2), .val (.int p3), .val (.int p4), .val (.int p5), .val (.int (p1 &&& (2147483647 : Int32))), .val (.int (p2 &&& (2147483647 : Int32))), .val (.int cc), .val (.int dd), .val (.ref b19), .val (.ref b21), .val (.ref r23), .val (.int (0 : Int32)), .val (.int (if (cc = (p1 &&& (2147483647 : Int32)) ∧ dd = (p2 &&& (2147483647 : Int32))) then (1 : Int32) else (0 : Int32))), .val (.int (if ((p1 &&& (2147483647 : Int32)) = cc ∧ (p2 &&& (2147483647 : Int32)) = dd) then (1 : Int32) else (0 : Int32))), .val (.int (if ((p1 &&& (2147483647 : Int32)) = (p1 &&& (2147483647 : Int32)) ∧ (p2 &&& (2147483647 : Int32)) = (p2 &&& (2147483647 : Int32))) then (1 : Int32) else (0 : Int32))), .val (.int (0 : Int32)), .unset] [(.ref r23), (.ref b19)])) rfl (by rw [hml]; rfl) (Steps.refl _) (argsL := [(.ref r23)]) (rest := []) (lenOf pd_3 rfl) rfl (by show 2 * 0 + _ ≤ _; exact Nat.le_of_eq rfl) (hb hby at_141) (fun _ _ => ⟨rfl, e27, (by decide : 3 + 0 ≤ _), (by decide : 5 + 0 ≤ _)⟩)
      dsimp only [Pt.U, Pt.locs, Pt.cells, Pt.slots] at X28 l28 y28 z28 st28 hQ28
      subst l28 y28 z28
      obtain ⟨rfl, N28q, e28⟩ := hQ28
      have N28 := Fr.app N27 N28q
      refine Ends.st st28 ?_
      refine Ends.of (F' := T28.setTop (mkF m 180 #[.val (.int p1), .val (.int p2), .val (.int p3), .val (.int p4), .val (.int p5), .val (.int (p1 &&& (2147483647 : Int32))), .val (.int (p2 &&& (2147483647 : Int32))), .val (.int cc), .val (.int dd), .val (.ref b19), .val (.ref b21), .val (.ref r23), .val (.int (0 : Int32)), .val (.int (if (cc = (p1 &&& (2147483647 : Int32)) ∧ dd = (p2 &&& (2147483647 : Int32))) then (1 : Int32) else (0 : Int32))), .val (.int (if ((p1 &&& (2147483647 : Int32)) = cc ∧ (p2 &&& (2147483647 : Int32)) = dd) then (1 : Int32) else (0 : Int32))), .val (.int (if ((p1 &&& (2147483647 : Int32)) = (p1 &&& (2147483647 : Int32)) ∧ (p2 &&& (2147483647 : Int32)) = (p2 &&& (2147483647 : Int32))) then (1 : Int32) else (0 : Int32))), .val (.int (0 : Int32)), .val (.int (0 : Int32))] [(.int (1 : Int32))])) (fun _ kt => ?_) ?_
      · show Steps p.tables e below (T28.setTop (mkF m 144 #[.val (.int p1), .val (.int p2), .val (.int p3), .val (.int p4), .val (.int p5), .val (.int (p1 &&& (2147483647 : Int32))), .val (.int (p2 &&& (2147483647 : Int32))), .val (.int cc), .val (.int dd), .val (.ref b19), .val (.ref b21), .val (.ref r23), .val (.int (0 : Int32)), .val (.int (if (cc = (p1 &&& (2147483647 : Int32)) ∧ dd = (p2 &&& (2147483647 : Int32))) then (1 : Int32) else (0 : Int32))), .val (.int (if ((p1 &&& (2147483647 : Int32)) = cc ∧ (p2 &&& (2147483647 : Int32)) = dd) then (1 : Int32) else (0 : Int32))), .val (.int (if ((p1 &&& (2147483647 : Int32)) = (p1 &&& (2147483647 : Int32)) ∧ (p2 &&& (2147483647 : Int32)) = (p2 &&& (2147483647 : Int32))) then (1 : Int32) else (0 : Int32))), .val (.int (0 : Int32)), .unset] [(.int (0 : Int32))])) _
        refine XS.istore X28.here hx rfl (hb hby at_144) rfl (l' := #[.val (.int p1), .val (.int p2), .val (.int p3), .val (.int p4), .val (.int p5), .val (.int (p1 &&& (2147483647 : Int32))), .val (.int (p2 &&& (2147483647 : Int32))), .val (.int cc), .val (.int dd), .val (.ref b19), .val (.ref b21), .val (.ref r23), .val (.int (0 : Int32)), .val (.int (if (cc = (p1 &&& (2147483647 : Int32)) ∧ dd = (p2 &&& (2147483647 : Int32))) then (1 : Int32) else (0 : Int32))), .val (.int (if ((p1 &&& (2147483647 : Int32)) = cc ∧ (p2 &&& (2147483647 : Int32)) = dd) then (1 : Int32) else (0 : Int32))), .val (.int (if ((p1 &&& (2147483647 : Int32)) = (p1 &&& (2147483647 : Int32)) ∧ (p2 &&& (2147483647 : Int32)) = (p2 &&& (2147483647 : Int32))) then (1 : Int32) else (0 : Int32))), .val (.int (0 : Int32)), .val (.int (0 : Int32))]) rfl ?_
        show Steps p.tables e below (T28.setTop (mkF m 146 #[.val (.int p1), .val (.int p2), .val (.int p3), .val (.int p4), .val (.int p5), .val (.int (p1 &&& (2147483647 : Int32))), .val (.int (p2 &&& (2147483647 : Int32))), .val (.int cc), .val (.int dd), .val (.ref b19), .val (.ref b21), .val (.ref r23), .val (.int (0 : Int32)), .val (.int (if (cc = (p1 &&& (2147483647 : Int32)) ∧ dd = (p2 &&& (2147483647 : Int32))) then (1 : Int32) else (0 : Int32))), .val (.int (if ((p1 &&& (2147483647 : Int32)) = cc ∧ (p2 &&& (2147483647 : Int32)) = dd) then (1 : Int32) else (0 : Int32))), .val (.int (if ((p1 &&& (2147483647 : Int32)) = (p1 &&& (2147483647 : Int32)) ∧ (p2 &&& (2147483647 : Int32)) = (p2 &&& (2147483647 : Int32))) then (1 : Int32) else (0 : Int32))), .val (.int (0 : Int32)), .val (.int (0 : Int32))] [])) _
        refine XS.iload X28.here hx rfl (hb hby at_146) rfl ?_
        show Steps p.tables e below (T28.setTop (mkF m 148 #[.val (.int p1), .val (.int p2), .val (.int p3), .val (.int p4), .val (.int p5), .val (.int (p1 &&& (2147483647 : Int32))), .val (.int (p2 &&& (2147483647 : Int32))), .val (.int cc), .val (.int dd), .val (.ref b19), .val (.ref b21), .val (.ref r23), .val (.int (0 : Int32)), .val (.int (if (cc = (p1 &&& (2147483647 : Int32)) ∧ dd = (p2 &&& (2147483647 : Int32))) then (1 : Int32) else (0 : Int32))), .val (.int (if ((p1 &&& (2147483647 : Int32)) = cc ∧ (p2 &&& (2147483647 : Int32)) = dd) then (1 : Int32) else (0 : Int32))), .val (.int (if ((p1 &&& (2147483647 : Int32)) = (p1 &&& (2147483647 : Int32)) ∧ (p2 &&& (2147483647 : Int32)) = (p2 &&& (2147483647 : Int32))) then (1 : Int32) else (0 : Int32))), .val (.int (0 : Int32)), .val (.int (0 : Int32))] [(.int (if (cc = (p1 &&& (2147483647 : Int32)) ∧ dd = (p2 &&& (2147483647 : Int32))) then (1 : Int32) else (0 : Int32)))])) _
        refine XS.iload X28.here hx rfl (hb hby at_148) rfl ?_
        show Steps p.tables e below (T28.setTop (mkF m 150 #[.val (.int p1), .val (.int p2), .val (.int p3), .val (.int p4), .val (.int p5), .val (.int (p1 &&& (2147483647 : Int32))), .val (.int (p2 &&& (2147483647 : Int32))), .val (.int cc), .val (.int dd), .val (.ref b19), .val (.ref b21), .val (.ref r23), .val (.int (0 : Int32)), .val (.int (if (cc = (p1 &&& (2147483647 : Int32)) ∧ dd = (p2 &&& (2147483647 : Int32))) then (1 : Int32) else (0 : Int32))), .val (.int (if ((p1 &&& (2147483647 : Int32)) = cc ∧ (p2 &&& (2147483647 : Int32)) = dd) then (1 : Int32) else (0 : Int32))), .val (.int (if ((p1 &&& (2147483647 : Int32)) = (p1 &&& (2147483647 : Int32)) ∧ (p2 &&& (2147483647 : Int32)) = (p2 &&& (2147483647 : Int32))) then (1 : Int32) else (0 : Int32))), .val (.int (0 : Int32)), .val (.int (0 : Int32))] [(.int (0 : Int32)), (.int (if (cc = (p1 &&& (2147483647 : Int32)) ∧ dd = (p2 &&& (2147483647 : Int32))) then (1 : Int32) else (0 : Int32)))])) _
        refine XS.icmpNo X28.here hx rfl (hb hby at_150) rfl (teq (if_neg (fun q => hac q.1.symm))).2 ?_
        show Steps p.tables e below (T28.setTop (mkF m 153 #[.val (.int p1), .val (.int p2), .val (.int p3), .val (.int p4), .val (.int p5), .val (.int (p1 &&& (2147483647 : Int32))), .val (.int (p2 &&& (2147483647 : Int32))), .val (.int cc), .val (.int dd), .val (.ref b19), .val (.ref b21), .val (.ref r23), .val (.int (0 : Int32)), .val (.int (if (cc = (p1 &&& (2147483647 : Int32)) ∧ dd = (p2 &&& (2147483647 : Int32))) then (1 : Int32) else (0 : Int32))), .val (.int (if ((p1 &&& (2147483647 : Int32)) = cc ∧ (p2 &&& (2147483647 : Int32)) = dd) then (1 : Int32) else (0 : Int32))), .val (.int (if ((p1 &&& (2147483647 : Int32)) = (p1 &&& (2147483647 : Int32)) ∧ (p2 &&& (2147483647 : Int32)) = (p2 &&& (2147483647 : Int32))) then (1 : Int32) else (0 : Int32))), .val (.int (0 : Int32)), .val (.int (0 : Int32))] [])) _
        refine XS.iload X28.here hx rfl (hb hby at_153) rfl ?_
        show Steps p.tables e below (T28.setTop (mkF m 155 #[.val (.int p1), .val (.int p2), .val (.int p3), .val (.int p4), .val (.int p5), .val (.int (p1 &&& (2147483647 : Int32))), .val (.int (p2 &&& (2147483647 : Int32))), .val (.int cc), .val (.int dd), .val (.ref b19), .val (.ref b21), .val (.ref r23), .val (.int (0 : Int32)), .val (.int (if (cc = (p1 &&& (2147483647 : Int32)) ∧ dd = (p2 &&& (2147483647 : Int32))) then (1 : Int32) else (0 : Int32))), .val (.int (if ((p1 &&& (2147483647 : Int32)) = cc ∧ (p2 &&& (2147483647 : Int32)) = dd) then (1 : Int32) else (0 : Int32))), .val (.int (if ((p1 &&& (2147483647 : Int32)) = (p1 &&& (2147483647 : Int32)) ∧ (p2 &&& (2147483647 : Int32)) = (p2 &&& (2147483647 : Int32))) then (1 : Int32) else (0 : Int32))), .val (.int (0 : Int32)), .val (.int (0 : Int32))] [(.int (if ((p1 &&& (2147483647 : Int32)) = cc ∧ (p2 &&& (2147483647 : Int32)) = dd) then (1 : Int32) else (0 : Int32)))])) _
        refine XS.iload X28.here hx rfl (hb hby at_155) rfl ?_
        show Steps p.tables e below (T28.setTop (mkF m 157 #[.val (.int p1), .val (.int p2), .val (.int p3), .val (.int p4), .val (.int p5), .val (.int (p1 &&& (2147483647 : Int32))), .val (.int (p2 &&& (2147483647 : Int32))), .val (.int cc), .val (.int dd), .val (.ref b19), .val (.ref b21), .val (.ref r23), .val (.int (0 : Int32)), .val (.int (if (cc = (p1 &&& (2147483647 : Int32)) ∧ dd = (p2 &&& (2147483647 : Int32))) then (1 : Int32) else (0 : Int32))), .val (.int (if ((p1 &&& (2147483647 : Int32)) = cc ∧ (p2 &&& (2147483647 : Int32)) = dd) then (1 : Int32) else (0 : Int32))), .val (.int (if ((p1 &&& (2147483647 : Int32)) = (p1 &&& (2147483647 : Int32)) ∧ (p2 &&& (2147483647 : Int32)) = (p2 &&& (2147483647 : Int32))) then (1 : Int32) else (0 : Int32))), .val (.int (0 : Int32)), .val (.int (0 : Int32))] [(.int (0 : Int32)), (.int (if ((p1 &&& (2147483647 : Int32)) = cc ∧ (p2 &&& (2147483647 : Int32)) = dd) then (1 : Int32) else (0 : Int32)))])) _
        refine XS.icmpNo X28.here hx rfl (hb hby at_157) rfl (teq (if_neg (fun q => hac q.1))).2 ?_
        show Steps p.tables e below (T28.setTop (mkF m 160 #[.val (.int p1), .val (.int p2), .val (.int p3), .val (.int p4), .val (.int p5), .val (.int (p1 &&& (2147483647 : Int32))), .val (.int (p2 &&& (2147483647 : Int32))), .val (.int cc), .val (.int dd), .val (.ref b19), .val (.ref b21), .val (.ref r23), .val (.int (0 : Int32)), .val (.int (if (cc = (p1 &&& (2147483647 : Int32)) ∧ dd = (p2 &&& (2147483647 : Int32))) then (1 : Int32) else (0 : Int32))), .val (.int (if ((p1 &&& (2147483647 : Int32)) = cc ∧ (p2 &&& (2147483647 : Int32)) = dd) then (1 : Int32) else (0 : Int32))), .val (.int (if ((p1 &&& (2147483647 : Int32)) = (p1 &&& (2147483647 : Int32)) ∧ (p2 &&& (2147483647 : Int32)) = (p2 &&& (2147483647 : Int32))) then (1 : Int32) else (0 : Int32))), .val (.int (0 : Int32)), .val (.int (0 : Int32))] [])) _
        refine XS.iload X28.here hx rfl (hb hby at_160) rfl ?_
        show Steps p.tables e below (T28.setTop (mkF m 162 #[.val (.int p1), .val (.int p2), .val (.int p3), .val (.int p4), .val (.int p5), .val (.int (p1 &&& (2147483647 : Int32))), .val (.int (p2 &&& (2147483647 : Int32))), .val (.int cc), .val (.int dd), .val (.ref b19), .val (.ref b21), .val (.ref r23), .val (.int (0 : Int32)), .val (.int (if (cc = (p1 &&& (2147483647 : Int32)) ∧ dd = (p2 &&& (2147483647 : Int32))) then (1 : Int32) else (0 : Int32))), .val (.int (if ((p1 &&& (2147483647 : Int32)) = cc ∧ (p2 &&& (2147483647 : Int32)) = dd) then (1 : Int32) else (0 : Int32))), .val (.int (if ((p1 &&& (2147483647 : Int32)) = (p1 &&& (2147483647 : Int32)) ∧ (p2 &&& (2147483647 : Int32)) = (p2 &&& (2147483647 : Int32))) then (1 : Int32) else (0 : Int32))), .val (.int (0 : Int32)), .val (.int (0 : Int32))] [(.int (if ((p1 &&& (2147483647 : Int32)) = (p1 &&& (2147483647 : Int32)) ∧ (p2 &&& (2147483647 : Int32)) = (p2 &&& (2147483647 : Int32))) then (1 : Int32) else (0 : Int32)))])) _
        refine XS.ifNo X28.here hx rfl (hb hby at_162) rfl ((if0 _ _).trans (feq (by rw [if_pos ⟨rfl, rfl⟩]; decide)).1) ?_
        show Steps p.tables e below (T28.setTop (mkF m 165 #[.val (.int p1), .val (.int p2), .val (.int p3), .val (.int p4), .val (.int p5), .val (.int (p1 &&& (2147483647 : Int32))), .val (.int (p2 &&& (2147483647 : Int32))), .val (.int cc), .val (.int dd), .val (.ref b19), .val (.ref b21), .val (.ref r23), .val (.int (0 : Int32)), .val (.int (if (cc = (p1 &&& (2147483647 : Int32)) ∧ dd = (p2 &&& (2147483647 : Int32))) then (1 : Int32) else (0 : Int32))), .val (.int (if ((p1 &&& (2147483647 : Int32)) = cc ∧ (p2 &&& (2147483647 : Int32)) = dd) then (1 : Int32) else (0 : Int32))), .val (.int (if ((p1 &&& (2147483647 : Int32)) = (p1 &&& (2147483647 : Int32)) ∧ (p2 &&& (2147483647 : Int32)) = (p2 &&& (2147483647 : Int32))) then (1 : Int32) else (0 : Int32))), .val (.int (0 : Int32)), .val (.int (0 : Int32))] [])) _
        refine XS.iload X28.here hx rfl (hb hby at_165) rfl ?_
        show Steps p.tables e below (T28.setTop (mkF m 167 #[.val (.int p1), .val (.int p2), .val (.int p3), .val (.int p4), .val (.int p5), .val (.int (p1 &&& (2147483647 : Int32))), .val (.int (p2 &&& (2147483647 : Int32))), .val (.int cc), .val (.int dd), .val (.ref b19), .val (.ref b21), .val (.ref r23), .val (.int (0 : Int32)), .val (.int (if (cc = (p1 &&& (2147483647 : Int32)) ∧ dd = (p2 &&& (2147483647 : Int32))) then (1 : Int32) else (0 : Int32))), .val (.int (if ((p1 &&& (2147483647 : Int32)) = cc ∧ (p2 &&& (2147483647 : Int32)) = dd) then (1 : Int32) else (0 : Int32))), .val (.int (if ((p1 &&& (2147483647 : Int32)) = (p1 &&& (2147483647 : Int32)) ∧ (p2 &&& (2147483647 : Int32)) = (p2 &&& (2147483647 : Int32))) then (1 : Int32) else (0 : Int32))), .val (.int (0 : Int32)), .val (.int (0 : Int32))] [(.int (0 : Int32))])) _
        refine XS.ifNo X28.here hx rfl (hb hby at_167) rfl ((if0 _ _).trans (teq rfl).2) ?_
        show Steps p.tables e below (T28.setTop (mkF m 170 #[.val (.int p1), .val (.int p2), .val (.int p3), .val (.int p4), .val (.int p5), .val (.int (p1 &&& (2147483647 : Int32))), .val (.int (p2 &&& (2147483647 : Int32))), .val (.int cc), .val (.int dd), .val (.ref b19), .val (.ref b21), .val (.ref r23), .val (.int (0 : Int32)), .val (.int (if (cc = (p1 &&& (2147483647 : Int32)) ∧ dd = (p2 &&& (2147483647 : Int32))) then (1 : Int32) else (0 : Int32))), .val (.int (if ((p1 &&& (2147483647 : Int32)) = cc ∧ (p2 &&& (2147483647 : Int32)) = dd) then (1 : Int32) else (0 : Int32))), .val (.int (if ((p1 &&& (2147483647 : Int32)) = (p1 &&& (2147483647 : Int32)) ∧ (p2 &&& (2147483647 : Int32)) = (p2 &&& (2147483647 : Int32))) then (1 : Int32) else (0 : Int32))), .val (.int (0 : Int32)), .val (.int (0 : Int32))] [])) _
        refine XS.iload X28.here hx rfl (hb hby at_170) rfl ?_
        show Steps p.tables e below (T28.setTop (mkF m 172 #[.val (.int p1), .val (.int p2), .val (.int p3), .val (.int p4), .val (.int p5), .val (.int (p1 &&& (2147483647 : Int32))), .val (.int (p2 &&& (2147483647 : Int32))), .val (.int cc), .val (.int dd), .val (.ref b19), .val (.ref b21), .val (.ref r23), .val (.int (0 : Int32)), .val (.int (if (cc = (p1 &&& (2147483647 : Int32)) ∧ dd = (p2 &&& (2147483647 : Int32))) then (1 : Int32) else (0 : Int32))), .val (.int (if ((p1 &&& (2147483647 : Int32)) = cc ∧ (p2 &&& (2147483647 : Int32)) = dd) then (1 : Int32) else (0 : Int32))), .val (.int (if ((p1 &&& (2147483647 : Int32)) = (p1 &&& (2147483647 : Int32)) ∧ (p2 &&& (2147483647 : Int32)) = (p2 &&& (2147483647 : Int32))) then (1 : Int32) else (0 : Int32))), .val (.int (0 : Int32)), .val (.int (0 : Int32))] [(.int (0 : Int32))])) _
        refine XS.ifNo X28.here hx rfl (hb hby at_172) rfl ((if0 _ _).trans (teq rfl).2) ?_
        show Steps p.tables e below (T28.setTop (mkF m 175 #[.val (.int p1), .val (.int p2), .val (.int p3), .val (.int p4), .val (.int p5), .val (.int (p1 &&& (2147483647 : Int32))), .val (.int (p2 &&& (2147483647 : Int32))), .val (.int cc), .val (.int dd), .val (.ref b19), .val (.ref b21), .val (.ref r23), .val (.int (0 : Int32)), .val (.int (if (cc = (p1 &&& (2147483647 : Int32)) ∧ dd = (p2 &&& (2147483647 : Int32))) then (1 : Int32) else (0 : Int32))), .val (.int (if ((p1 &&& (2147483647 : Int32)) = cc ∧ (p2 &&& (2147483647 : Int32)) = dd) then (1 : Int32) else (0 : Int32))), .val (.int (if ((p1 &&& (2147483647 : Int32)) = (p1 &&& (2147483647 : Int32)) ∧ (p2 &&& (2147483647 : Int32)) = (p2 &&& (2147483647 : Int32))) then (1 : Int32) else (0 : Int32))), .val (.int (0 : Int32)), .val (.int (0 : Int32))] [])) _
        refine XS.iconst X28.here hx rfl (hb hby at_175) ?_
        show Steps p.tables e below (T28.setTop (mkF m 176 #[.val (.int p1), .val (.int p2), .val (.int p3), .val (.int p4), .val (.int p5), .val (.int (p1 &&& (2147483647 : Int32))), .val (.int (p2 &&& (2147483647 : Int32))), .val (.int cc), .val (.int dd), .val (.ref b19), .val (.ref b21), .val (.ref r23), .val (.int (0 : Int32)), .val (.int (if (cc = (p1 &&& (2147483647 : Int32)) ∧ dd = (p2 &&& (2147483647 : Int32))) then (1 : Int32) else (0 : Int32))), .val (.int (if ((p1 &&& (2147483647 : Int32)) = cc ∧ (p2 &&& (2147483647 : Int32)) = dd) then (1 : Int32) else (0 : Int32))), .val (.int (if ((p1 &&& (2147483647 : Int32)) = (p1 &&& (2147483647 : Int32)) ∧ (p2 &&& (2147483647 : Int32)) = (p2 &&& (2147483647 : Int32))) then (1 : Int32) else (0 : Int32))), .val (.int (0 : Int32)), .val (.int (0 : Int32))] [(.int (1 : Int32))])) _
        refine XS.goto X28.here hx rfl (pc0 := 176) (pc' := 180) rfl (hb hby at_176) (by decide) (by decide) ?_
        exact kt
      obtain ⟨fs, hr, hrun, hended, hW, hsame⟩ := X28.leave (v := some (.int (1 : Int32))) (fun h => by rw [Bd.returns] at h; cases h)
      exact ⟨_, _, retN X28 hx (t := .boolean) Bd.returns (by simp) (hb hby at_180) hr, hrun, hended, _, _, rfl, ⟨rfl, N28⟩, ⟨_, rfl⟩, hW, hsame.mono (by decide) (by decide)⟩
  by_cases hc16 : (p5 &&& (1 : Int32)) = (0 : Int32)
  · refine Ends.of (F' := s₁.setTop (mkF m 34 #[.val (.int p1), .val (.int p2), .val (.int p3), .val (.int p4), .val (.int p5), .val (.int (p1 &&& (2147483647 : Int32))), .val (.int (p2 &&& (2147483647 : Int32))), .val (.int (p3 &&& (2147483647 : Int32))), .unset, .unset, .unset, .unset, .unset, .unset, .unset, .unset, .unset, .unset] [(.int (p5 &&& (2 : Int32)))])) (fun _ kt => ?_) ?_
    · show Steps p.tables e below (s₁.setTop (mkF m 16 #[.val (.int p1), .val (.int p2), .val (.int p3), .val (.int p4), .val (.int p5), .val (.int (p1 &&& (2147483647 : Int32))), .val (.int (p2 &&& (2147483647 : Int32))), .unset, .unset, .unset, .unset, .unset, .unset, .unset, .unset, .unset, .unset, .unset] [(.int (p5 &&& (1 : Int32)))])) _
      refine XS.ifYes X0.here hx rfl (pc0 := 16) (pc' := 24) rfl (hb hby at_16) rfl ((if0 _ _).trans (teq hc16).1) (by decide) (by decide) ?_
      show Steps p.tables e below (s₁.setTop (mkF m 24 #[.val (.int p1), .val (.int p2), .val (.int p3), .val (.int p4), .val (.int p5), .val (.int (p1 &&& (2147483647 : Int32))), .val (.int (p2 &&& (2147483647 : Int32))), .unset, .unset, .unset, .unset, .unset, .unset, .unset, .unset, .unset, .unset, .unset] [])) _
      refine XS.iloadN X0.here hx rfl (hb hby at_24) rfl ?_
      show Steps p.tables e below (s₁.setTop (mkF m 25 #[.val (.int p1), .val (.int p2), .val (.int p3), .val (.int p4), .val (.int p5), .val (.int (p1 &&& (2147483647 : Int32))), .val (.int (p2 &&& (2147483647 : Int32))), .unset, .unset, .unset, .unset, .unset, .unset, .unset, .unset, .unset, .unset, .unset] [(.int p3)])) _
      refine X0.ldcInt hx hown (mvT hZ (hw _ (List.mem_of_getElem? (i := 0) rfl))) (g := (mkF m 25 #[.val (.int p1), .val (.int p2), .val (.int p3), .val (.int p4), .val (.int p5), .val (.int (p1 &&& (2147483647 : Int32))), .val (.int (p2 &&& (2147483647 : Int32))), .unset, .unset, .unset, .unset, .unset, .unset, .unset, .unset, .unset, .unset, .unset] [(.int p3)])) rfl (hb hby at_25) _ ?_
      show Steps p.tables e below (s₁.setTop (mkF m 27 #[.val (.int p1), .val (.int p2), .val (.int p3), .val (.int p4), .val (.int p5), .val (.int (p1 &&& (2147483647 : Int32))), .val (.int (p2 &&& (2147483647 : Int32))), .unset, .unset, .unset, .unset, .unset, .unset, .unset, .unset, .unset, .unset, .unset] [(.int (2147483647 : Int32)), (.int p3)])) _
      refine XS.iand X0.here hx rfl (hb hby at_27) rfl ?_
      show Steps p.tables e below (s₁.setTop (mkF m 28 #[.val (.int p1), .val (.int p2), .val (.int p3), .val (.int p4), .val (.int p5), .val (.int (p1 &&& (2147483647 : Int32))), .val (.int (p2 &&& (2147483647 : Int32))), .unset, .unset, .unset, .unset, .unset, .unset, .unset, .unset, .unset, .unset, .unset] [(.int (p3 &&& (2147483647 : Int32)))])) _
      refine XS.istore X0.here hx rfl (hb hby at_28) rfl (l' := #[.val (.int p1), .val (.int p2), .val (.int p3), .val (.int p4), .val (.int p5), .val (.int (p1 &&& (2147483647 : Int32))), .val (.int (p2 &&& (2147483647 : Int32))), .val (.int (p3 &&& (2147483647 : Int32))), .unset, .unset, .unset, .unset, .unset, .unset, .unset, .unset, .unset, .unset]) rfl ?_
      show Steps p.tables e below (s₁.setTop (mkF m 30 #[.val (.int p1), .val (.int p2), .val (.int p3), .val (.int p4), .val (.int p5), .val (.int (p1 &&& (2147483647 : Int32))), .val (.int (p2 &&& (2147483647 : Int32))), .val (.int (p3 &&& (2147483647 : Int32))), .unset, .unset, .unset, .unset, .unset, .unset, .unset, .unset, .unset, .unset] [])) _
      refine XS.iload X0.here hx rfl (hb hby at_30) rfl ?_
      show Steps p.tables e below (s₁.setTop (mkF m 32 #[.val (.int p1), .val (.int p2), .val (.int p3), .val (.int p4), .val (.int p5), .val (.int (p1 &&& (2147483647 : Int32))), .val (.int (p2 &&& (2147483647 : Int32))), .val (.int (p3 &&& (2147483647 : Int32))), .unset, .unset, .unset, .unset, .unset, .unset, .unset, .unset, .unset, .unset] [(.int p5)])) _
      refine XS.iconst X0.here hx rfl (hb hby at_32) ?_
      show Steps p.tables e below (s₁.setTop (mkF m 33 #[.val (.int p1), .val (.int p2), .val (.int p3), .val (.int p4), .val (.int p5), .val (.int (p1 &&& (2147483647 : Int32))), .val (.int (p2 &&& (2147483647 : Int32))), .val (.int (p3 &&& (2147483647 : Int32))), .unset, .unset, .unset, .unset, .unset, .unset, .unset, .unset, .unset, .unset] [(.int (2 : Int32)), (.int p5)])) _
      refine XS.iand X0.here hx rfl (hb hby at_33) rfl ?_
      exact kt
    by_cases hc34 : (p5 &&& (2 : Int32)) = (0 : Int32)
    · refine Ends.of (F' := s₁.setTop (mkF m 48 #[.val (.int p1), .val (.int p2), .val (.int p3), .val (.int p4), .val (.int p5), .val (.int (p1 &&& (2147483647 : Int32))), .val (.int (p2 &&& (2147483647 : Int32))), .val (.int (p3 &&& (2147483647 : Int32))), .val (.int (p4 &&& (2147483647 : Int32))), .unset, .unset, .unset, .unset, .unset, .unset, .unset, .unset, .unset] [])) (fun _ kt => ?_) ?_
      · show Steps p.tables e below (s₁.setTop (mkF m 34 #[.val (.int p1), .val (.int p2), .val (.int p3), .val (.int p4), .val (.int p5), .val (.int (p1 &&& (2147483647 : Int32))), .val (.int (p2 &&& (2147483647 : Int32))), .val (.int (p3 &&& (2147483647 : Int32))), .unset, .unset, .unset, .unset, .unset, .unset, .unset, .unset, .unset, .unset] [(.int (p5 &&& (2 : Int32)))])) _
        refine XS.ifYes X0.here hx rfl (pc0 := 34) (pc' := 42) rfl (hb hby at_34) rfl ((if0 _ _).trans (teq hc34).1) (by decide) (by decide) ?_
        show Steps p.tables e below (s₁.setTop (mkF m 42 #[.val (.int p1), .val (.int p2), .val (.int p3), .val (.int p4), .val (.int p5), .val (.int (p1 &&& (2147483647 : Int32))), .val (.int (p2 &&& (2147483647 : Int32))), .val (.int (p3 &&& (2147483647 : Int32))), .unset, .unset, .unset, .unset, .unset, .unset, .unset, .unset, .unset, .unset] [])) _
        refine XS.iloadN X0.here hx rfl (hb hby at_42) rfl ?_
        show Steps p.tables e below (s₁.setTop (mkF m 43 #[.val (.int p1), .val (.int p2), .val (.int p3), .val (.int p4), .val (.int p5), .val (.int (p1 &&& (2147483647 : Int32))), .val (.int (p2 &&& (2147483647 : Int32))), .val (.int (p3 &&& (2147483647 : Int32))), .unset, .unset, .unset, .unset, .unset, .unset, .unset, .unset, .unset, .unset] [(.int p4)])) _
        refine X0.ldcInt hx hown (mvT hZ (hw _ (List.mem_of_getElem? (i := 0) rfl))) (g := (mkF m 43 #[.val (.int p1), .val (.int p2), .val (.int p3), .val (.int p4), .val (.int p5), .val (.int (p1 &&& (2147483647 : Int32))), .val (.int (p2 &&& (2147483647 : Int32))), .val (.int (p3 &&& (2147483647 : Int32))), .unset, .unset, .unset, .unset, .unset, .unset, .unset, .unset, .unset, .unset] [(.int p4)])) rfl (hb hby at_43) _ ?_
        show Steps p.tables e below (s₁.setTop (mkF m 45 #[.val (.int p1), .val (.int p2), .val (.int p3), .val (.int p4), .val (.int p5), .val (.int (p1 &&& (2147483647 : Int32))), .val (.int (p2 &&& (2147483647 : Int32))), .val (.int (p3 &&& (2147483647 : Int32))), .unset, .unset, .unset, .unset, .unset, .unset, .unset, .unset, .unset, .unset] [(.int (2147483647 : Int32)), (.int p4)])) _
        refine XS.iand X0.here hx rfl (hb hby at_45) rfl ?_
        show Steps p.tables e below (s₁.setTop (mkF m 46 #[.val (.int p1), .val (.int p2), .val (.int p3), .val (.int p4), .val (.int p5), .val (.int (p1 &&& (2147483647 : Int32))), .val (.int (p2 &&& (2147483647 : Int32))), .val (.int (p3 &&& (2147483647 : Int32))), .unset, .unset, .unset, .unset, .unset, .unset, .unset, .unset, .unset, .unset] [(.int (p4 &&& (2147483647 : Int32)))])) _
        refine XS.istore X0.here hx rfl (hb hby at_46) rfl (l' := #[.val (.int p1), .val (.int p2), .val (.int p3), .val (.int p4), .val (.int p5), .val (.int (p1 &&& (2147483647 : Int32))), .val (.int (p2 &&& (2147483647 : Int32))), .val (.int (p3 &&& (2147483647 : Int32))), .val (.int (p4 &&& (2147483647 : Int32))), .unset, .unset, .unset, .unset, .unset, .unset, .unset, .unset, .unset]) rfl ?_
        exact kt
      exact blk _ _ (own_m _) (own_m _)
    · refine Ends.of (F' := s₁.setTop (mkF m 48 #[.val (.int p1), .val (.int p2), .val (.int p3), .val (.int p4), .val (.int p5), .val (.int (p1 &&& (2147483647 : Int32))), .val (.int (p2 &&& (2147483647 : Int32))), .val (.int (p3 &&& (2147483647 : Int32))), .val (.int (p2 &&& (2147483647 : Int32))), .unset, .unset, .unset, .unset, .unset, .unset, .unset, .unset, .unset] [])) (fun _ kt => ?_) ?_
      · show Steps p.tables e below (s₁.setTop (mkF m 34 #[.val (.int p1), .val (.int p2), .val (.int p3), .val (.int p4), .val (.int p5), .val (.int (p1 &&& (2147483647 : Int32))), .val (.int (p2 &&& (2147483647 : Int32))), .val (.int (p3 &&& (2147483647 : Int32))), .unset, .unset, .unset, .unset, .unset, .unset, .unset, .unset, .unset, .unset] [(.int (p5 &&& (2 : Int32)))])) _
        refine XS.ifNo X0.here hx rfl (hb hby at_34) rfl ((if0 _ _).trans (feq hc34).1) ?_
        show Steps p.tables e below (s₁.setTop (mkF m 37 #[.val (.int p1), .val (.int p2), .val (.int p3), .val (.int p4), .val (.int p5), .val (.int (p1 &&& (2147483647 : Int32))), .val (.int (p2 &&& (2147483647 : Int32))), .val (.int (p3 &&& (2147483647 : Int32))), .unset, .unset, .unset, .unset, .unset, .unset, .unset, .unset, .unset, .unset] [])) _
        refine XS.iload X0.here hx rfl (hb hby at_37) rfl ?_
        show Steps p.tables e below (s₁.setTop (mkF m 39 #[.val (.int p1), .val (.int p2), .val (.int p3), .val (.int p4), .val (.int p5), .val (.int (p1 &&& (2147483647 : Int32))), .val (.int (p2 &&& (2147483647 : Int32))), .val (.int (p3 &&& (2147483647 : Int32))), .unset, .unset, .unset, .unset, .unset, .unset, .unset, .unset, .unset, .unset] [(.int (p2 &&& (2147483647 : Int32)))])) _
        refine XS.goto X0.here hx rfl (pc0 := 39) (pc' := 46) rfl (hb hby at_39) (by decide) (by decide) ?_
        show Steps p.tables e below (s₁.setTop (mkF m 46 #[.val (.int p1), .val (.int p2), .val (.int p3), .val (.int p4), .val (.int p5), .val (.int (p1 &&& (2147483647 : Int32))), .val (.int (p2 &&& (2147483647 : Int32))), .val (.int (p3 &&& (2147483647 : Int32))), .unset, .unset, .unset, .unset, .unset, .unset, .unset, .unset, .unset, .unset] [(.int (p2 &&& (2147483647 : Int32)))])) _
        refine XS.istore X0.here hx rfl (hb hby at_46) rfl (l' := #[.val (.int p1), .val (.int p2), .val (.int p3), .val (.int p4), .val (.int p5), .val (.int (p1 &&& (2147483647 : Int32))), .val (.int (p2 &&& (2147483647 : Int32))), .val (.int (p3 &&& (2147483647 : Int32))), .val (.int (p2 &&& (2147483647 : Int32))), .unset, .unset, .unset, .unset, .unset, .unset, .unset, .unset, .unset]) rfl ?_
        exact kt
      exact blk _ _ (own_m _) (own_m _)
  · refine Ends.of (F' := s₁.setTop (mkF m 34 #[.val (.int p1), .val (.int p2), .val (.int p3), .val (.int p4), .val (.int p5), .val (.int (p1 &&& (2147483647 : Int32))), .val (.int (p2 &&& (2147483647 : Int32))), .val (.int (p1 &&& (2147483647 : Int32))), .unset, .unset, .unset, .unset, .unset, .unset, .unset, .unset, .unset, .unset] [(.int (p5 &&& (2 : Int32)))])) (fun _ kt => ?_) ?_
    · show Steps p.tables e below (s₁.setTop (mkF m 16 #[.val (.int p1), .val (.int p2), .val (.int p3), .val (.int p4), .val (.int p5), .val (.int (p1 &&& (2147483647 : Int32))), .val (.int (p2 &&& (2147483647 : Int32))), .unset, .unset, .unset, .unset, .unset, .unset, .unset, .unset, .unset, .unset, .unset] [(.int (p5 &&& (1 : Int32)))])) _
      refine XS.ifNo X0.here hx rfl (hb hby at_16) rfl ((if0 _ _).trans (feq hc16).1) ?_
      show Steps p.tables e below (s₁.setTop (mkF m 19 #[.val (.int p1), .val (.int p2), .val (.int p3), .val (.int p4), .val (.int p5), .val (.int (p1 &&& (2147483647 : Int32))), .val (.int (p2 &&& (2147483647 : Int32))), .unset, .unset, .unset, .unset, .unset, .unset, .unset, .unset, .unset, .unset, .unset] [])) _
      refine XS.iload X0.here hx rfl (hb hby at_19) rfl ?_
      show Steps p.tables e below (s₁.setTop (mkF m 21 #[.val (.int p1), .val (.int p2), .val (.int p3), .val (.int p4), .val (.int p5), .val (.int (p1 &&& (2147483647 : Int32))), .val (.int (p2 &&& (2147483647 : Int32))), .unset, .unset, .unset, .unset, .unset, .unset, .unset, .unset, .unset, .unset, .unset] [(.int (p1 &&& (2147483647 : Int32)))])) _
      refine XS.goto X0.here hx rfl (pc0 := 21) (pc' := 28) rfl (hb hby at_21) (by decide) (by decide) ?_
      show Steps p.tables e below (s₁.setTop (mkF m 28 #[.val (.int p1), .val (.int p2), .val (.int p3), .val (.int p4), .val (.int p5), .val (.int (p1 &&& (2147483647 : Int32))), .val (.int (p2 &&& (2147483647 : Int32))), .unset, .unset, .unset, .unset, .unset, .unset, .unset, .unset, .unset, .unset, .unset] [(.int (p1 &&& (2147483647 : Int32)))])) _
      refine XS.istore X0.here hx rfl (hb hby at_28) rfl (l' := #[.val (.int p1), .val (.int p2), .val (.int p3), .val (.int p4), .val (.int p5), .val (.int (p1 &&& (2147483647 : Int32))), .val (.int (p2 &&& (2147483647 : Int32))), .val (.int (p1 &&& (2147483647 : Int32))), .unset, .unset, .unset, .unset, .unset, .unset, .unset, .unset, .unset, .unset]) rfl ?_
      show Steps p.tables e below (s₁.setTop (mkF m 30 #[.val (.int p1), .val (.int p2), .val (.int p3), .val (.int p4), .val (.int p5), .val (.int (p1 &&& (2147483647 : Int32))), .val (.int (p2 &&& (2147483647 : Int32))), .val (.int (p1 &&& (2147483647 : Int32))), .unset, .unset, .unset, .unset, .unset, .unset, .unset, .unset, .unset, .unset] [])) _
      refine XS.iload X0.here hx rfl (hb hby at_30) rfl ?_
      show Steps p.tables e below (s₁.setTop (mkF m 32 #[.val (.int p1), .val (.int p2), .val (.int p3), .val (.int p4), .val (.int p5), .val (.int (p1 &&& (2147483647 : Int32))), .val (.int (p2 &&& (2147483647 : Int32))), .val (.int (p1 &&& (2147483647 : Int32))), .unset, .unset, .unset, .unset, .unset, .unset, .unset, .unset, .unset, .unset] [(.int p5)])) _
      refine XS.iconst X0.here hx rfl (hb hby at_32) ?_
      show Steps p.tables e below (s₁.setTop (mkF m 33 #[.val (.int p1), .val (.int p2), .val (.int p3), .val (.int p4), .val (.int p5), .val (.int (p1 &&& (2147483647 : Int32))), .val (.int (p2 &&& (2147483647 : Int32))), .val (.int (p1 &&& (2147483647 : Int32))), .unset, .unset, .unset, .unset, .unset, .unset, .unset, .unset, .unset, .unset] [(.int (2 : Int32)), (.int p5)])) _
      refine XS.iand X0.here hx rfl (hb hby at_33) rfl ?_
      exact kt
    by_cases hc34 : (p5 &&& (2 : Int32)) = (0 : Int32)
    · refine Ends.of (F' := s₁.setTop (mkF m 48 #[.val (.int p1), .val (.int p2), .val (.int p3), .val (.int p4), .val (.int p5), .val (.int (p1 &&& (2147483647 : Int32))), .val (.int (p2 &&& (2147483647 : Int32))), .val (.int (p1 &&& (2147483647 : Int32))), .val (.int (p4 &&& (2147483647 : Int32))), .unset, .unset, .unset, .unset, .unset, .unset, .unset, .unset, .unset] [])) (fun _ kt => ?_) ?_
      · show Steps p.tables e below (s₁.setTop (mkF m 34 #[.val (.int p1), .val (.int p2), .val (.int p3), .val (.int p4), .val (.int p5), .val (.int (p1 &&& (2147483647 : Int32))), .val (.int (p2 &&& (2147483647 : Int32))), .val (.int (p1 &&& (2147483647 : Int32))), .unset, .unset, .unset, .unset, .unset, .unset, .unset, .unset, .unset, .unset] [(.int (p5 &&& (2 : Int32)))])) _
        refine XS.ifYes X0.here hx rfl (pc0 := 34) (pc' := 42) rfl (hb hby at_34) rfl ((if0 _ _).trans (teq hc34).1) (by decide) (by decide) ?_
        show Steps p.tables e below (s₁.setTop (mkF m 42 #[.val (.int p1), .val (.int p2), .val (.int p3), .val (.int p4), .val (.int p5), .val (.int (p1 &&& (2147483647 : Int32))), .val (.int (p2 &&& (2147483647 : Int32))), .val (.int (p1 &&& (2147483647 : Int32))), .unset, .unset, .unset, .unset, .unset, .unset, .unset, .unset, .unset, .unset] [])) _
        refine XS.iloadN X0.here hx rfl (hb hby at_42) rfl ?_
        show Steps p.tables e below (s₁.setTop (mkF m 43 #[.val (.int p1), .val (.int p2), .val (.int p3), .val (.int p4), .val (.int p5), .val (.int (p1 &&& (2147483647 : Int32))), .val (.int (p2 &&& (2147483647 : Int32))), .val (.int (p1 &&& (2147483647 : Int32))), .unset, .unset, .unset, .unset, .unset, .unset, .unset, .unset, .unset, .unset] [(.int p4)])) _
        refine X0.ldcInt hx hown (mvT hZ (hw _ (List.mem_of_getElem? (i := 0) rfl))) (g := (mkF m 43 #[.val (.int p1), .val (.int p2), .val (.int p3), .val (.int p4), .val (.int p5), .val (.int (p1 &&& (2147483647 : Int32))), .val (.int (p2 &&& (2147483647 : Int32))), .val (.int (p1 &&& (2147483647 : Int32))), .unset, .unset, .unset, .unset, .unset, .unset, .unset, .unset, .unset, .unset] [(.int p4)])) rfl (hb hby at_43) _ ?_
        show Steps p.tables e below (s₁.setTop (mkF m 45 #[.val (.int p1), .val (.int p2), .val (.int p3), .val (.int p4), .val (.int p5), .val (.int (p1 &&& (2147483647 : Int32))), .val (.int (p2 &&& (2147483647 : Int32))), .val (.int (p1 &&& (2147483647 : Int32))), .unset, .unset, .unset, .unset, .unset, .unset, .unset, .unset, .unset, .unset] [(.int (2147483647 : Int32)), (.int p4)])) _
        refine XS.iand X0.here hx rfl (hb hby at_45) rfl ?_
        show Steps p.tables e below (s₁.setTop (mkF m 46 #[.val (.int p1), .val (.int p2), .val (.int p3), .val (.int p4), .val (.int p5), .val (.int (p1 &&& (2147483647 : Int32))), .val (.int (p2 &&& (2147483647 : Int32))), .val (.int (p1 &&& (2147483647 : Int32))), .unset, .unset, .unset, .unset, .unset, .unset, .unset, .unset, .unset, .unset] [(.int (p4 &&& (2147483647 : Int32)))])) _
        refine XS.istore X0.here hx rfl (hb hby at_46) rfl (l' := #[.val (.int p1), .val (.int p2), .val (.int p3), .val (.int p4), .val (.int p5), .val (.int (p1 &&& (2147483647 : Int32))), .val (.int (p2 &&& (2147483647 : Int32))), .val (.int (p1 &&& (2147483647 : Int32))), .val (.int (p4 &&& (2147483647 : Int32))), .unset, .unset, .unset, .unset, .unset, .unset, .unset, .unset, .unset]) rfl ?_
        exact kt
      exact blk _ _ (own_m _) (own_m _)
    · refine Ends.of (F' := s₁.setTop (mkF m 48 #[.val (.int p1), .val (.int p2), .val (.int p3), .val (.int p4), .val (.int p5), .val (.int (p1 &&& (2147483647 : Int32))), .val (.int (p2 &&& (2147483647 : Int32))), .val (.int (p1 &&& (2147483647 : Int32))), .val (.int (p2 &&& (2147483647 : Int32))), .unset, .unset, .unset, .unset, .unset, .unset, .unset, .unset, .unset] [])) (fun _ kt => ?_) ?_
      · show Steps p.tables e below (s₁.setTop (mkF m 34 #[.val (.int p1), .val (.int p2), .val (.int p3), .val (.int p4), .val (.int p5), .val (.int (p1 &&& (2147483647 : Int32))), .val (.int (p2 &&& (2147483647 : Int32))), .val (.int (p1 &&& (2147483647 : Int32))), .unset, .unset, .unset, .unset, .unset, .unset, .unset, .unset, .unset, .unset] [(.int (p5 &&& (2 : Int32)))])) _
        refine XS.ifNo X0.here hx rfl (hb hby at_34) rfl ((if0 _ _).trans (feq hc34).1) ?_
        show Steps p.tables e below (s₁.setTop (mkF m 37 #[.val (.int p1), .val (.int p2), .val (.int p3), .val (.int p4), .val (.int p5), .val (.int (p1 &&& (2147483647 : Int32))), .val (.int (p2 &&& (2147483647 : Int32))), .val (.int (p1 &&& (2147483647 : Int32))), .unset, .unset, .unset, .unset, .unset, .unset, .unset, .unset, .unset, .unset] [])) _
        refine XS.iload X0.here hx rfl (hb hby at_37) rfl ?_
        show Steps p.tables e below (s₁.setTop (mkF m 39 #[.val (.int p1), .val (.int p2), .val (.int p3), .val (.int p4), .val (.int p5), .val (.int (p1 &&& (2147483647 : Int32))), .val (.int (p2 &&& (2147483647 : Int32))), .val (.int (p1 &&& (2147483647 : Int32))), .unset, .unset, .unset, .unset, .unset, .unset, .unset, .unset, .unset, .unset] [(.int (p2 &&& (2147483647 : Int32)))])) _
        refine XS.goto X0.here hx rfl (pc0 := 39) (pc' := 46) rfl (hb hby at_39) (by decide) (by decide) ?_
        show Steps p.tables e below (s₁.setTop (mkF m 46 #[.val (.int p1), .val (.int p2), .val (.int p3), .val (.int p4), .val (.int p5), .val (.int (p1 &&& (2147483647 : Int32))), .val (.int (p2 &&& (2147483647 : Int32))), .val (.int (p1 &&& (2147483647 : Int32))), .unset, .unset, .unset, .unset, .unset, .unset, .unset, .unset, .unset, .unset] [(.int (p2 &&& (2147483647 : Int32)))])) _
        refine XS.istore X0.here hx rfl (hb hby at_46) rfl (l' := #[.val (.int p1), .val (.int p2), .val (.int p3), .val (.int p4), .val (.int p5), .val (.int (p1 &&& (2147483647 : Int32))), .val (.int (p2 &&& (2147483647 : Int32))), .val (.int (p1 &&& (2147483647 : Int32))), .val (.int (p2 &&& (2147483647 : Int32))), .unset, .unset, .unset, .unset, .unset, .unset, .unset, .unset, .unset]) rfl ?_
        exact kt
      exact blk _ _ (own_m _) (own_m _)
set_option maxRecDepth 65536 in
set_option maxHeartbeats 40000000 in
theorem comes_1 {Post : Tables → Env → Array Value → State → Outcome → State → Prop} (hpost : ∀ tb e args s v u, (limb_1_1.after args s (.returned v) u = true ∧ limb_1_2.after args s (.returned v) u = true ∧ True) → FrameEnd s (.returned v) u (Jvm.fieldLocs frame_1_writes args s ++ Jvm.arrayLocs frame_1_arrays args s ++ Jvm.staticLocs frame_1_statics s) 16 128 → Post tb e args s (.returned v) u) :
    ArmFor flags0 classFile x code maxLocals ret World_1 tables_1 room_1 Calls_1 rest_1 Pre_1 Post := by
  intro l hfl _ _ p e ha hc hk s m args below hf hA hF happ hP
  obtain ⟨hcalls, hrest, hpre⟩ := hP
  obtain ⟨-, -, -, hnamed, -, -, -, hat⟩ := (Spec.applies_iff hf).mp happ
  obtain ⟨hg, hn⟩ := and_e (Cond.before_iff.mp (show (Jvm.Cond.and given_1 narrow_1).before args s = true from hpre))
  obtain ⟨g0, gt0⟩ := and_e hg
  obtain ⟨gv0, gt1⟩ := and_e gt0
  obtain ⟨gv1, gt2⟩ := and_e gt1
  obtain ⟨gv2, gt3⟩ := and_e gt2
  obtain ⟨gv3, gt4⟩ := and_e gt3
  obtain ⟨w0, w1, w2, w3, w4, rfl⟩ : ∃ w0 w1 w2 w3 w4 : Value, args = #[w0, w1, w2, w3, w4] := by
    have hs : args.size = 5 := by simpa [Cond.value, given_1] using g0
    obtain ⟨L⟩ := args
    match L, hs with
    | [w0, w1, w2, w3, w4], _ => exact ⟨w0, w1, w2, w3, w4, rfl⟩
  have hw := fun d (hd : d ∈ tables_1) => atoms_spec (ws := Jvm.Cond.code x code maxLocals ret :: tables_1) hat d (List.mem_cons_of_mem _ hd)
  have hfit : Fit s := fun {y c} hc i hi => by
    obtain ⟨ha, rfl⟩ := Array.getElem?_eq_some_iff.mp hc
    have q := List.all_eq_true.mp ((Array.all_eq_true_iff_forall_mem.mp hF) _ (Array.getElem_mem ha)) i (List.mem_range.mpr hi)
    simpa [Array.getElem?_eq_getElem hi] using q
  obtain ⟨i0, ei0⟩ := is_v gv0
  obtain rfl : w0 = (.int i0) := Option.some.inj ei0
  obtain ⟨i1, ei1⟩ := is_v gv1
  obtain rfl : w1 = (.int i1) := Option.some.inj ei1
  obtain ⟨i2, ei2⟩ := is_v gv2
  obtain rfl : w2 = (.int i2) := Option.some.inj ei2
  obtain ⟨i3, ei3⟩ := is_v gv3
  obtain rfl : w3 = (.int i3) := Option.some.inj ei3
  obtain ⟨i4, ei4⟩ := is_v gt4
  obtain rfl : w4 = (.int i4) := Option.some.inj ei4
  obtain ⟨hsets, hown0⟩ := atoms_of _ (rest_1_c_eq ▸ (show rest_1_c.before _ s = true from hrest))
  have S_h := Sta.start (own_eqi (Cond.before_iff.mp (hsets _ (List.mem_of_getElem? (i := 3) rfl)))) (Or.inl (hsets _ (List.mem_of_getElem? (i := 1) rfl)))
  have na := Cond.before_iff.mp (hsets _ (List.mem_of_getElem? (i := 4) rfl))
  obtain ⟨ca, ev⟩ := arr_v na
  have S_c := Sta.start ev (Or.inr ⟨(hw _ (List.mem_of_getElem? (i := 24) rfl)), (hsets _ (List.mem_of_getElem? (i := 2) rfl))⟩)
  obtain ⟨cl, A_c⟩ := Arr.start ev na
  have ha' := Arr.fin (State.Warmed39.refl s).alike A_c
  have z_c : cl.slots.size = 256 := own_len (own_eqi (Cond.before_iff.mp (hsets _ (List.mem_of_getElem? (i := 6) rfl)))) ev ha'
  have els : ∀ j, j < 256 → ∃ r, cl.slots[j]? = some (.ref r) ∧ Exa s s.heap r "java/lang/Integer" := fun j hj => by
    have q := Cond.all_elim ev ha' (Cond.before_iff.mp (hsets _ (List.mem_of_getElem? (i := 7) rfl))) j (by rw [z_c]; exact hj)
    obtain ⟨q1, -⟩ := and_e q
    obtain ⟨r, er⟩ := exa_v q1
    obtain ⟨a', j', cell', u1, u2, u3, u4, u5⟩ := Term.elem_spec er
    have e1 := Value.ref.inj (Option.some.inj (u1.symm.trans ev))
    subst e1
    have e2 := Option.some.inj (u3.symm.trans ha')
    subst e2
    have e3 := Value.int.inj (Option.some.inj (u2.symm.trans (Term.index_eval _)))
    refine ⟨r, ?_, exa_at er q1⟩
    have e4 : j'.toNatClampNeg = j := by
      rw [e3]
      have e5 : (j.toInt32).toNatClampNeg = (Int32.ofNat j).toInt.toNat := rfl
      first | (rw [e5, Int32.toInt_ofNat_of_lt (by omega)]; omega) | skip
    rw [← e4]
    exact u5
  obtain ⟨n, o, h1, h2, h3, _, L, rfl, ⟨rfl, N⟩, hq⟩ := rm0 l s _ hw tables_1 i0 i1 i2 i3 i4 ca cl s.heap s.heap.size (Nat.le_refl _) S_h S_c A_c z_c els p e ha hc hk s m _ below hf ((Spec.applies_iff_loose hf).mp happ).1 ⟨rfl, State.Warmed39.refl s, rfl⟩ trivial
  refine ⟨n, _, h1, h2, h3, hpost _ _ _ _ _ _ ⟨Cond.after_iff.mpr rfl, Cond.after_iff.mpr (eq_i res_at (Term.int_eval (1)) rfl), trivial⟩ ⟨hq.1, hq.2.1, (hq.2.2.sift fun y hy => Or.inr (N y hy)).mono (by decide) (by decide)⟩⟩
theorem main_1_1 : Claimed_1_1 := comes_1 fun _ _ _ _ _ _ h hF => ⟨h.1, hF⟩
theorem main_1_2 : Claimed_1_2 := comes_1 fun _ _ _ _ _ _ h hF => ⟨h.2.1, hF⟩
end Jvm.Pilot.@@N@@
namespace Jvm.Pilot.@@N@@
open Jvm Jvm.ClassFile Sem Op Lib Jvm.Free Jvm.Stand Jvm.Pilot.@@N@@.Jvm.D
/-! MADE BY PROGRAM (witnessworld.py) out of the Statement's table words and the real class files: 17 classes; the members and pool entries that the words name. The judged class is class 1, her method 1. -/
namespace start1
open Jvm.ClassFile
def u (s : String) : CpInfo := .utf8 (stringToUtf16 s)
/-- a pool by its gaps: so many unusable entries, then the entry; so many at the end -/
def gap : Nat → List CpInfo → List CpInfo
  | 0, r => r
  | n + 1, r => .unusable :: gap n r
def poolList (es : List (Nat × CpInfo)) (last : Nat) : List CpInfo := es.foldr (fun e r => gap e.1 (e.2 :: r)) (gap last [])
def pool (es : List (Nat × CpInfo)) (last : Nat) : Array CpInfo := ⟨poolList es last⟩
def fileOf (pool : Array CpInfo) (this : Nat) (attrs : Array Attribute := #[]) (ms : Array MethodInfo := #[]) (fl : Nat := 33) (sup : Nat := 0) (ifs : Array Nat := #[]) (fds : Array FieldInfo := #[]) : ClassFile where
  minorVersion := 0
  majorVersion := 65
  constantPool := pool
  accessFlags := fl
  thisClass := this
  superClass := sup
  interfaces := ifs
  fields := fds
  methods := ms
  attributes := attrs
def plain (name : String) (sup : Option ClassId) : Class where
  name := name
  kind := .ordinary
  loader := none
  accessFlags := 33
  super := sup
  interfaces := #[]
  cf := none
  fields := #[]
  methods := #[]
  instanceTypes := #[]
  staticTypes := #[]
  resolved := #[]
  callSites := []
  init := .initialized
  statics := none
  mirror := none

def pool0 : Array CpInfo := pool [(5, u "<init>"), (0, u "()V"), (1, .class_ 10), (1, u "java/lang/Object")] 113

def k0c0 : Code := { maxStack := 0, maxLocals := 1, code := object_method_1_code, exceptionTable := #[], attributes := #[] }
def k0m0 : Method := { name := "<init>", desc := "()V", sig := { parameters := [], returnType := none }, accessFlags := 1, code := some k0c0 }
/-- java/lang/Object -/
def k0 : Class := { plain "java/lang/Object" none with
  accessFlags := 33
  interfaces := #[]
  cf := some (fileOf pool0 8 #[] #[{ accessFlags := 1, nameIndex := 5, descriptorIndex := 6, attributes := #[] }] 33 0 #[] #[])
  fields := #[]
  methods := #[k0m0]
  instanceTypes := #[]
  staticTypes := #[]
  resolved := Array.replicate 124 none
  statics := none }

def pool1 : Array CpInfo := pool [(2, .class_ 4), (1, u "java/lang/Object"), (0, u "<init>"), (0, u "()V"), (0, .integer 2147483647), (0, .class_ 9), (0, u "com/example/fence_finder/fencefinder/model/FencePlace"), (0, .methodref 8 11), (0, .nameAndType 5 12), (0, u "(II)V"), (0, .methodref 14 15), (0, .class_ 16), (0, .nameAndType 17 18), (0, u "java/lang/Integer"), (0, u "valueOf"), (0, u "(I)Ljava/lang/Integer;"), (0, .methodref 8 20), (0, .nameAndType 21 22), (0, u "equals"), (0, u "(Ljava/lang/Object;)Z"), (0, .class_ 24), (0, u "com/example/fence_finder/fencefinder/model/FencePlaceEqualsPinLaw"), (2, u "law"), (0, u "(IIIII)Z")] 3

def k1m0 : Method := { name := "<init>", desc := "()V", sig := { parameters := [], returnType := none }, accessFlags := 1, code := none }
def k1c1 : Code := { maxStack := 4, maxLocals := 18, code := code, exceptionTable := #[], attributes := #[] }
def k1m1 : Method := { name := "law", desc := "(IIIII)Z", sig := { parameters := [.int, .int, .int, .int, .int], returnType := some .boolean }, accessFlags := 9, code := some k1c1 }
/-- com/example/fence_finder/fencefinder/model/FencePlaceEqualsPinLaw -/
def k1 : Class := { plain "com/example/fence_finder/fencefinder/model/FencePlaceEqualsPinLaw" (some 0) with
  accessFlags := 49
  interfaces := #[]
  cf := some (fileOf pool1 23 #[] #[{ accessFlags := 1, nameIndex := 5, descriptorIndex := 6, attributes := #[] }, { accessFlags := 9, nameIndex := 27, descriptorIndex := 28, attributes := #[] }] 49 2 #[] #[])
  fields := #[]
  methods := #[k1m0, k1m1]
  instanceTypes := #[]
  staticTypes := #[]
  resolved := Array.replicate 32 none
  statics := none }

def pool2 : Array CpInfo := pool [(1, .methodref 2 3), (0, .class_ 4), (0, .nameAndType 5 6), (0, u "java/lang/Object"), (0, u "<init>"), (0, u "()V"), (0, .class_ 8), (0, u "java/lang/Record")] 13

def k2c0 : Code := { maxStack := 1, maxLocals := 1, code := jdk_30_method_1_code, exceptionTable := #[], attributes := #[] }
def k2m0 : Method := { name := "<init>", desc := "()V", sig := { parameters := [], returnType := none }, accessFlags := 4, code := some k2c0 }
/-- java/lang/Record -/
def k2 : Class := { plain "java/lang/Record" (some 0) with
  accessFlags := 1057
  interfaces := #[]
  cf := some (fileOf pool2 7 #[] #[{ accessFlags := 4, nameIndex := 5, descriptorIndex := 6, attributes := #[] }] 1057 2 #[] #[])
  fields := #[]
  methods := #[k2m0]
  instanceTypes := #[]
  staticTypes := #[]
  resolved := Array.replicate 22 none
  statics := none }

def pool3 : Array CpInfo := pool [(1, .class_ 2), (0, u "java/lang/Comparable"), (0, .class_ 4), (0, u "java/lang/Object")] 7

/-- java/lang/Comparable -/
def k3 : Class := { plain "java/lang/Comparable" (some 0) with
  accessFlags := 1537
  interfaces := #[]
  cf := some (fileOf pool3 1 #[] #[] 1537 3 #[] #[])
  fields := #[]
  methods := #[]
  instanceTypes := #[]
  staticTypes := #[]
  resolved := Array.replicate 12 none
  statics := none }

def pool4 : Array CpInfo := pool [(1, .methodref 2 3), (0, .class_ 4), (0, .nameAndType 5 6), (0, u "java/lang/Record"), (0, u "<init>"), (0, u "()V"), (9, .fieldref 17 18), (0, .class_ 19), (0, .nameAndType 20 21), (0, u "com/example/fence_finder/fencefinder/model/FencePlace"), (0, u "thread"), (0, u "I"), (0, .fieldref 17 23), (0, .nameAndType 24 21), (0, u "instruction"), (14, .class_ 40), (0, u "java/lang/Comparable"), (0, u "(II)V"), (4, u "equals"), (0, u "(Ljava/lang/Object;)Z")] 35

def k4c0 : Code := { maxStack := 4, maxLocals := 3, code := prog_35_method_1_code, exceptionTable := #[], attributes := #[] }
def k4m0 : Method := { name := "<init>", desc := "(II)V", sig := { parameters := [.int, .int], returnType := none }, accessFlags := 1, code := some k4c0 }
def k4c1 : Code := { maxStack := 2, maxLocals := 3, code := prog_35_method_2_code, exceptionTable := #[], attributes := #[] }
def k4m1 : Method := { name := "equals", desc := "(Ljava/lang/Object;)Z", sig := { parameters := [(.object "java/lang/Object")], returnType := some .boolean }, accessFlags := 1, code := some k4c1 }
/-- com/example/fence_finder/fencefinder/model/FencePlace -/
def k4 : Class := { plain "com/example/fence_finder/fencefinder/model/FencePlace" (some 2) with
  accessFlags := 49
  interfaces := #[3]
  cf := some (fileOf pool4 17 #[] #[{ accessFlags := 1, nameIndex := 5, descriptorIndex := 41, attributes := #[] }, { accessFlags := 1, nameIndex := 46, descriptorIndex := 47, attributes := #[] }] 49 2 #[39] #[{ accessFlags := 18, nameIndex := 20, descriptorIndex := 21, attributes := #[] }, { accessFlags := 18, nameIndex := 24, descriptorIndex := 21, attributes := #[] }])
  fields := #[{ name := "thread", type := .int, accessFlags := 18, slot := 0, constantValue := 0 }, { name := "instruction", type := .int, accessFlags := 18, slot := 1, constantValue := 0 }]
  methods := #[k4m0, k4m1]
  instanceTypes := #[.int, .int]
  staticTypes := #[]
  resolved := Array.replicate 83 none
  statics := none }

def pool5 : Array CpInfo := pool [(1, .class_ 2), (0, u "java/io/Serializable"), (0, .class_ 4), (0, u "java/lang/Object")] 2

/-- java/io/Serializable -/
def k5 : Class := { plain "java/io/Serializable" (some 0) with
  accessFlags := 1537
  interfaces := #[]
  cf := some (fileOf pool5 1 #[] #[] 1537 3 #[] #[])
  fields := #[]
  methods := #[]
  instanceTypes := #[]
  staticTypes := #[]
  resolved := Array.replicate 7 none
  statics := none }

def pool6 : Array CpInfo := pool [(1, .methodref 2 3), (0, .class_ 4), (0, .nameAndType 5 6), (0, u "java/lang/Object"), (0, u "<init>"), (0, u "()V"), (1, .class_ 10), (1, u "java/lang/Number"), (2, .class_ 14), (0, u "java/io/Serializable"), (0, u "serialVersionUID"), (0, u "J")] 20

def k6c0 : Code := { maxStack := 1, maxLocals := 1, code := jdk_18_method_1_code, exceptionTable := #[], attributes := #[] }
def k6m0 : Method := { name := "<init>", desc := "()V", sig := { parameters := [], returnType := none }, accessFlags := 1, code := some k6c0 }
/-- java/lang/Number -/
def k6 : Class := { plain "java/lang/Number" (some 0) with
  accessFlags := 1057
  interfaces := #[5]
  cf := some (fileOf pool6 8 #[] #[{ accessFlags := 1, nameIndex := 5, descriptorIndex := 6, attributes := #[] }] 1057 2 #[13] #[{ accessFlags := 26, nameIndex := 15, descriptorIndex := 16, attributes := #[] }])
  fields := #[{ name := "serialVersionUID", type := .long, accessFlags := 26, slot := 0, constantValue := 0 }]
  methods := #[k6m0]
  instanceTypes := #[]
  staticTypes := #[.long]
  resolved := Array.replicate 37 none
  statics := none }

def pool7 : Array CpInfo := pool [(1, .class_ 2), (0, u "java/lang/constant/Constable"), (0, .class_ 4), (0, u "java/lang/Object")] 6

/-- java/lang/constant/Constable -/
def k7 : Class := { plain "java/lang/constant/Constable" (some 0) with
  accessFlags := 1537
  interfaces := #[]
  cf := some (fileOf pool7 1 #[] #[] 1537 3 #[] #[])
  fields := #[]
  methods := #[]
  instanceTypes := #[]
  staticTypes := #[]
  resolved := Array.replicate 11 none
  statics := none }

def pool8 : Array CpInfo := pool [(1, .class_ 2), (0, u "java/lang/constant/ConstantDesc"), (0, .class_ 4), (0, u "java/lang/Object")] 32

/-- java/lang/constant/ConstantDesc -/
def k8 : Class := { plain "java/lang/constant/ConstantDesc" (some 0) with
  accessFlags := 1537
  interfaces := #[]
  cf := some (fileOf pool8 1 #[] #[] 1537 3 #[] #[])
  fields := #[]
  methods := #[]
  instanceTypes := #[]
  staticTypes := #[]
  resolved := Array.replicate 37 none
  statics := none }

def pool9 : Array CpInfo := pool [(1, .class_ 2), (0, u "java/lang/Integer"), (16, u "digits"), (0, u "[C"), (46, u "<init>"), (17, u "DigitOnes"), (0, u "[B"), (2, u "DigitTens"), (10, .nameAndType 67 101), (0, u "()V"), (85, u "valueOf"), (0, u "(I)Ljava/lang/Integer;"), (0, .class_ 190), (0, u "java/lang/Integer$IntegerCache"), (0, .fieldref 189 192), (0, .nameAndType 193 194), (0, u "high"), (0, u "I"), (0, .fieldref 189 196), (0, .nameAndType 197 198), (0, u "cache"), (0, u "[Ljava/lang/Integer;"), (0, .methodref 1 200), (0, .nameAndType 67 201), (0, u "(I)V"), (0, .methodref 203 100), (0, .class_ 204), (0, u "java/lang/Number"), (0, .fieldref 1 206), (0, .nameAndType 207 194), (0, u "value"), (94, u "TYPE"), (0, u "Ljava/lang/Class;"), (0, .class_ 305), (0, u "java/lang/Comparable"), (0, .class_ 307), (0, u "java/lang/constant/Constable"), (0, .class_ 309), (0, u "java/lang/constant/ConstantDesc"), (0, u "MIN_VALUE"), (1, u "MAX_VALUE"), (3, u "SIZE"), (1, u "BYTES"), (1, u "serialVersionUID"), (0, u "J")] 131

def k9c0 : Code := { maxStack := 3, maxLocals := 1, code := jdk_33_method_22_code, exceptionTable := #[], attributes := #[] }
def k9m0 : Method := { name := "valueOf", desc := "(I)Ljava/lang/Integer;", sig := { parameters := [.int], returnType := some (.object "java/lang/Integer") }, accessFlags := 9, code := some k9c0 }
def k9c1 : Code := { maxStack := 2, maxLocals := 2, code := jdk_33_method_23_code, exceptionTable := #[], attributes := #[] }
def k9m1 : Method := { name := "<init>", desc := "(I)V", sig := { parameters := [.int], returnType := none }, accessFlags := 1, code := some k9c1 }
/-- java/lang/Integer -/
def k9 : Class := { plain "java/lang/Integer" (some 6) with
  accessFlags := 49
  interfaces := #[3, 7, 8]
  cf := some (fileOf pool9 1 #[.nestMembers #[189]] #[{ accessFlags := 9, nameIndex := 187, descriptorIndex := 188, attributes := #[] }, { accessFlags := 1, nameIndex := 67, descriptorIndex := 201, attributes := #[] }] 49 203 #[304, 306, 308] #[{ accessFlags := 25, nameIndex := 310, descriptorIndex := 194, attributes := #[] }, { accessFlags := 25, nameIndex := 312, descriptorIndex := 194, attributes := #[] }, { accessFlags := 25, nameIndex := 302, descriptorIndex := 303, attributes := #[] }, { accessFlags := 24, nameIndex := 19, descriptorIndex := 20, attributes := #[] }, { accessFlags := 24, nameIndex := 89, descriptorIndex := 86, attributes := #[] }, { accessFlags := 24, nameIndex := 85, descriptorIndex := 86, attributes := #[] }, { accessFlags := 18, nameIndex := 207, descriptorIndex := 194, attributes := #[] }, { accessFlags := 25, nameIndex := 316, descriptorIndex := 194, attributes := #[] }, { accessFlags := 25, nameIndex := 318, descriptorIndex := 194, attributes := #[] }, { accessFlags := 26, nameIndex := 320, descriptorIndex := 321, attributes := #[] }])
  fields := #[{ name := "MIN_VALUE", type := .int, accessFlags := 25, slot := 0, constantValue := 0 }, { name := "MAX_VALUE", type := .int, accessFlags := 25, slot := 1, constantValue := 0 }, { name := "TYPE", type := (.object "java/lang/Class"), accessFlags := 25, slot := 2, constantValue := 0 }, { name := "digits", type := (.array .char), accessFlags := 24, slot := 3, constantValue := 0 }, { name := "DigitTens", type := (.array .byte), accessFlags := 24, slot := 4, constantValue := 0 }, { name := "DigitOnes", type := (.array .byte), accessFlags := 24, slot := 5, constantValue := 0 }, { name := "value", type := .int, accessFlags := 18, slot := 0, constantValue := 0 }, { name := "SIZE", type := .int, accessFlags := 25, slot := 6, constantValue := 0 }, { name := "BYTES", type := .int, accessFlags := 25, slot := 7, constantValue := 0 }, { name := "serialVersionUID", type := .long, accessFlags := 26, slot := 8, constantValue := 0 }]
  methods := #[k9m0, k9m1]
  instanceTypes := #[.int]
  staticTypes := #[.int, .int, (.object "java/lang/Class"), (.array .char), (.array .byte), (.array .byte), .int, .int, .long]
  resolved := Array.replicate 453 none
  statics := none }

def pool10 : Array CpInfo := pool [(2, .class_ 4), (1, u "java/lang/Object"), (0, u "<init>"), (0, u "()V"), (0, .class_ 8), (0, u "java/lang/Integer"), (7, .class_ 18), (1, u "java/lang/Integer$IntegerCache"), (0, u "$assertionsDisabled"), (0, u "Z"), (26, u "high"), (0, u "I"), (8, u "archivedCache"), (0, u "[Ljava/lang/Integer;"), (12, u "cache"), (0, u "low")] 27

def k10m0 : Method := { name := "<init>", desc := "()V", sig := { parameters := [], returnType := none }, accessFlags := 2, code := none }
/-- java/lang/Integer$IntegerCache -/
def k10 : Class := { plain "java/lang/Integer$IntegerCache" (some 0) with
  accessFlags := 48
  interfaces := #[]
  cf := some (fileOf pool10 16 #[.nestHost 7] #[{ accessFlags := 2, nameIndex := 5, descriptorIndex := 6, attributes := #[] }] 48 2 #[] #[{ accessFlags := 24, nameIndex := 72, descriptorIndex := 48, attributes := #[] }, { accessFlags := 24, nameIndex := 47, descriptorIndex := 48, attributes := #[] }, { accessFlags := 24, nameIndex := 71, descriptorIndex := 58, attributes := #[] }, { accessFlags := 8, nameIndex := 57, descriptorIndex := 58, attributes := #[] }, { accessFlags := 4120, nameIndex := 19, descriptorIndex := 20, attributes := #[] }])
  fields := #[{ name := "low", type := .int, accessFlags := 24, slot := 0, constantValue := 0 }, { name := "high", type := .int, accessFlags := 24, slot := 1, constantValue := 0 }, { name := "cache", type := (.array (.object "java/lang/Integer")), accessFlags := 24, slot := 2, constantValue := 0 }, { name := "archivedCache", type := (.array (.object "java/lang/Integer")), accessFlags := 8, slot := 3, constantValue := 0 }, { name := "$assertionsDisabled", type := .boolean, accessFlags := 4120, slot := 4, constantValue := 0 }]
  methods := #[k10m0]
  instanceTypes := #[]
  staticTypes := #[.int, .int, (.array (.object "java/lang/Integer")), (.array (.object "java/lang/Integer")), .boolean]
  resolved := Array.replicate 100 none
  statics := some 0 }

def pool11 : Array CpInfo := pool [(1, u "java/lang/Cloneable"), (0, .class_ 1), (0, u "java/lang/Object"), (0, .class_ 3)] 3

/-- java/lang/Cloneable -/
def k11 : Class := { plain "java/lang/Cloneable" (some 0) with
  accessFlags := 1537
  interfaces := #[]
  cf := some (fileOf pool11 2 #[] #[] 1537 4 #[] #[])
  fields := #[]
  methods := #[]
  instanceTypes := #[]
  staticTypes := #[]
  resolved := Array.replicate 8 none
  statics := none }

/-- the primitive byte -/
def k12 : Class := { plain "byte" none with kind := .primitive 'B', accessFlags := 0x411 }
/-- [B -/
def k13 : Class := { plain "[B" (some 0) with kind := .array 12 .byte, interfaces := #[11, 5], accessFlags := 1041 }

/-- the primitive int -/
def k14 : Class := { plain "int" none with kind := .primitive 'I', accessFlags := 0x411 }
/-- [I -/
def k15 : Class := { plain "[I" (some 0) with kind := .array 14 .int, interfaces := #[11, 5], accessFlags := 1041 }

/-- [Ljava/lang/Integer; -/
def k16 : Class := { plain "[Ljava/lang/Integer;" (some 0) with kind := .array 9 (.object "java/lang/Integer"), interfaces := #[11, 5], accessFlags := 1041 }

def heap : Heap := #[{ cls := 10, slots := #[.int 0, .int 127, .ref 1, .null, .int 0], vm := .statics 10 },
  { cls := 16, slots := #[.ref 2, .ref 3, .ref 4, .ref 5, .ref 6, .ref 7, .ref 8, .ref 9, .ref 10, .ref 11, .ref 12, .ref 13, .ref 14, .ref 15, .ref 16, .ref 17, .ref 18, .ref 19, .ref 20, .ref 21, .ref 22, .ref 23, .ref 24, .ref 25, .ref 26, .ref 27, .ref 28, .ref 29, .ref 30, .ref 31, .ref 32, .ref 33, .ref 34, .ref 35, .ref 36, .ref 37, .ref 38, .ref 39, .ref 40, .ref 41, .ref 42, .ref 43, .ref 44, .ref 45, .ref 46, .ref 47, .ref 48, .ref 49, .ref 50, .ref 51, .ref 52, .ref 53, .ref 54, .ref 55, .ref 56, .ref 57, .ref 58, .ref 59, .ref 60, .ref 61, .ref 62, .ref 63, .ref 64, .ref 65, .ref 66, .ref 67, .ref 68, .ref 69, .ref 70, .ref 71, .ref 72, .ref 73, .ref 74, .ref 75, .ref 76, .ref 77, .ref 78, .ref 79, .ref 80, .ref 81, .ref 82, .ref 83, .ref 84, .ref 85, .ref 86, .ref 87, .ref 88, .ref 89, .ref 90, .ref 91, .ref 92, .ref 93, .ref 94, .ref 95, .ref 96, .ref 97, .ref 98, .ref 99, .ref 100, .ref 101, .ref 102, .ref 103, .ref 104, .ref 105, .ref 106, .ref 107, .ref 108, .ref 109, .ref 110, .ref 111, .ref 112, .ref 113, .ref 114, .ref 115, .ref 116, .ref 117, .ref 118, .ref 119, .ref 120, .ref 121, .ref 122, .ref 123, .ref 124, .ref 125, .ref 126, .ref 127, .ref 128, .ref 129, .ref 130, .ref 131, .ref 132, .ref 133, .ref 134, .ref 135, .ref 136, .ref 137, .ref 138, .ref 139, .ref 140, .ref 141, .ref 142, .ref 143, .ref 144, .ref 145, .ref 146, .ref 147, .ref 148, .ref 149, .ref 150, .ref 151, .ref 152, .ref 153, .ref 154, .ref 155, .ref 156, .ref 157, .ref 158, .ref 159, .ref 160, .ref 161, .ref 162, .ref 163, .ref 164, .ref 165, .ref 166, .ref 167, .ref 168, .ref 169, .ref 170, .ref 171, .ref 172, .ref 173, .ref 174, .ref 175, .ref 176, .ref 177, .ref 178, .ref 179, .ref 180, .ref 181, .ref 182, .ref 183, .ref 184, .ref 185, .ref 186, .ref 187, .ref 188, .ref 189, .ref 190, .ref 191, .ref 192, .ref 193, .ref 194, .ref 195, .ref 196, .ref 197, .ref 198, .ref 199, .ref 200, .ref 201, .ref 202, .ref 203, .ref 204, .ref 205, .ref 206, .ref 207, .ref 208, .ref 209, .ref 210, .ref 211, .ref 212, .ref 213, .ref 214, .ref 215, .ref 216, .ref 217, .ref 218, .ref 219, .ref 220, .ref 221, .ref 222, .ref 223, .ref 224, .ref 225, .ref 226, .ref 227, .ref 228, .ref 229, .ref 230, .ref 231, .ref 232, .ref 233, .ref 234, .ref 235, .ref 236, .ref 237, .ref 238, .ref 239, .ref 240, .ref 241, .ref 242, .ref 243, .ref 244, .ref 245, .ref 246, .ref 247, .ref 248, .ref 249, .ref 250, .ref 251, .ref 252, .ref 253, .ref 254, .ref 255, .ref 256, .ref 257], vm := .none },
  { cls := 9, slots := #[.int (-128)], vm := .none },
  { cls := 9, slots := #[.int (-127)], vm := .none },
  { cls := 9, slots := #[.int (-126)], vm := .none },
  { cls := 9, slots := #[.int (-125)], vm := .none },
  { cls := 9, slots := #[.int (-124)], vm := .none },
  { cls := 9, slots := #[.int (-123)], vm := .none },
  { cls := 9, slots := #[.int (-122)], vm := .none },
  { cls := 9, slots := #[.int (-121)], vm := .none },
  { cls := 9, slots := #[.int (-120)], vm := .none },
  { cls := 9, slots := #[.int (-119)], vm := .none },
  { cls := 9, slots := #[.int (-118)], vm := .none },
  { cls := 9, slots := #[.int (-117)], vm := .none },
  { cls := 9, slots := #[.int (-116)], vm := .none },
  { cls := 9, slots := #[.int (-115)], vm := .none },
  { cls := 9, slots := #[.int (-114)], vm := .none },
  { cls := 9, slots := #[.int (-113)], vm := .none },
  { cls := 9, slots := #[.int (-112)], vm := .none },
  { cls := 9, slots := #[.int (-111)], vm := .none },
  { cls := 9, slots := #[.int (-110)], vm := .none },
  { cls := 9, slots := #[.int (-109)], vm := .none },
  { cls := 9, slots := #[.int (-108)], vm := .none },
  { cls := 9, slots := #[.int (-107)], vm := .none },
  { cls := 9, slots := #[.int (-106)], vm := .none },
  { cls := 9, slots := #[.int (-105)], vm := .none },
  { cls := 9, slots := #[.int (-104)], vm := .none },
  { cls := 9, slots := #[.int (-103)], vm := .none },
  { cls := 9, slots := #[.int (-102)], vm := .none },
  { cls := 9, slots := #[.int (-101)], vm := .none },
  { cls := 9, slots := #[.int (-100)], vm := .none },
  { cls := 9, slots := #[.int (-99)], vm := .none },
  { cls := 9, slots := #[.int (-98)], vm := .none },
  { cls := 9, slots := #[.int (-97)], vm := .none },
  { cls := 9, slots := #[.int (-96)], vm := .none },
  { cls := 9, slots := #[.int (-95)], vm := .none },
  { cls := 9, slots := #[.int (-94)], vm := .none },
  { cls := 9, slots := #[.int (-93)], vm := .none },
  { cls := 9, slots := #[.int (-92)], vm := .none },
  { cls := 9, slots := #[.int (-91)], vm := .none },
  { cls := 9, slots := #[.int (-90)], vm := .none },
  { cls := 9, slots := #[.int (-89)], vm := .none },
  { cls := 9, slots := #[.int (-88)], vm := .none },
  { cls := 9, slots := #[.int (-87)], vm := .none },
  { cls := 9, slots := #[.int (-86)], vm := .none },
  { cls := 9, slots := #[.int (-85)], vm := .none },
  { cls := 9, slots := #[.int (-84)], vm := .none },
  { cls := 9, slots := #[.int (-83)], vm := .none },
  { cls := 9, slots := #[.int (-82)], vm := .none },
  { cls := 9, slots := #[.int (-81)], vm := .none },
  { cls := 9, slots := #[.int (-80)], vm := .none },
  { cls := 9, slots := #[.int (-79)], vm := .none },
  { cls := 9, slots := #[.int (-78)], vm := .none },
  { cls := 9, slots := #[.int (-77)], vm := .none },
  { cls := 9, slots := #[.int (-76)], vm := .none },
  { cls := 9, slots := #[.int (-75)], vm := .none },
  { cls := 9, slots := #[.int (-74)], vm := .none },
  { cls := 9, slots := #[.int (-73)], vm := .none },
  { cls := 9, slots := #[.int (-72)], vm := .none },
  { cls := 9, slots := #[.int (-71)], vm := .none },
  { cls := 9, slots := #[.int (-70)], vm := .none },
  { cls := 9, slots := #[.int (-69)], vm := .none },
  { cls := 9, slots := #[.int (-68)], vm := .none },
  { cls := 9, slots := #[.int (-67)], vm := .none },
  { cls := 9, slots := #[.int (-66)], vm := .none },
  { cls := 9, slots := #[.int (-65)], vm := .none },
  { cls := 9, slots := #[.int (-64)], vm := .none },
  { cls := 9, slots := #[.int (-63)], vm := .none },
  { cls := 9, slots := #[.int (-62)], vm := .none },
  { cls := 9, slots := #[.int (-61)], vm := .none },
  { cls := 9, slots := #[.int (-60)], vm := .none },
  { cls := 9, slots := #[.int (-59)], vm := .none },
  { cls := 9, slots := #[.int (-58)], vm := .none },
  { cls := 9, slots := #[.int (-57)], vm := .none },
  { cls := 9, slots := #[.int (-56)], vm := .none },
  { cls := 9, slots := #[.int (-55)], vm := .none },
  { cls := 9, slots := #[.int (-54)], vm := .none },
  { cls := 9, slots := #[.int (-53)], vm := .none },
  { cls := 9, slots := #[.int (-52)], vm := .none },
  { cls := 9, slots := #[.int (-51)], vm := .none },
  { cls := 9, slots := #[.int (-50)], vm := .none },
  { cls := 9, slots := #[.int (-49)], vm := .none },
  { cls := 9, slots := #[.int (-48)], vm := .none },
  { cls := 9, slots := #[.int (-47)], vm := .none },
  { cls := 9, slots := #[.int (-46)], vm := .none },
  { cls := 9, slots := #[.int (-45)], vm := .none },
  { cls := 9, slots := #[.int (-44)], vm := .none },
  { cls := 9, slots := #[.int (-43)], vm := .none },
  { cls := 9, slots := #[.int (-42)], vm := .none },
  { cls := 9, slots := #[.int (-41)], vm := .none },
  { cls := 9, slots := #[.int (-40)], vm := .none },
  { cls := 9, slots := #[.int (-39)], vm := .none },
  { cls := 9, slots := #[.int (-38)], vm := .none },
  { cls := 9, slots := #[.int (-37)], vm := .none },
  { cls := 9, slots := #[.int (-36)], vm := .none },
  { cls := 9, slots := #[.int (-35)], vm := .none },
  { cls := 9, slots := #[.int (-34)], vm := .none },
  { cls := 9, slots := #[.int (-33)], vm := .none },
  { cls := 9, slots := #[.int (-32)], vm := .none },
  { cls := 9, slots := #[.int (-31)], vm := .none },
  { cls := 9, slots := #[.int (-30)], vm := .none },
  { cls := 9, slots := #[.int (-29)], vm := .none },
  { cls := 9, slots := #[.int (-28)], vm := .none },
  { cls := 9, slots := #[.int (-27)], vm := .none },
  { cls := 9, slots := #[.int (-26)], vm := .none },
  { cls := 9, slots := #[.int (-25)], vm := .none },
  { cls := 9, slots := #[.int (-24)], vm := .none },
  { cls := 9, slots := #[.int (-23)], vm := .none },
  { cls := 9, slots := #[.int (-22)], vm := .none },
  { cls := 9, slots := #[.int (-21)], vm := .none },
  { cls := 9, slots := #[.int (-20)], vm := .none },
  { cls := 9, slots := #[.int (-19)], vm := .none },
  { cls := 9, slots := #[.int (-18)], vm := .none },
  { cls := 9, slots := #[.int (-17)], vm := .none },
  { cls := 9, slots := #[.int (-16)], vm := .none },
  { cls := 9, slots := #[.int (-15)], vm := .none },
  { cls := 9, slots := #[.int (-14)], vm := .none },
  { cls := 9, slots := #[.int (-13)], vm := .none },
  { cls := 9, slots := #[.int (-12)], vm := .none },
  { cls := 9, slots := #[.int (-11)], vm := .none },
  { cls := 9, slots := #[.int (-10)], vm := .none },
  { cls := 9, slots := #[.int (-9)], vm := .none },
  { cls := 9, slots := #[.int (-8)], vm := .none },
  { cls := 9, slots := #[.int (-7)], vm := .none },
  { cls := 9, slots := #[.int (-6)], vm := .none },
  { cls := 9, slots := #[.int (-5)], vm := .none },
  { cls := 9, slots := #[.int (-4)], vm := .none },
  { cls := 9, slots := #[.int (-3)], vm := .none },
  { cls := 9, slots := #[.int (-2)], vm := .none },
  { cls := 9, slots := #[.int (-1)], vm := .none },
  { cls := 9, slots := #[.int 0], vm := .none },
  { cls := 9, slots := #[.int 1], vm := .none },
  { cls := 9, slots := #[.int 2], vm := .none },
  { cls := 9, slots := #[.int 3], vm := .none },
  { cls := 9, slots := #[.int 4], vm := .none },
  { cls := 9, slots := #[.int 5], vm := .none },
  { cls := 9, slots := #[.int 6], vm := .none },
  { cls := 9, slots := #[.int 7], vm := .none },
  { cls := 9, slots := #[.int 8], vm := .none },
  { cls := 9, slots := #[.int 9], vm := .none },
  { cls := 9, slots := #[.int 10], vm := .none },
  { cls := 9, slots := #[.int 11], vm := .none },
  { cls := 9, slots := #[.int 12], vm := .none },
  { cls := 9, slots := #[.int 13], vm := .none },
  { cls := 9, slots := #[.int 14], vm := .none },
  { cls := 9, slots := #[.int 15], vm := .none },
  { cls := 9, slots := #[.int 16], vm := .none },
  { cls := 9, slots := #[.int 17], vm := .none },
  { cls := 9, slots := #[.int 18], vm := .none },
  { cls := 9, slots := #[.int 19], vm := .none },
  { cls := 9, slots := #[.int 20], vm := .none },
  { cls := 9, slots := #[.int 21], vm := .none },
  { cls := 9, slots := #[.int 22], vm := .none },
  { cls := 9, slots := #[.int 23], vm := .none },
  { cls := 9, slots := #[.int 24], vm := .none },
  { cls := 9, slots := #[.int 25], vm := .none },
  { cls := 9, slots := #[.int 26], vm := .none },
  { cls := 9, slots := #[.int 27], vm := .none },
  { cls := 9, slots := #[.int 28], vm := .none },
  { cls := 9, slots := #[.int 29], vm := .none },
  { cls := 9, slots := #[.int 30], vm := .none },
  { cls := 9, slots := #[.int 31], vm := .none },
  { cls := 9, slots := #[.int 32], vm := .none },
  { cls := 9, slots := #[.int 33], vm := .none },
  { cls := 9, slots := #[.int 34], vm := .none },
  { cls := 9, slots := #[.int 35], vm := .none },
  { cls := 9, slots := #[.int 36], vm := .none },
  { cls := 9, slots := #[.int 37], vm := .none },
  { cls := 9, slots := #[.int 38], vm := .none },
  { cls := 9, slots := #[.int 39], vm := .none },
  { cls := 9, slots := #[.int 40], vm := .none },
  { cls := 9, slots := #[.int 41], vm := .none },
  { cls := 9, slots := #[.int 42], vm := .none },
  { cls := 9, slots := #[.int 43], vm := .none },
  { cls := 9, slots := #[.int 44], vm := .none },
  { cls := 9, slots := #[.int 45], vm := .none },
  { cls := 9, slots := #[.int 46], vm := .none },
  { cls := 9, slots := #[.int 47], vm := .none },
  { cls := 9, slots := #[.int 48], vm := .none },
  { cls := 9, slots := #[.int 49], vm := .none },
  { cls := 9, slots := #[.int 50], vm := .none },
  { cls := 9, slots := #[.int 51], vm := .none },
  { cls := 9, slots := #[.int 52], vm := .none },
  { cls := 9, slots := #[.int 53], vm := .none },
  { cls := 9, slots := #[.int 54], vm := .none },
  { cls := 9, slots := #[.int 55], vm := .none },
  { cls := 9, slots := #[.int 56], vm := .none },
  { cls := 9, slots := #[.int 57], vm := .none },
  { cls := 9, slots := #[.int 58], vm := .none },
  { cls := 9, slots := #[.int 59], vm := .none },
  { cls := 9, slots := #[.int 60], vm := .none },
  { cls := 9, slots := #[.int 61], vm := .none },
  { cls := 9, slots := #[.int 62], vm := .none },
  { cls := 9, slots := #[.int 63], vm := .none },
  { cls := 9, slots := #[.int 64], vm := .none },
  { cls := 9, slots := #[.int 65], vm := .none },
  { cls := 9, slots := #[.int 66], vm := .none },
  { cls := 9, slots := #[.int 67], vm := .none },
  { cls := 9, slots := #[.int 68], vm := .none },
  { cls := 9, slots := #[.int 69], vm := .none },
  { cls := 9, slots := #[.int 70], vm := .none },
  { cls := 9, slots := #[.int 71], vm := .none },
  { cls := 9, slots := #[.int 72], vm := .none },
  { cls := 9, slots := #[.int 73], vm := .none },
  { cls := 9, slots := #[.int 74], vm := .none },
  { cls := 9, slots := #[.int 75], vm := .none },
  { cls := 9, slots := #[.int 76], vm := .none },
  { cls := 9, slots := #[.int 77], vm := .none },
  { cls := 9, slots := #[.int 78], vm := .none },
  { cls := 9, slots := #[.int 79], vm := .none },
  { cls := 9, slots := #[.int 80], vm := .none },
  { cls := 9, slots := #[.int 81], vm := .none },
  { cls := 9, slots := #[.int 82], vm := .none },
  { cls := 9, slots := #[.int 83], vm := .none },
  { cls := 9, slots := #[.int 84], vm := .none },
  { cls := 9, slots := #[.int 85], vm := .none },
  { cls := 9, slots := #[.int 86], vm := .none },
  { cls := 9, slots := #[.int 87], vm := .none },
  { cls := 9, slots := #[.int 88], vm := .none },
  { cls := 9, slots := #[.int 89], vm := .none },
  { cls := 9, slots := #[.int 90], vm := .none },
  { cls := 9, slots := #[.int 91], vm := .none },
  { cls := 9, slots := #[.int 92], vm := .none },
  { cls := 9, slots := #[.int 93], vm := .none },
  { cls := 9, slots := #[.int 94], vm := .none },
  { cls := 9, slots := #[.int 95], vm := .none },
  { cls := 9, slots := #[.int 96], vm := .none },
  { cls := 9, slots := #[.int 97], vm := .none },
  { cls := 9, slots := #[.int 98], vm := .none },
  { cls := 9, slots := #[.int 99], vm := .none },
  { cls := 9, slots := #[.int 100], vm := .none },
  { cls := 9, slots := #[.int 101], vm := .none },
  { cls := 9, slots := #[.int 102], vm := .none },
  { cls := 9, slots := #[.int 103], vm := .none },
  { cls := 9, slots := #[.int 104], vm := .none },
  { cls := 9, slots := #[.int 105], vm := .none },
  { cls := 9, slots := #[.int 106], vm := .none },
  { cls := 9, slots := #[.int 107], vm := .none },
  { cls := 9, slots := #[.int 108], vm := .none },
  { cls := 9, slots := #[.int 109], vm := .none },
  { cls := 9, slots := #[.int 110], vm := .none },
  { cls := 9, slots := #[.int 111], vm := .none },
  { cls := 9, slots := #[.int 112], vm := .none },
  { cls := 9, slots := #[.int 113], vm := .none },
  { cls := 9, slots := #[.int 114], vm := .none },
  { cls := 9, slots := #[.int 115], vm := .none },
  { cls := 9, slots := #[.int 116], vm := .none },
  { cls := 9, slots := #[.int 117], vm := .none },
  { cls := 9, slots := #[.int 118], vm := .none },
  { cls := 9, slots := #[.int 119], vm := .none },
  { cls := 9, slots := #[.int 120], vm := .none },
  { cls := 9, slots := #[.int 121], vm := .none },
  { cls := 9, slots := #[.int 122], vm := .none },
  { cls := 9, slots := #[.int 123], vm := .none },
  { cls := 9, slots := #[.int 124], vm := .none },
  { cls := 9, slots := #[.int 125], vm := .none },
  { cls := 9, slots := #[.int 126], vm := .none },
  { cls := 9, slots := #[.int 127], vm := .none }]
def classes : Array Class := #[k0, k1, k2, k3, k4, k5, k6, k7, k8, k9, k10, k11, k12, k13, k14, k15, k16]
def interned : List (Array UInt16 × Addr) := []
def slotsUsed : Nat := 517
def theMethod : MethodId := ⟨1, 1⟩
def args0 : Array Value := #[.int 500, .int 3, .int 4, .int 5, .int 3]
def aboutOver (below : List Frame) : State where
  vm := { classes := classes, interned := interned.toArray }
  heap := heap
  slotsUsed := slotsUsed
  threads := #[{ frames := .invoking theMethod args0 :: below }]
def below0 : List Frame := [.native { method := ⟨0, 0⟩, args := #[] }]
def about1 : State := aboutOver below0
def p0 : Program := .bare "" "" ""
def e0 : Env := launch0.env 0 0 0
theorem w_frames : about1.frames = Frame.invoking theMethod args0 :: below0 := rfl
set_option maxRecDepth 65536 in
theorem w_args : argsFit about1.vm theMethod args0 = true := by decide +kernel
set_option maxRecDepth 65536 in
theorem w_heap : heapFits about1 = true := by decide +kernel
set_option maxRecDepth 65536 in
theorem w_runnable : about1.curStatus? = some .runnable := by decide +kernel
set_option maxRecDepth 65536 in
theorem w_alone : about1.alone = true := by decide +kernel
set_option maxRecDepth 65536 in
theorem w_named : about1.methodNamed? x = some theMethod := by decide +kernel
set_option maxRecDepth 65536 in
theorem w_hears : about1.hears theMethod below0 = true := by decide +kernel
set_option maxRecDepth 65536 in
theorem w_ripe : about1.ripe theMethod args0 below0 = true := by decide +kernel
theorem w_running : about1.status = .running := rfl
set_option maxRecDepth 65536 in
theorem w_room : about1.hasRoom e0.platform room_1 = true :=
  launch0.hasRoom_least _ room_1 (by decide +kernel) (by decide +kernel) (by decide +kernel) (by decide +kernel) (by decide +kernel) (by decide +kernel)
theorem allAtoms_all (ts : List Jvm.Cond) (a : Array Jvm.Value) (st : Jvm.State) : (allAtoms ts).before a st = ts.all (fun c => c.before a st) := by
  induction ts with
  | nil => rfl
  | cons c t ih =>
    show (Jvm.Cond.and c (allAtoms t)).before a st = _
    rw [Jvm.Cond.before_and, ih, List.all_cons]
def words1 : List Jvm.Cond := Jvm.Cond.code x code maxLocals ret :: tables_1
/-- a 'code' word, met by the world's own term for the bytes: nothing is compared byte by byte -/
theorem code_word {y : MethodName} {bytes : ByteArray} {mx : Nat} {rt : Option FieldType} {a : Array Value} {s : State} {m : MethodId} {meth : Method} {c : Code} (h1 : s.methodNamed? y = some m) (h2 : s.vm.method? m = some meth) (h3 : meth.code = some c) (h4 : c.code = bytes)
    (h5 : (c.maxLocals == mx && c.exceptionTable.isEmpty && decide (c.maxStack ≤ mostOperands) && decide (meth.sig.returnType = rt) && !meth.locks && decide (parseMethodDescriptor y.desc = some meth.sig)) = true) : (Jvm.Cond.code y bytes mx rt).before a s = true := by
  simp only [Bool.and_eq_true, beq_iff_eq, Bool.not_eq_true', decide_eq_true_eq] at h5
  obtain ⟨⟨⟨⟨⟨g1, g2⟩, g3⟩, g4⟩, g5⟩, g6⟩ := h5
  simp [Cond.before, Cond.holds, Cond.value, h1, h2, h3, h4, g1, g2, g3, g4, g5, g6]
def isCode : Jvm.Cond → Bool
  | .code _ _ _ _ => true
  | _ => false
theorem all_split {L : List Jvm.Cond} {P : Jvm.Cond → Bool} (h1 : L.all (fun c => isCode c || P c) = true) (h2 : ∀ c ∈ L.filter isCode, P c = true) : L.all P = true := by
  refine List.all_eq_true.mpr fun c hc => ?_
  have h := List.all_eq_true.mp h1 c hc
  rcases Bool.eq_false_or_eq_true (isCode c) with hi | hi
  · exact h2 c (List.mem_filter.mpr ⟨hc, hi⟩)
  · simpa [hi] using h
set_option maxRecDepth 65536 in
theorem w_c0 : (Jvm.Cond.code x code maxLocals ret).before args0 about1 = true := code_word (m := ⟨1, 1⟩) (meth := k1m1) (c := k1c1) (by decide +kernel) rfl rfl rfl (by decide +kernel)
set_option maxRecDepth 65536 in
theorem w_c1 : (Jvm.Cond.code ({ cls := "com/example/fence_finder/fencefinder/model/FencePlace", name := "<init>", desc := "(II)V" } : Jvm.MethodName) prog_35_method_1_code (3 : Nat) (Option.none : Option Jvm.ClassFile.FieldType)).before args0 about1 = true := code_word (m := ⟨4, 0⟩) (meth := k4m0) (c := k4c0) (by decide +kernel) rfl rfl rfl (by decide +kernel)
set_option maxRecDepth 65536 in
theorem w_c2 : (Jvm.Cond.code ({ cls := "java/lang/Record", name := "<init>", desc := "()V" } : Jvm.MethodName) jdk_30_method_1_code (1 : Nat) (Option.none : Option Jvm.ClassFile.FieldType)).before args0 about1 = true := code_word (m := ⟨2, 0⟩) (meth := k2m0) (c := k2c0) (by decide +kernel) rfl rfl rfl (by decide +kernel)
set_option maxRecDepth 65536 in
theorem w_c3 : (Jvm.Cond.code ({ cls := "java/lang/Object", name := "<init>", desc := "()V" } : Jvm.MethodName) object_method_1_code (1 : Nat) (Option.none : Option Jvm.ClassFile.FieldType)).before args0 about1 = true := code_word (m := ⟨0, 0⟩) (meth := k0m0) (c := k0c0) (by decide +kernel) rfl rfl rfl (by decide +kernel)
set_option maxRecDepth 65536 in
theorem w_c4 : (Jvm.Cond.code ({ cls := "java/lang/Integer", name := "valueOf", desc := "(I)Ljava/lang/Integer;" } : Jvm.MethodName) jdk_33_method_22_code (1 : Nat) (Option.some (Jvm.ClassFile.FieldType.object "java/lang/Integer"))).before args0 about1 = true := code_word (m := ⟨9, 0⟩) (meth := k9m0) (c := k9c0) (by decide +kernel) rfl rfl rfl (by decide +kernel)
set_option maxRecDepth 65536 in
theorem w_c5 : (Jvm.Cond.code ({ cls := "com/example/fence_finder/fencefinder/model/FencePlace", name := "equals", desc := "(Ljava/lang/Object;)Z" } : Jvm.MethodName) prog_35_method_2_code (3 : Nat) (Option.some Jvm.ClassFile.FieldType.boolean)).before args0 about1 = true := code_word (m := ⟨4, 1⟩) (meth := k4m1) (c := k4c1) (by decide +kernel) rfl rfl rfl (by decide +kernel)
set_option maxRecDepth 65536 in
theorem w_c6 : (Jvm.Cond.code ({ cls := "java/lang/Integer", name := "<init>", desc := "(I)V" } : Jvm.MethodName) jdk_33_method_23_code (2 : Nat) (Option.none : Option Jvm.ClassFile.FieldType)).before args0 about1 = true := code_word (m := ⟨9, 1⟩) (meth := k9m1) (c := k9c1) (by decide +kernel) rfl rfl rfl (by decide +kernel)
set_option maxRecDepth 65536 in
theorem w_c7 : (Jvm.Cond.code ({ cls := "java/lang/Number", name := "<init>", desc := "()V" } : Jvm.MethodName) jdk_18_method_1_code (1 : Nat) (Option.none : Option Jvm.ClassFile.FieldType)).before args0 about1 = true := code_word (m := ⟨6, 0⟩) (meth := k6m0) (c := k6c0) (by decide +kernel) rfl rfl rfl (by decide +kernel)
def codes1 : List Jvm.Cond := [Jvm.Cond.code x code maxLocals ret, Jvm.Cond.code ({ cls := "com/example/fence_finder/fencefinder/model/FencePlace", name := "<init>", desc := "(II)V" } : Jvm.MethodName) prog_35_method_1_code (3 : Nat) (Option.none : Option Jvm.ClassFile.FieldType), Jvm.Cond.code ({ cls := "java/lang/Record", name := "<init>", desc := "()V" } : Jvm.MethodName) jdk_30_method_1_code (1 : Nat) (Option.none : Option Jvm.ClassFile.FieldType), Jvm.Cond.code ({ cls := "java/lang/Object", name := "<init>", desc := "()V" } : Jvm.MethodName) object_method_1_code (1 : Nat) (Option.none : Option Jvm.ClassFile.FieldType), Jvm.Cond.code ({ cls := "java/lang/Integer", name := "valueOf", desc := "(I)Ljava/lang/Integer;" } : Jvm.MethodName) jdk_33_method_22_code (1 : Nat) (Option.some (Jvm.ClassFile.FieldType.object "java/lang/Integer")), Jvm.Cond.code ({ cls := "com/example/fence_finder/fencefinder/model/FencePlace", name := "equals", desc := "(Ljava/lang/Object;)Z" } : Jvm.MethodName) prog_35_method_2_code (3 : Nat) (Option.some Jvm.ClassFile.FieldType.boolean), Jvm.Cond.code ({ cls := "java/lang/Integer", name := "<init>", desc := "(I)V" } : Jvm.MethodName) jdk_33_method_23_code (2 : Nat) (Option.none : Option Jvm.ClassFile.FieldType), Jvm.Cond.code ({ cls := "java/lang/Number", name := "<init>", desc := "()V" } : Jvm.MethodName) jdk_18_method_1_code (1 : Nat) (Option.none : Option Jvm.ClassFile.FieldType)]
set_option maxRecDepth 65536 in
theorem codes_eq : words1.filter isCode = codes1 := rfl
theorem w_codes : ∀ c ∈ words1.filter isCode, c.before args0 about1 = true := by
  rw [codes_eq]
  intro c hc
  simp only [codes1, List.mem_cons, List.not_mem_nil, or_false] at hc
  rcases hc with rfl | rfl | rfl | rfl | rfl | rfl | rfl | rfl
  · exact w_c0
  · exact w_c1
  · exact w_c2
  · exact w_c3
  · exact w_c4
  · exact w_c5
  · exact w_c6
  · exact w_c7
set_option maxRecDepth 65536 in
theorem w_t1 : (words1.take 24).all (fun c => isCode c || c.before args0 about1) = true := by decide +kernel
set_option maxRecDepth 65536 in
theorem w_t2 : ((words1.drop 24).take 24).all (fun c => isCode c || c.before args0 about1) = true := by decide +kernel
set_option maxRecDepth 65536 in
theorem w_t3 : ((words1.drop 24).drop 24).all (fun c => isCode c || c.before args0 about1) = true := by decide +kernel
theorem w_tables : (allAtoms (Jvm.Cond.code x code maxLocals ret :: tables_1)).before args0 about1 = true := by
  rw [allAtoms_all]
  show words1.all (fun c => c.before args0 about1) = true
  refine all_split ?_ w_codes
  rw [← List.take_append_drop 24 words1, List.all_append, w_t1, ← List.take_append_drop 24 (words1.drop 24), List.all_append, w_t2, w_t3]
  rfl
set_option maxRecDepth 65536 in
theorem w_rest : rest_1_c.before args0 about1 = true := by decide +kernel
set_option maxRecDepth 65536 in
theorem w_case : (Jvm.Cond.and given_1 narrow_1).before args0 about1 = true := by decide +kernel
theorem w_applies : (headSpec (Jvm.Cond.code x code maxLocals ret :: tables_1) room_1).applies x e0.platform about1 = true :=
  (Spec.applies_iff w_frames).mpr ⟨w_running, w_runnable, w_alone, w_named, w_hears, w_ripe, w_room, w_tables⟩
theorem atStart : AtStart classFile x code maxLocals ret World_1 tables_1 room_1 Calls_1 rest_1 Pre_1 launch0 p0 e0 about1 theMethod args0 below0 :=
  ⟨lists_1, trivial, launch0.admits_env _ _ _, launch0.least_env, fairChoices_fair.cas, fairChoices_fair.clock, w_frames, w_args, w_heap, w_applies, trivial, w_rest, w_case⟩
end start1
theorem witness_1 : WitnessClaimed_1 := ⟨start1.p0, start1.e0, start1.about1, start1.theMethod, start1.args0, start1.below0, start1.atStart⟩
end Jvm.Pilot.@@N@@
