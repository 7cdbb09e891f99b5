import JvmDerived
import JvmDerived.Pilot.@@N@@Statement
import JvmDerived.Pilot.@@N@@Code
set_option linter.unusedVariables false
set_option linter.unusedSimpArgs false
namespace Jvm.RoadKit
open Sem ClassFile Op Lib Jvm.Stand Jvm.Free Jvm.LawKit
section New
variable {p : Program} {l : Launch} {e : Env} {R : Room} {s : State} {m : MethodId} {args : Array Value} {below : List Frame} {meth : Method} {c : Code} {T : State} {locs : List Loc} {cells slots : Nat}
theorem retI (X : Stand p l e R s m args below meth c T locs cells slots) (hx : p.tables.exec = Jvm.exec) {pc : Nat} {Ls : Array Slot} {z : Int32} {rest : List Value} (hret : meth.sig.returnType = some .int) (hd : decode c.code pc = .ok (.ireturn, 1)) {fs : List Frame}
    (hl : ∀ (f : JFrame) (acts : List Action), f.method = m → f.locked = none → f.entered = [] → (doReturn e (T.setTop f) acts (some (.int z))).1 = T.setFrames fs) : Steps p.tables e below (T.setTop (mkF m pc Ls (.int z :: rest))) (T.setFrames fs) := by
  have hm' : T.vm.method? m = some meth := X.method'
  have hn : narrow .int (.int z) = .int z := rfl
  show Steps p.tables e below (T.setTop { method := m, pc := pc, locals := Ls, stack := _ :: rest, locked := none }) _
  jvm_step X.here [X.here.top, hx, hd, hm', hret, hn]
  first | (intro acts; rw [hl _ acts rfl rfl rfl]) | rw [hl _ _ rfl rfl rfl]
  exact Steps.refl _
end New
end Jvm.RoadKit
namespace Jvm.Pilot.@@N@@
open Jvm Jvm.ClassFile Sem Op Lib Jvm.Free Jvm.Stand Jvm.LawKit Jvm.RoadKit Bundle Jvm.Pilot.@@N@@.Jvm.D
/-- from the state F the walk ends as Q says (what it returns, the heap, the places written) -/
def Ends (p : Program) (e : Env) (below : List Frame) (s : State) (R : Room) (Q : Option Value → Heap → List Loc → Prop) (F : State) : Prop :=
  ∃ t o, Steps p.tables e below F t ∧ t.status = .running ∧ Ended t below o ∧ ∃ v L, o = .returned v ∧ Q v t.heap L ∧ FrameEnd s o t L R.cells R.slots
theorem Ends.of {p : Program} {e : Env} {below : List Frame} {s : State} {R : Room} {Q : Option Value → Heap → List Loc → Prop} {F F' : State} (h : ∀ t, Steps p.tables e below F' t → Steps p.tables e below F t) (k : Ends p e below s R Q F') : Ends p e below s R Q F := by
  obtain ⟨t, o, h1, r⟩ := k
  exact ⟨t, o, h t h1, r⟩
theorem Ends.st {p : Program} {e : Env} {below : List Frame} {s : State} {R : Room} {Q : Option Value → Heap → List Loc → Prop} {F F' : State} (h : Steps p.tables e below F F') (k : Ends p e below s R Q F') : Ends p e below s R Q F := Ends.of (fun _ q => h.trans q) k

theorem own_k (x : Int32) : -3 ≤ ((x &&& (7 : Int32)) - (3 : Int32)).toInt ∧ ((x &&& (7 : Int32)) - (3 : Int32)).toInt ≤ 4 := by
  have h := c_mask x (7 : Int32) 3 (by decide) (by decide)
  have h2 := c_isub (x &&& (7 : Int32)) (3 : Int32)
  have h3 := rng32 ((x &&& (7 : Int32)) - (3 : Int32))
  have z : ((3 : Int32)).toInt = 3 := by decide
  rw [z] at h2
  omega
theorem own_cmp {x : Int32} (h : -3 ≤ x.toInt ∧ x.toInt ≤ 4) : cmpValue (FP.dcmp (FP.i2d x) (0 : UInt64)) .l = (0 : Int32) ↔ x = (0 : Int32) := by
  have e0 : (0 : UInt64) = FP.l2d (0 : Int64) := by decide +kernel
  have e1 := c_i2l x
  have z : ((0 : Int64)).toInt = 0 := by decide
  have z' : ((0 : Int32)).toInt = 0 := by decide
  rw [i2d_w, e0, dcmpV_w (a := x.toInt64) (b := 0) (by unfold B53; omega) (by unfold B53; omega), lw_eq]
  constructor
  · intro q
    have := congrArg Int64.toInt q
    exact Int32.toInt_inj.mp (by omega)
  · intro q
    subst q
    decide
theorem own_c0 : cmpValue (FP.dcmp (0 : UInt64) (0 : UInt64)) .l = (0 : Int32) := by decide +kernel
theorem pd_0 : parseMethodDescriptor "(J)V" = some ⟨[.long], none⟩ := by decide +kernel
theorem pd_1 : parseMethodDescriptor "(JDLjava/util/random/RandomGenerator;)V" = some ⟨[.long, .double, (.object "java/util/random/RandomGenerator")], none⟩ := by decide +kernel
theorem pd_2 : parseMethodDescriptor "()V" = some ⟨[], none⟩ := by decide +kernel
theorem pd_3 : parseMethodDescriptor "()Z" = some ⟨[], some .boolean⟩ := by decide +kernel
theorem d5_0 : decode jdk_22_method_1_code 0 = .ok (.aload_n 0, 1) := by decide +kernel
theorem d5_1 : decode jdk_22_method_1_code 1 = .ok (.invokespecial 1, 3) := by decide +kernel
theorem d5_4 : decode jdk_22_method_1_code 4 = .ok (.return_, 1) := by decide +kernel
theorem pn_0 : plainName "java/util/AbstractCollection" = true := by first | (simp [plainName, overriddenIn]; done) | decide +kernel
def Q5 (Z : State) (a1 : Addr) (h0 : Heap) (n0 : Nat) (v : Option Value) (h : Heap) (L : List Loc) : Prop := v = none ∧ Fr n0 L ∧ h = h0
set_option maxRecDepth 65536 in
set_option maxHeartbeats 40000000 in
theorem rm5 (l : Launch) (Z : State) (a0 : Array Value) (hw : ∀ d ∈ tables_1, d.before a0 Z = true) (ws : List Jvm.Cond) (a1 : Addr) (h0 : Heap) (n0 : Nat) (Z0 : n0 ≤ h0.size) :
    MetFree l (⟨"java/util/AbstractCollection", "<init>", "()V"⟩ : MethodName) (head1 (Jvm.Cond.code (⟨"java/util/AbstractCollection", "<init>", "()V"⟩ : MethodName) jdk_22_method_1_code 1 none :: ws) ({ frames := 1, cells := 0, slots := 0, locals := 12 } : Room)) (fun a U => a = #[(.ref a1)] ∧ Z.Warmed39 U.vm ∧ U.heap = h0) (fun _ _ _ _ _ => True) (fun _ U o U' => ∃ v L, o = .returned v ∧ Q5 Z a1 h0 n0 v U'.heap L ∧ FrameEnd U o U' L ({ frames := 1, cells := 0, slots := 0, locals := 12 } : Room).cells ({ frames := 1, cells := 0, slots := 0, locals := 12 } : Room).slots) := by
  refine MetFree.of_bodySF (plainFor_of_name pn_0) hisR ?_
  intro p e s m args below meth c s₁ Bd hml0 hP hK
  obtain ⟨rfl, hZ, hh⟩ := hP
  have hx := Bd.exec
  have hby := Bd.bytes
  have hml : c.maxLocals = 1 := hml0
  have hown : s.vm.findClass "java/util/AbstractCollection" = some m.cls := findClass_of_methodNamed Bd.named
  have hnm := (name_of_methodNamed Bd.named Bd.method).1
  have X0 : Stand p l e ({ frames := 1, cells := 0, slots := 0, locals := 12 } : Room) s m #[(.ref a1)] below meth c s₁ [] 0 0 := Stand.of_body Bd
  have e0 : s₁.heap = h0 := by rw [← hh, Bd.state]; rfl
  have N0 := Fr.nil n0
  have eF : entryFrame m #[(.ref a1)] 1 = mkF m 0 #[.val (.ref a1)] [] := by first | (simp [entryFrame, mkF, argsToLocals, Value.category]; done) | rfl
  show Ends p e below s ({ frames := 1, cells := 0, slots := 0, locals := 12 } : Room) (Q5 Z a1 h0 n0) (s₁.setTop (entryFrame m #[(.ref a1)] 1))
  rw [eF]
  refine Ends.of (F' := s₁.setTop (mkF m 1 #[.val (.ref a1)] [(.ref a1)])) (fun _ kt => ?_) ?_
  · show Steps p.tables e below (s₁.setTop (mkF m 0 #[.val (.ref a1)] [])) _
    refine XS.aloadN X0.here hx rfl (hb hby d5_0) rfl rfl ?_
    exact kt
  obtain ⟨T1, X1, e1, st1⟩ := initO X0 hx hZ hown (hw _ (List.mem_of_getElem? (i := 24) rfl)) (hw _ (List.mem_of_getElem? (i := 10) rfl)) (hw _ (List.mem_of_getElem? (i := 11) rfl)) e0 (g := (mkF m 1 #[.val (.ref a1)] [(.ref a1)])) rfl (by rw [hml]; rfl) rfl (hb hby d5_1) (by decide) (W := 0) (by show 2 * 0 + _ ≤ _; exact Nat.le_of_eq rfl) (by decide)
  refine Ends.of st1 ?_
  obtain ⟨fs, hr, hrun, hended, hW, hsame⟩ := X1.leave (v := none) (fun _ => rfl)
  exact ⟨_, _, X1.returnOut hx Bd.returns (hb hby d5_4) hr, hrun, hended, _, _, rfl, ⟨rfl, N0, e1⟩, ⟨_, rfl⟩, hW, hsame.mono (by decide) (by decide)⟩
theorem d4_0 : decode jdk_21_method_3_code 0 = .ok (.aload_n 0, 1) := by decide +kernel
theorem d4_1 : decode jdk_21_method_3_code 1 = .ok (.invokespecial 42, 3) := by decide +kernel
theorem d4_4 : decode jdk_21_method_3_code 4 = .ok (.aload_n 0, 1) := by decide +kernel
theorem d4_5 : decode jdk_21_method_3_code 5 = .ok (.bipush 17, 2) := by decide +kernel
theorem d4_7 : decode jdk_21_method_3_code 7 = .ok (.anewarray 47, 3) := by decide +kernel
theorem d4_10 : decode jdk_21_method_3_code 10 = .ok (.putfield 3, 3) := by decide +kernel
theorem d4_13 : decode jdk_21_method_3_code 13 = .ok (.return_, 1) := by decide +kernel
theorem pn_1 : plainName "java/util/ArrayDeque" = true := by first | (simp [plainName, overriddenIn]; done) | decide +kernel
def Q4 (Z : State) (a1 : Addr) (h0 : Heap) (n0 : Nat) (v : Option Value) (h : Heap) (L : List Loc) : Prop := v = none ∧ Fr n0 L ∧ Keep h0 h [a1]
set_option maxRecDepth 65536 in
set_option maxHeartbeats 40000000 in
theorem rm4 (l : Launch) (Z : State) (a0 : Array Value) (hw : ∀ d ∈ tables_1, d.before a0 Z = true) (ws : List Jvm.Cond) (a1 : Addr) (h0 : Heap) (n0 : Nat) (Z0 : n0 ≤ h0.size) (E_a : Exa Z h0 a1 "java/util/ArrayDeque") (F_e : Fld Z h0 a1 "java/util/ArrayDeque" "elements" "[Ljava/lang/Object;" .null) (g_a : n0 ≤ a1) :
    MetFree l (⟨"java/util/ArrayDeque", "<init>", "()V"⟩ : MethodName) (head1 (Jvm.Cond.code (⟨"java/util/ArrayDeque", "<init>", "()V"⟩ : MethodName) jdk_21_method_3_code 1 none :: ws) ({ frames := 2, cells := 1, slots := 17, locals := 24 } : Room)) (fun a U => a = #[(.ref a1)] ∧ Z.Warmed39 U.vm ∧ U.heap = h0) (fun _ _ _ _ _ => True) (fun _ U o U' => ∃ v L, o = .returned v ∧ Q4 Z a1 h0 n0 v U'.heap L ∧ FrameEnd U o U' L ({ frames := 2, cells := 1, slots := 17, locals := 24 } : Room).cells ({ frames := 2, cells := 1, slots := 17, locals := 24 } : Room).slots) := by
  refine MetFree.of_bodySF (plainFor_of_name pn_1) hisR ?_
  intro p e s m args below meth c s₁ Bd hml0 hP hK
  obtain ⟨rfl, hZ, hh⟩ := hP
  have hx := Bd.exec
  have hby := Bd.bytes
  have hml : c.maxLocals = 1 := hml0
  have hown : s.vm.findClass "java/util/ArrayDeque" = some m.cls := findClass_of_methodNamed Bd.named
  have hnm := (name_of_methodNamed Bd.named Bd.method).1
  have X0 : Stand p l e ({ frames := 2, cells := 1, slots := 17, locals := 24 } : Room) s m #[(.ref a1)] below meth c s₁ [] 0 0 := Stand.of_body Bd
  have e0 : s₁.heap = h0 := by rw [← hh, Bd.state]; rfl
  have N0 := Fr.nil n0
  have eF : entryFrame m #[(.ref a1)] 1 = mkF m 0 #[.val (.ref a1)] [] := by first | (simp [entryFrame, mkF, argsToLocals, Value.category]; done) | rfl
  show Ends p e below s ({ frames := 2, cells := 1, slots := 17, locals := 24 } : Room) (Q4 Z a1 h0 n0) (s₁.setTop (entryFrame m #[(.ref a1)] 1))
  rw [eF]
  refine Ends.of (F' := s₁.setTop (mkF m 1 #[.val (.ref a1)] [(.ref a1)])) (fun _ kt => ?_) ?_
  · show Steps p.tables e below (s₁.setTop (mkF m 0 #[.val (.ref a1)] [])) _
    refine XS.aloadN X0.here hx rfl (hb hby d4_0) rfl rfl ?_
    exact kt
  obtain ⟨_, _, ⟨T2, L2, k2, n2⟩, -, X2, ⟨Lc2, hQ2, l2, y2, z2⟩, st2⟩ := X0.specialBack hx (y := (⟨"java/util/AbstractCollection", "<init>", "()V"⟩ : MethodName)) rfl hown (mvT hZ (hw _ (List.mem_of_getElem? (i := 18) rfl))) (mvT hZ (hw _ (List.mem_of_getElem? (i := 19) rfl))) (mvT hZ (hw _ (List.mem_of_getElem? (i := 23) rfl))) (by decide) (backOf (W := 0) (rm5 l Z a0 hw [] a1 h0 n0 Z0) hZ (hw _ (List.mem_of_getElem? (i := 23) rfl)) (hw _ (List.mem_of_getElem? (i := 22) rfl)) (by decide) (by decide)) (g := (mkF m 1 #[.val (.ref a1)] [(.ref a1)])) rfl (by rw [hml]; rfl) (Steps.refl _) (a := a1) (argsL := []) (rest := []) (lenOf pd_2 rfl) rfl (by show 2 * 0 + _ ≤ _; exact Nat.le_of_eq rfl) (hb hby d4_1) (fun _ _ => ⟨rfl, e0, (by decide : 0 + 0 ≤ _), (by decide : 0 + 0 ≤ _)⟩)
  dsimp only [Pt.U, Pt.locs, Pt.cells, Pt.slots] at X2 l2 y2 z2 st2 hQ2
  subst l2 y2 z2
  obtain ⟨rfl, N2q, e2⟩ := hQ2
  have N2 := Fr.app N0 N2q
  refine Ends.st st2 ?_
  refine Ends.of (F' := T2.setTop (mkF m 7 #[.val (.ref a1)] [(.int (17 : Int32)), (.ref a1)])) (fun _ kt => ?_) ?_
  · show Steps p.tables e below (T2.setTop (mkF m 4 #[.val (.ref a1)] [])) _
    refine XS.aloadN X2.here hx rfl (hb hby d4_4) rfl rfl ?_
    show Steps p.tables e below (T2.setTop (mkF m 5 #[.val (.ref a1)] [(.ref a1)])) _
    refine XS.bipush X2.here hx rfl (hb hby d4_5) ?_
    exact kt
  obtain ⟨T3, h3, k3, X3, e3, E3, A3, O3, st3⟩ := newR X2 hx hZ hown (hw _ (List.mem_of_getElem? (i := 25) rfl)) (hw _ (List.mem_of_getElem? (i := 26) rfl)) e2 (g := (mkF m 7 #[.val (.ref a1)] [(.int (17 : Int32)), (.ref a1)])) rfl (hb hby d4_7) rfl (by decide) (cap := 17) (by decide) (by decide) (by decide) (by decide)
  obtain ⟨b3, g3⟩ : ∃ z, z = h0.size := ⟨_, rfl⟩
  rw [← g3] at A3 st3
  refine Ends.of st3 ?_
  obtain ⟨T4, h4, X4, e4, W4, st4⟩ := putF X3 hx hZ hown (host := "") (Or.inl (hw _ (List.mem_of_getElem? (i := 27) rfl))) Via.refl e3 (F_e.ext E3) (E_a.ext E3) (Or.inl (hw _ (List.mem_of_getElem? (i := 28) rfl))) (hw _ (List.mem_of_getElem? (i := 13) rfl)) (ty := (.array (.object "java/lang/Object"))) (by decide) rfl rfl (g := (mkF m 10 #[.val (.ref a1)] [(.ref b3), (.ref a1)])) rfl rfl (hb hby d4_10)
  refine Ends.of st4 ?_
  have N4 := Fr.snoc X4 N2 g_a
  have K_1 : Keep h0 h4 [a1] := ((Keep.refl h0 [a1]).ext E3).wr W4 (Or.inl (List.mem_of_getElem? (i := 0) rfl))
  rw [← e4] at K_1
  obtain ⟨fs, hr, hrun, hended, hW, hsame⟩ := X4.leave (v := none) (fun _ => rfl)
  exact ⟨_, _, X4.returnOut hx Bd.returns (hb hby d4_13) hr, hrun, hended, _, _, rfl, ⟨rfl, N4, K_1⟩, ⟨_, rfl⟩, hW, hsame.mono (by decide) (by decide)⟩
theorem d2_0 : decode prog_121_method_2_code 0 = .ok (.aload_n 0, 1) := by decide +kernel
theorem d2_1 : decode prog_121_method_2_code 1 = .ok (.invokespecial 7, 3) := by decide +kernel
theorem d2_4 : decode prog_121_method_2_code 4 = .ok (.aload_n 0, 1) := by decide +kernel
theorem d2_5 : decode prog_121_method_2_code 5 = .ok (.new 12, 3) := by decide +kernel
theorem d2_8 : decode prog_121_method_2_code 8 = .ok (.dup, 1) := by decide +kernel
theorem d2_9 : decode prog_121_method_2_code 9 = .ok (.invokespecial 14, 3) := by decide +kernel
theorem d2_12 : decode prog_121_method_2_code 12 = .ok (.putfield 15, 3) := by decide +kernel
theorem d2_15 : decode prog_121_method_2_code 15 = .ok (.aload_n 0, 1) := by decide +kernel
theorem d2_16 : decode prog_121_method_2_code 16 = .ok (.lload_n 1, 1) := by decide +kernel
theorem d2_17 : decode prog_121_method_2_code 17 = .ok (.putfield 19, 3) := by decide +kernel
theorem d2_20 : decode prog_121_method_2_code 20 = .ok (.aload_n 0, 1) := by decide +kernel
theorem d2_21 : decode prog_121_method_2_code 21 = .ok (.dload_n 3, 1) := by decide +kernel
theorem d2_22 : decode prog_121_method_2_code 22 = .ok (.putfield 23, 3) := by decide +kernel
theorem d2_25 : decode prog_121_method_2_code 25 = .ok (.aload_n 0, 1) := by decide +kernel
theorem d2_26 : decode prog_121_method_2_code 26 = .ok (.aload 5, 2) := by decide +kernel
theorem d2_28 : decode prog_121_method_2_code 28 = .ok (.putfield 27, 3) := by decide +kernel
theorem d2_31 : decode prog_121_method_2_code 31 = .ok (.return_, 1) := by decide +kernel
theorem pn_2 : plainName "com/example/farspan/farspan/runtime/Link" = true := by first | (simp [plainName, overriddenIn]; done) | decide +kernel
def Q2 (Z : State) (a1 : Addr) (q2 : Int64) (d3 : UInt64) (h0 : Heap) (n0 : Nat) (v : Option Value) (h : Heap) (L : List Loc) : Prop := v = none ∧ Fr n0 L ∧ Keep h0 h [a1] ∧ Exa Z h a1 "com/example/farspan/farspan/runtime/Link" ∧ Fld Z h a1 "com/example/farspan/farspan/runtime/Link" "meanNanos" "J" (.long q2) ∧ Fld Z h a1 "com/example/farspan/farspan/runtime/Link" "deviationNanos" "D" (.double d3)
set_option maxRecDepth 65536 in
set_option maxHeartbeats 40000000 in
theorem rm2 (l : Launch) (Z : State) (a0 : Array Value) (hw : ∀ d ∈ tables_1, d.before a0 Z = true) (ws : List Jvm.Cond) (a1 : Addr) (q2 : Int64) (d3 : UInt64) (h0 : Heap) (n0 : Nat) (Z0 : n0 ≤ h0.size) (E_a : Exa Z h0 a1 "com/example/farspan/farspan/runtime/Link") (F_held : Fld Z h0 a1 "com/example/farspan/farspan/runtime/Link" "held" "Ljava/util/Queue;" .null) (F_meanNanos : Fld Z h0 a1 "com/example/farspan/farspan/runtime/Link" "meanNanos" "J" (.long (0 : Int64))) (F_deviationNanos : Fld Z h0 a1 "com/example/farspan/farspan/runtime/Link" "deviationNanos" "D" (.double (0 : UInt64))) (F_random : Fld Z h0 a1 "com/example/farspan/farspan/runtime/Link" "random" "Ljava/util/random/RandomGenerator;" .null) (g_a : n0 ≤ a1) :
    MetFree l (⟨"com/example/farspan/farspan/runtime/Link", "<init>", "(JDLjava/util/random/RandomGenerator;)V"⟩ : MethodName) (head1 (Jvm.Cond.code (⟨"com/example/farspan/farspan/runtime/Link", "<init>", "(JDLjava/util/random/RandomGenerator;)V"⟩ : MethodName) prog_121_method_2_code 6 none :: ws) ({ frames := 3, cells := 2, slots := 20, locals := 38 } : Room)) (fun a U => a = #[(.ref a1), (.long q2), (.double d3), .null] ∧ Z.Warmed39 U.vm ∧ U.heap = h0) (fun _ _ _ _ _ => True) (fun _ U o U' => ∃ v L, o = .returned v ∧ Q2 Z a1 q2 d3 h0 n0 v U'.heap L ∧ FrameEnd U o U' L ({ frames := 3, cells := 2, slots := 20, locals := 38 } : Room).cells ({ frames := 3, cells := 2, slots := 20, locals := 38 } : Room).slots) := by
  refine MetFree.of_bodySF (plainFor_of_name pn_2) hisR ?_
  intro p e s m args below meth c s₁ Bd hml0 hP hK
  obtain ⟨rfl, hZ, hh⟩ := hP
  have hx := Bd.exec
  have hby := Bd.bytes
  have hml : c.maxLocals = 6 := hml0
  have hown : s.vm.findClass "com/example/farspan/farspan/runtime/Link" = some m.cls := findClass_of_methodNamed Bd.named
  have hnm := (name_of_methodNamed Bd.named Bd.method).1
  have X0 : Stand p l e ({ frames := 3, cells := 2, slots := 20, locals := 38 } : Room) s m #[(.ref a1), (.long q2), (.double d3), .null] below meth c s₁ [] 0 0 := Stand.of_body Bd
  have e0 : s₁.heap = h0 := by rw [← hh, Bd.state]; rfl
  have N0 := Fr.nil n0
  have eF : entryFrame m #[(.ref a1), (.long q2), (.double d3), .null] 6 = mkF m 0 #[.val (.ref a1), .val (.long q2), .second, .val (.double d3), .second, .val .null] [] := by first | (simp [entryFrame, mkF, argsToLocals, Value.category]; done) | rfl
  show Ends p e below s ({ frames := 3, cells := 2, slots := 20, locals := 38 } : Room) (Q2 Z a1 q2 d3 h0 n0) (s₁.setTop (entryFrame m #[(.ref a1), (.long q2), (.double d3), .null] 6))
  rw [eF]
  refine Ends.of (F' := s₁.setTop (mkF m 1 #[.val (.ref a1), .val (.long q2), .second, .val (.double d3), .second, .val .null] [(.ref a1)])) (fun _ kt => ?_) ?_
  · show Steps p.tables e below (s₁.setTop (mkF m 0 #[.val (.ref a1), .val (.long q2), .second, .val (.double d3), .second, .val .null] [])) _
    refine XS.aloadN X0.here hx rfl (hb hby d2_0) rfl rfl ?_
    exact kt
  obtain ⟨T5, X5, e5, st5⟩ := initO X0 hx hZ hown (hw _ (List.mem_of_getElem? (i := 9) rfl)) (hw _ (List.mem_of_getElem? (i := 10) rfl)) (hw _ (List.mem_of_getElem? (i := 11) rfl)) e0 (g := (mkF m 1 #[.val (.ref a1), .val (.long q2), .second, .val (.double d3), .second, .val .null] [(.ref a1)])) rfl (by rw [hml]; rfl) rfl (hb hby d2_1) (by decide) (W := 0) (by show 2 * 0 + _ ≤ _; exact Nat.le_of_eq rfl) (by decide)
  refine Ends.of st5 ?_
  refine Ends.of (F' := T5.setTop (mkF m 5 #[.val (.ref a1), .val (.long q2), .second, .val (.double d3), .second, .val .null] [(.ref a1)])) (fun _ kt => ?_) ?_
  · show Steps p.tables e below (T5.setTop (mkF m 4 #[.val (.ref a1), .val (.long q2), .second, .val (.double d3), .second, .val .null] [])) _
    refine XS.aloadN X5.here hx rfl (hb hby d2_4) rfl rfl ?_
    exact kt
  obtain ⟨T6, h6, X6, e6, E6, A6, D6, -, st6⟩ := newO X5 hx hZ hown (hw _ (List.mem_of_getElem? (i := 12) rfl)) (hw _ (List.mem_of_getElem? (i := 13) rfl)) (hw _ (List.mem_of_getElem? (i := 14) rfl)) e5 (g := (mkF m 5 #[.val (.ref a1), .val (.long q2), .second, .val (.double d3), .second, .val .null] [(.ref a1)])) rfl (hb hby d2_5) (by decide) (by decide)
  obtain ⟨b6, g6⟩ : ∃ z, z = h0.size := ⟨_, rfl⟩
  rw [← g6] at A6 D6 st6
  have F_elements_b6 : Fld Z h6 b6 "java/util/ArrayDeque" "elements" "[Ljava/lang/Object;" .null := D6 (Or.inl (hw _ (List.mem_of_getElem? (i := 28) rfl))) (ty := (.array (.object "java/lang/Object"))) (by decide)
  refine Ends.of st6 ?_
  have Z1 : n0 ≤ h6.size := Nat.le_trans Z0 E6.1
  have gb : n0 ≤ b6 := Nat.le_trans Z0 (Nat.le_of_eq g6.symm)
  refine Ends.of (F' := T6.setTop (mkF m 9 #[.val (.ref a1), .val (.long q2), .second, .val (.double d3), .second, .val .null] [(.ref b6), (.ref b6), (.ref a1)])) (fun _ kt => ?_) ?_
  · show Steps p.tables e below (T6.setTop (mkF m 8 #[.val (.ref a1), .val (.long q2), .second, .val (.double d3), .second, .val .null] [(.ref b6), (.ref a1)])) _
    refine XS.dup X6.here hx rfl (hb hby d2_8) rfl rfl ?_
    exact kt
  obtain ⟨_, _, ⟨T7, L7, k7, n7⟩, -, X7, ⟨Lc7, hQ7, l7, y7, z7⟩, st7⟩ := X6.specialBack hx (y := (⟨"java/util/ArrayDeque", "<init>", "()V"⟩ : MethodName)) rfl hown (mvT hZ (hw _ (List.mem_of_getElem? (i := 15) rfl))) (mvT hZ (hw _ (List.mem_of_getElem? (i := 16) rfl))) (mvT hZ (hw _ (List.mem_of_getElem? (i := 17) rfl))) (by decide) (backOf (W := 2) (rm4 l Z a0 hw [] b6 h6 n0 Z1 A6 F_elements_b6 gb) hZ (hw _ (List.mem_of_getElem? (i := 17) rfl)) (hw _ (List.mem_of_getElem? (i := 14) rfl)) (by decide) (by decide)) (g := (mkF m 9 #[.val (.ref a1), .val (.long q2), .second, .val (.double d3), .second, .val .null] [(.ref b6), (.ref b6), (.ref a1)])) rfl (by rw [hml]; rfl) (Steps.refl _) (a := b6) (argsL := []) (rest := [(.ref b6), (.ref a1)]) (lenOf pd_2 rfl) rfl (by show 2 * 0 + _ ≤ _; exact Nat.le_of_eq rfl) (hb hby d2_9) (fun _ _ => ⟨rfl, e6, (by decide : 1 + 1 ≤ _), (by decide : 3 + 17 ≤ _)⟩)
  dsimp only [Pt.U, Pt.locs, Pt.cells, Pt.slots] at X7 l7 y7 z7 st7 hQ7
  subst l7 y7 z7
  obtain ⟨rfl, N7q, K7⟩ := hQ7
  have N7 := Fr.app N0 N7q
  refine Ends.st st7 ?_
  have nab : a1 ∉ [b6] := ninS (Nat.ne_of_lt (Nat.lt_of_lt_of_le E_a.lt (Nat.le_of_eq g6.symm))) nin0
  have K_0 : Keep h0 T7.heap [a1] := ((Keep.refl h0 [a1]).ext E6).trans K7 (allS (Or.inr (Nat.le_of_eq g6.symm)) all0)
  have E_0 := (E_a.ext E6).keep K7
  have F0held := (F_held.ext E6).keep K7 nab
  have F0meanNanos := (F_meanNanos.ext E6).keep K7 nab
  have F0deviationNanos := (F_deviationNanos.ext E6).keep K7 nab
  have F0random := (F_random.ext E6).keep K7 nab
  obtain ⟨T8, h8, X8, e8, W8, st8⟩ := putF X7 hx hZ hown (host := "") (Or.inl (hw _ (List.mem_of_getElem? (i := 29) rfl))) Via.refl rfl F0held E_0 (Or.inr ⟨(hw _ (List.mem_of_getElem? (i := 30) rfl)), rfl, hnm⟩) (hw _ (List.mem_of_getElem? (i := 1) rfl)) (ty := (.object "java/util/Queue")) (by decide) rfl rfl (g := (mkF m 12 #[.val (.ref a1), .val (.long q2), .second, .val (.double d3), .second, .val .null] [(.ref b6), (.ref a1)])) rfl rfl (hb hby d2_12)
  refine Ends.of st8 ?_
  have N8 := Fr.snoc X8 N7 g_a
  have F1held := F0held.same W8
  have F1meanNanos := F0meanNanos.other W8 (Or.inr (slot_ne (Or.inr (hw _ (List.mem_of_getElem? (i := 32) rfl))) (Or.inr (hw _ (List.mem_of_getElem? (i := 30) rfl))) (by decide) (t := .long) (t' := (.object "java/util/Queue")) (by decide) (by decide)))
  have F1deviationNanos := F0deviationNanos.other W8 (Or.inr (slot_ne (Or.inr (hw _ (List.mem_of_getElem? (i := 34) rfl))) (Or.inr (hw _ (List.mem_of_getElem? (i := 30) rfl))) (by decide) (t := .double) (t' := (.object "java/util/Queue")) (by decide) (by decide)))
  have F1random := F0random.other W8 (Or.inr (slot_ne (Or.inr (hw _ (List.mem_of_getElem? (i := 36) rfl))) (Or.inr (hw _ (List.mem_of_getElem? (i := 30) rfl))) (by decide) (t := (.object "java/util/random/RandomGenerator")) (t' := (.object "java/util/Queue")) (by decide) (by decide)))
  have E_1 := E_0.wr W8
  have K_1 : Keep h0 h8 [a1] := K_0.wr W8 (Or.inl (List.mem_of_getElem? (i := 0) rfl))
  refine Ends.of (F' := T8.setTop (mkF m 17 #[.val (.ref a1), .val (.long q2), .second, .val (.double d3), .second, .val .null] [(.long q2), (.ref a1)])) (fun _ kt => ?_) ?_
  · show Steps p.tables e below (T8.setTop (mkF m 15 #[.val (.ref a1), .val (.long q2), .second, .val (.double d3), .second, .val .null] [])) _
    refine XS.aloadN X8.here hx rfl (hb hby d2_15) rfl rfl ?_
    show Steps p.tables e below (T8.setTop (mkF m 16 #[.val (.ref a1), .val (.long q2), .second, .val (.double d3), .second, .val .null] [(.ref a1)])) _
    refine XS.lloadN X8.here hx rfl (hb hby d2_16) rfl ?_
    exact kt
  obtain ⟨T9, h9, X9, e9, W9, st9⟩ := putF X8 hx hZ hown (host := "") (Or.inl (hw _ (List.mem_of_getElem? (i := 31) rfl))) Via.refl e8 F1meanNanos E_1 (Or.inr ⟨(hw _ (List.mem_of_getElem? (i := 32) rfl)), rfl, hnm⟩) (hw _ (List.mem_of_getElem? (i := 1) rfl)) (ty := .long) (by decide) rfl rfl (g := (mkF m 17 #[.val (.ref a1), .val (.long q2), .second, .val (.double d3), .second, .val .null] [(.long q2), (.ref a1)])) rfl rfl (hb hby d2_17)
  refine Ends.of st9 ?_
  have N9 := Fr.snoc X9 N8 g_a
  have F2held := F1held.other W9 (Or.inr (slot_ne (Or.inr (hw _ (List.mem_of_getElem? (i := 30) rfl))) (Or.inr (hw _ (List.mem_of_getElem? (i := 32) rfl))) (by decide) (t := (.object "java/util/Queue")) (t' := .long) (by decide) (by decide)))
  have F2meanNanos := F1meanNanos.same W9
  have F2deviationNanos := F1deviationNanos.other W9 (Or.inr (slot_ne (Or.inr (hw _ (List.mem_of_getElem? (i := 34) rfl))) (Or.inr (hw _ (List.mem_of_getElem? (i := 32) rfl))) (by decide) (t := .double) (t' := .long) (by decide) (by decide)))
  have F2random := F1random.other W9 (Or.inr (slot_ne (Or.inr (hw _ (List.mem_of_getElem? (i := 36) rfl))) (Or.inr (hw _ (List.mem_of_getElem? (i := 32) rfl))) (by decide) (t := (.object "java/util/random/RandomGenerator")) (t' := .long) (by decide) (by decide)))
  have E_2 := E_1.wr W9
  have K_2 : Keep h0 h9 [a1] := K_1.wr W9 (Or.inl (List.mem_of_getElem? (i := 0) rfl))
  refine Ends.of (F' := T9.setTop (mkF m 22 #[.val (.ref a1), .val (.long q2), .second, .val (.double d3), .second, .val .null] [(.double d3), (.ref a1)])) (fun _ kt => ?_) ?_
  · show Steps p.tables e below (T9.setTop (mkF m 20 #[.val (.ref a1), .val (.long q2), .second, .val (.double d3), .second, .val .null] [])) _
    refine XS.aloadN X9.here hx rfl (hb hby d2_20) rfl rfl ?_
    show Steps p.tables e below (T9.setTop (mkF m 21 #[.val (.ref a1), .val (.long q2), .second, .val (.double d3), .second, .val .null] [(.ref a1)])) _
    refine XS.dloadN X9.here hx rfl (hb hby d2_21) rfl ?_
    exact kt
  obtain ⟨T10, h10, X10, e10, W10, st10⟩ := putF X9 hx hZ hown (host := "") (Or.inl (hw _ (List.mem_of_getElem? (i := 33) rfl))) Via.refl e9 F2deviationNanos E_2 (Or.inr ⟨(hw _ (List.mem_of_getElem? (i := 34) rfl)), rfl, hnm⟩) (hw _ (List.mem_of_getElem? (i := 1) rfl)) (ty := .double) (by decide) rfl rfl (g := (mkF m 22 #[.val (.ref a1), .val (.long q2), .second, .val (.double d3), .second, .val .null] [(.double d3), (.ref a1)])) rfl rfl (hb hby d2_22)
  refine Ends.of st10 ?_
  have N10 := Fr.snoc X10 N9 g_a
  have F3held := F2held.other W10 (Or.inr (slot_ne (Or.inr (hw _ (List.mem_of_getElem? (i := 30) rfl))) (Or.inr (hw _ (List.mem_of_getElem? (i := 34) rfl))) (by decide) (t := (.object "java/util/Queue")) (t' := .double) (by decide) (by decide)))
  have F3meanNanos := F2meanNanos.other W10 (Or.inr (slot_ne (Or.inr (hw _ (List.mem_of_getElem? (i := 32) rfl))) (Or.inr (hw _ (List.mem_of_getElem? (i := 34) rfl))) (by decide) (t := .long) (t' := .double) (by decide) (by decide)))
  have F3deviationNanos := F2deviationNanos.same W10
  have F3random := F2random.other W10 (Or.inr (slot_ne (Or.inr (hw _ (List.mem_of_getElem? (i := 36) rfl))) (Or.inr (hw _ (List.mem_of_getElem? (i := 34) rfl))) (by decide) (t := (.object "java/util/random/RandomGenerator")) (t' := .double) (by decide) (by decide)))
  have E_3 := E_2.wr W10
  have K_3 : Keep h0 h10 [a1] := K_2.wr W10 (Or.inl (List.mem_of_getElem? (i := 0) rfl))
  refine Ends.of (F' := T10.setTop (mkF m 28 #[.val (.ref a1), .val (.long q2), .second, .val (.double d3), .second, .val .null] [.null, (.ref a1)])) (fun _ kt => ?_) ?_
  · show Steps p.tables e below (T10.setTop (mkF m 25 #[.val (.ref a1), .val (.long q2), .second, .val (.double d3), .second, .val .null] [])) _
    refine XS.aloadN X10.here hx rfl (hb hby d2_25) rfl rfl ?_
    show Steps p.tables e below (T10.setTop (mkF m 26 #[.val (.ref a1), .val (.long q2), .second, .val (.double d3), .second, .val .null] [(.ref a1)])) _
    refine XS.aload X10.here hx rfl (hb hby d2_26) rfl rfl ?_
    exact kt
  obtain ⟨T11, h11, X11, e11, W11, st11⟩ := putF X10 hx hZ hown (host := "") (Or.inl (hw _ (List.mem_of_getElem? (i := 35) rfl))) Via.refl e10 F3random E_3 (Or.inr ⟨(hw _ (List.mem_of_getElem? (i := 36) rfl)), rfl, hnm⟩) (hw _ (List.mem_of_getElem? (i := 1) rfl)) (ty := (.object "java/util/random/RandomGenerator")) (by decide) rfl rfl (g := (mkF m 28 #[.val (.ref a1), .val (.long q2), .second, .val (.double d3), .second, .val .null] [.null, (.ref a1)])) rfl rfl (hb hby d2_28)
  refine Ends.of st11 ?_
  have N11 := Fr.snoc X11 N10 g_a
  have F4held := F3held.other W11 (Or.inr (slot_ne (Or.inr (hw _ (List.mem_of_getElem? (i := 30) rfl))) (Or.inr (hw _ (List.mem_of_getElem? (i := 36) rfl))) (by decide) (t := (.object "java/util/Queue")) (t' := (.object "java/util/random/RandomGenerator")) (by decide) (by decide)))
  have F4meanNanos := F3meanNanos.other W11 (Or.inr (slot_ne (Or.inr (hw _ (List.mem_of_getElem? (i := 32) rfl))) (Or.inr (hw _ (List.mem_of_getElem? (i := 36) rfl))) (by decide) (t := .long) (t' := (.object "java/util/random/RandomGenerator")) (by decide) (by decide)))
  have F4deviationNanos := F3deviationNanos.other W11 (Or.inr (slot_ne (Or.inr (hw _ (List.mem_of_getElem? (i := 34) rfl))) (Or.inr (hw _ (List.mem_of_getElem? (i := 36) rfl))) (by decide) (t := .double) (t' := (.object "java/util/random/RandomGenerator")) (by decide) (by decide)))
  have F4random := F3random.same W11
  have E_4 := E_3.wr W11
  have K_4 : Keep h0 h11 [a1] := K_3.wr W11 (Or.inl (List.mem_of_getElem? (i := 0) rfl))
  rw [← e11] at K_4 E_4 F4meanNanos F4deviationNanos
  obtain ⟨fs, hr, hrun, hended, hW, hsame⟩ := X11.leave (v := none) (fun _ => rfl)
  exact ⟨_, _, X11.returnOut hx Bd.returns (hb hby d2_31) hr, hrun, hended, _, _, rfl, ⟨rfl, N11, K_4, E_4, F4meanNanos, F4deviationNanos⟩, ⟨_, rfl⟩, hW, hsame.mono (by decide) (by decide)⟩
theorem d1_0 : decode prog_121_method_1_code 0 = .ok (.aload_n 0, 1) := by decide +kernel
theorem d1_1 : decode prog_121_method_1_code 1 = .ok (.lload_n 1, 1) := by decide +kernel
theorem d1_2 : decode prog_121_method_1_code 2 = .ok (.dconst 0, 1) := by decide +kernel
theorem d1_3 : decode prog_121_method_1_code 3 = .ok (.aconst_null, 1) := by decide +kernel
theorem d1_4 : decode prog_121_method_1_code 4 = .ok (.invokespecial 1, 3) := by decide +kernel
theorem d1_7 : decode prog_121_method_1_code 7 = .ok (.return_, 1) := by decide +kernel
def Q1 (Z : State) (a1 : Addr) (q2 : Int64) (h0 : Heap) (n0 : Nat) (v : Option Value) (h : Heap) (L : List Loc) : Prop := v = none ∧ Fr n0 L ∧ Keep h0 h [a1] ∧ Exa Z h a1 "com/example/farspan/farspan/runtime/Link" ∧ Fld Z h a1 "com/example/farspan/farspan/runtime/Link" "meanNanos" "J" (.long q2) ∧ Fld Z h a1 "com/example/farspan/farspan/runtime/Link" "deviationNanos" "D" (.double (0 : UInt64))
set_option maxRecDepth 65536 in
set_option maxHeartbeats 40000000 in
theorem rm1 (l : Launch) (Z : State) (a0 : Array Value) (hw : ∀ d ∈ tables_1, d.before a0 Z = true) (ws : List Jvm.Cond) (a1 : Addr) (q2 : Int64) (h0 : Heap) (n0 : Nat) (Z0 : n0 ≤ h0.size) (E_a : Exa Z h0 a1 "com/example/farspan/farspan/runtime/Link") (F_held : Fld Z h0 a1 "com/example/farspan/farspan/runtime/Link" "held" "Ljava/util/Queue;" .null) (F_meanNanos : Fld Z h0 a1 "com/example/farspan/farspan/runtime/Link" "meanNanos" "J" (.long (0 : Int64))) (F_deviationNanos : Fld Z h0 a1 "com/example/farspan/farspan/runtime/Link" "deviationNanos" "D" (.double (0 : UInt64))) (F_random : Fld Z h0 a1 "com/example/farspan/farspan/runtime/Link" "random" "Ljava/util/random/RandomGenerator;" .null) (g_a : n0 ≤ a1) :
    MetFree l (⟨"com/example/farspan/farspan/runtime/Link", "<init>", "(J)V"⟩ : MethodName) (head1 (Jvm.Cond.code (⟨"com/example/farspan/farspan/runtime/Link", "<init>", "(J)V"⟩ : MethodName) prog_121_method_1_code 3 none :: ws) ({ frames := 4, cells := 2, slots := 20, locals := 55 } : Room)) (fun a U => a = #[(.ref a1), (.long q2)] ∧ Z.Warmed39 U.vm ∧ U.heap = h0) (fun _ _ _ _ _ => True) (fun _ U o U' => ∃ v L, o = .returned v ∧ Q1 Z a1 q2 h0 n0 v U'.heap L ∧ FrameEnd U o U' L ({ frames := 4, cells := 2, slots := 20, locals := 55 } : Room).cells ({ frames := 4, cells := 2, slots := 20, locals := 55 } : Room).slots) := by
  refine MetFree.of_bodySF (plainFor_of_name pn_2) hisR ?_
  intro p e s m args below meth c s₁ Bd hml0 hP hK
  obtain ⟨rfl, hZ, hh⟩ := hP
  have hx := Bd.exec
  have hby := Bd.bytes
  have hml : c.maxLocals = 3 := hml0
  have hown : s.vm.findClass "com/example/farspan/farspan/runtime/Link" = some m.cls := findClass_of_methodNamed Bd.named
  have hnm := (name_of_methodNamed Bd.named Bd.method).1
  have X0 : Stand p l e ({ frames := 4, cells := 2, slots := 20, locals := 55 } : Room) s m #[(.ref a1), (.long q2)] below meth c s₁ [] 0 0 := Stand.of_body Bd
  have e0 : s₁.heap = h0 := by rw [← hh, Bd.state]; rfl
  have N0 := Fr.nil n0
  have eF : entryFrame m #[(.ref a1), (.long q2)] 3 = mkF m 0 #[.val (.ref a1), .val (.long q2), .second] [] := by first | (simp [entryFrame, mkF, argsToLocals, Value.category]; done) | rfl
  show Ends p e below s ({ frames := 4, cells := 2, slots := 20, locals := 55 } : Room) (Q1 Z a1 q2 h0 n0) (s₁.setTop (entryFrame m #[(.ref a1), (.long q2)] 3))
  rw [eF]
  refine Ends.of (F' := s₁.setTop (mkF m 4 #[.val (.ref a1), .val (.long q2), .second] [.null, (.double (0 : UInt64)), (.long q2), (.ref a1)])) (fun _ kt => ?_) ?_
  · show Steps p.tables e below (s₁.setTop (mkF m 0 #[.val (.ref a1), .val (.long q2), .second] [])) _
    refine XS.aloadN X0.here hx rfl (hb hby d1_0) rfl rfl ?_
    show Steps p.tables e below (s₁.setTop (mkF m 1 #[.val (.ref a1), .val (.long q2), .second] [(.ref a1)])) _
    refine XS.lloadN X0.here hx rfl (hb hby d1_1) rfl ?_
    show Steps p.tables e below (s₁.setTop (mkF m 2 #[.val (.ref a1), .val (.long q2), .second] [(.long q2), (.ref a1)])) _
    refine XS.dconst0 X0.here hx rfl (hb hby d1_2) (v := 0) rfl ?_
    show Steps p.tables e below (s₁.setTop (mkF m 3 #[.val (.ref a1), .val (.long q2), .second] [(.double (0 : UInt64)), (.long q2), (.ref a1)])) _
    refine XS.aconstNull X0.here hx rfl (hb hby d1_3) ?_
    exact kt
  obtain ⟨_, _, ⟨T12, L12, k12, n12⟩, -, X12, ⟨Lc12, hQ12, l12, y12, z12⟩, st12⟩ := X0.specialBack hx (y := (⟨"com/example/farspan/farspan/runtime/Link", "<init>", "(JDLjava/util/random/RandomGenerator;)V"⟩ : MethodName)) rfl hown (mvT hZ (hw _ (List.mem_of_getElem? (i := 6) rfl))) (mvT hZ (hw _ (List.mem_of_getElem? (i := 7) rfl))) (mvT hZ (hw _ (List.mem_of_getElem? (i := 8) rfl))) (by decide) (backOf (W := 0) (rm2 l Z a0 hw [] a1 q2 (0 : UInt64) h0 n0 Z0 E_a F_held F_meanNanos F_deviationNanos F_random g_a) hZ (hw _ (List.mem_of_getElem? (i := 8) rfl)) (hw _ (List.mem_of_getElem? (i := 2) rfl)) (by decide) (by decide)) (g := (mkF m 4 #[.val (.ref a1), .val (.long q2), .second] [.null, (.double (0 : UInt64)), (.long q2), (.ref a1)])) rfl (by rw [hml]; rfl) (Steps.refl _) (a := a1) (argsL := [(.long q2), (.double (0 : UInt64)), .null]) (rest := []) (lenOf pd_1 rfl) rfl (by show 2 * 0 + _ ≤ _; exact Nat.le_of_eq rfl) (hb hby d1_4) (fun _ _ => ⟨rfl, e0, (by decide : 0 + 2 ≤ _), (by decide : 0 + 20 ≤ _)⟩)
  dsimp only [Pt.U, Pt.locs, Pt.cells, Pt.slots] at X12 l12 y12 z12 st12 hQ12
  subst l12 y12 z12
  obtain ⟨rfl, N12q, K12, Ex12, Fm12, Fd12⟩ := hQ12
  have N12 := Fr.app N0 N12q
  refine Ends.st st12 ?_
  obtain ⟨fs, hr, hrun, hended, hW, hsame⟩ := X12.leave (v := none) (fun _ => rfl)
  exact ⟨_, _, X12.returnOut hx Bd.returns (hb hby d1_7) hr, hrun, hended, _, _, rfl, ⟨rfl, N12, K12, Ex12, Fm12, Fd12⟩, ⟨_, rfl⟩, hW, hsame.mono (by decide) (by decide)⟩
theorem d6_0 : decode prog_121_method_5_code 0 = .ok (.aload_n 0, 1) := by decide +kernel
theorem d6_1 : decode prog_121_method_5_code 1 = .ok (.getfield 19, 3) := by decide +kernel
theorem d6_4 : decode prog_121_method_5_code 4 = .ok (.lconst 0, 1) := by decide +kernel
theorem d6_5 : decode prog_121_method_5_code 5 = .ok (.lcmp, 1) := by decide +kernel
theorem d6_6 : decode prog_121_method_5_code 6 = .ok (.ifCond .ne 12, 3) := by decide +kernel
theorem d6_9 : decode prog_121_method_5_code 9 = .ok (.aload_n 0, 1) := by decide +kernel
theorem d6_10 : decode prog_121_method_5_code 10 = .ok (.getfield 23, 3) := by decide +kernel
theorem d6_13 : decode prog_121_method_5_code 13 = .ok (.dconst 0, 1) := by decide +kernel
theorem d6_14 : decode prog_121_method_5_code 14 = .ok (.dcmp .l, 1) := by decide +kernel
theorem d6_15 : decode prog_121_method_5_code 15 = .ok (.ifCond .eq 7, 3) := by decide +kernel
theorem d6_18 : decode prog_121_method_5_code 18 = .ok (.iconst 1, 1) := by decide +kernel
theorem d6_19 : decode prog_121_method_5_code 19 = .ok (.goto 4, 3) := by decide +kernel
theorem d6_22 : decode prog_121_method_5_code 22 = .ok (.iconst 0, 1) := by decide +kernel
theorem d6_23 : decode prog_121_method_5_code 23 = .ok (.ireturn, 1) := by decide +kernel
def Q6 (Z : State) (a1 : Addr) (q2 : Int64) (d3 : UInt64) (h0 : Heap) (n0 : Nat) (v : Option Value) (h : Heap) (L : List Loc) : Prop := v = some (.int (if (q2 = (0 : Int64) ∧ cmpValue (FP.dcmp d3 (0 : UInt64)) .l = (0 : Int32)) then (0 : Int32) else (1 : Int32))) ∧ Fr n0 L ∧ h = h0
set_option maxRecDepth 65536 in
set_option maxHeartbeats 40000000 in
theorem rm6 (l : Launch) (Z : State) (a0 : Array Value) (hw : ∀ d ∈ tables_1, d.before a0 Z = true) (ws : List Jvm.Cond) (a1 : Addr) (q2 : Int64) (d3 : UInt64) (h0 : Heap) (n0 : Nat) (Z0 : n0 ≤ h0.size) (F_m : Fld Z h0 a1 "com/example/farspan/farspan/runtime/Link" "meanNanos" "J" (.long q2)) (F_d : Fld Z h0 a1 "com/example/farspan/farspan/runtime/Link" "deviationNanos" "D" (.double d3)) :
    MetFree l (⟨"com/example/farspan/farspan/runtime/Link", "delays", "()Z"⟩ : MethodName) (head1 (Jvm.Cond.code (⟨"com/example/farspan/farspan/runtime/Link", "delays", "()Z"⟩ : MethodName) prog_121_method_5_code 1 (some .boolean) :: ws) ({ frames := 0, cells := 0, slots := 0, locals := 0 } : Room)) (fun a U => a = #[(.ref a1)] ∧ Z.Warmed39 U.vm ∧ U.heap = h0) (fun _ _ _ _ _ => True) (fun _ U o U' => ∃ v L, o = .returned v ∧ Q6 Z a1 q2 d3 h0 n0 v U'.heap L ∧ FrameEnd U o U' L ({ frames := 0, cells := 0, slots := 0, locals := 0 } : Room).cells ({ frames := 0, cells := 0, slots := 0, locals := 0 } : Room).slots) := by
  refine MetFree.of_bodySF (plainFor_of_name pn_2) hisR ?_
  intro p e s m args below meth c s₁ Bd hml0 hP hK
  obtain ⟨rfl, hZ, hh⟩ := hP
  have hx := Bd.exec
  have hby := Bd.bytes
  have hml : c.maxLocals = 1 := hml0
  have hown : s.vm.findClass "com/example/farspan/farspan/runtime/Link" = some m.cls := findClass_of_methodNamed Bd.named
  have hnm := (name_of_methodNamed Bd.named Bd.method).1
  have X0 : Stand p l e ({ frames := 0, cells := 0, slots := 0, locals := 0 } : Room) s m #[(.ref a1)] below meth c s₁ [] 0 0 := Stand.of_body Bd
  have e0 : s₁.heap = h0 := by rw [← hh, Bd.state]; rfl
  have N0 := Fr.nil n0
  have eF : entryFrame m #[(.ref a1)] 1 = mkF m 0 #[.val (.ref a1)] [] := by first | (simp [entryFrame, mkF, argsToLocals, Value.category]; done) | rfl
  show Ends p e below s ({ frames := 0, cells := 0, slots := 0, locals := 0 } : Room) (Q6 Z a1 q2 d3 h0 n0) (s₁.setTop (entryFrame m #[(.ref a1)] 1))
  rw [eF]
  refine Ends.of (F' := s₁.setTop (mkF m 1 #[.val (.ref a1)] [(.ref a1)])) (fun _ kt => ?_) ?_
  · show Steps p.tables e below (s₁.setTop (mkF m 0 #[.val (.ref a1)] [])) _
    refine XS.aloadN X0.here hx rfl (hb hby d6_0) rfl rfl ?_
    exact kt
  obtain ⟨T13, X13, e13, st13⟩ := getF X0 hx hZ hown (host := "") (Or.inl (hw _ (List.mem_of_getElem? (i := 31) rfl))) Via.refl e0 F_m (g := (mkF m 1 #[.val (.ref a1)] [(.ref a1)])) rfl rfl (hb hby d6_1)
  refine Ends.of st13 ?_
  refine Ends.of (F' := T13.setTop (mkF m 6 #[.val (.ref a1)] [(.int (lcmpW q2 (0 : Int64)))])) (fun _ kt => ?_) ?_
  · show Steps p.tables e below (T13.setTop (mkF m 4 #[.val (.ref a1)] [(.long q2)])) _
    refine XS.lconst X13.here hx rfl (hb hby d6_4) ?_
    show Steps p.tables e below (T13.setTop (mkF m 5 #[.val (.ref a1)] [(.long (0 : Int64)), (.long q2)])) _
    refine XS.lcmp X13.here hx rfl (hb hby d6_5) rfl ?_
    exact kt
  by_cases hq : q2 = (0 : Int64)
  · refine Ends.of (F' := T13.setTop (mkF m 10 #[.val (.ref a1)] [(.ref a1)])) (fun _ kt => ?_) ?_
    · show Steps p.tables e below (T13.setTop (mkF m 6 #[.val (.ref a1)] [(.int (lcmpW q2 (0 : Int64)))])) _
      refine XS.ifNo X13.here hx rfl (hb hby d6_6) rfl ((if0 _ _).trans (teq ((lw_eq _ _).mpr hq)).2) ?_
      show Steps p.tables e below (T13.setTop (mkF m 9 #[.val (.ref a1)] [])) _
      refine XS.aloadN X13.here hx rfl (hb hby d6_9) rfl rfl ?_
      exact kt
    obtain ⟨T14, X14, e14, st14⟩ := getF X13 hx hZ hown (host := "") (Or.inl (hw _ (List.mem_of_getElem? (i := 33) rfl))) Via.refl e13 F_d (g := (mkF m 10 #[.val (.ref a1)] [(.ref a1)])) rfl rfl (hb hby d6_10)
    refine Ends.of st14 ?_
    refine Ends.of (F' := T14.setTop (mkF m 15 #[.val (.ref a1)] [(.int (cmpValue (FP.dcmp d3 (0 : UInt64)) .l))])) (fun _ kt => ?_) ?_
    · show Steps p.tables e below (T14.setTop (mkF m 13 #[.val (.ref a1)] [(.double d3)])) _
      refine XS.dconst0 X14.here hx rfl (hb hby d6_13) (v := 0) rfl ?_
      show Steps p.tables e below (T14.setTop (mkF m 14 #[.val (.ref a1)] [(.double (0 : UInt64)), (.double d3)])) _
      refine XS.dcmpS X14.here hx rfl (hb hby d6_14) rfl rfl ?_
      exact kt
    by_cases hd : (cmpValue (FP.dcmp d3 (0 : UInt64)) .l) = (0 : Int32)
    · refine Ends.of (F' := T14.setTop (mkF m 23 #[.val (.ref a1)] [(.int (0 : Int32))])) (fun _ kt => ?_) ?_
      · show Steps p.tables e below (T14.setTop (mkF m 15 #[.val (.ref a1)] [(.int (cmpValue (FP.dcmp d3 (0 : UInt64)) .l))])) _
        refine XS.ifYes X14.here hx rfl (pc0 := 15) (pc' := 22) rfl (hb hby d6_15) rfl ((if0 _ _).trans (teq hd).1) (by decide) (by decide) ?_
        show Steps p.tables e below (T14.setTop (mkF m 22 #[.val (.ref a1)] [])) _
        refine XS.iconst X14.here hx rfl (hb hby d6_22) ?_
        exact kt
      obtain ⟨fs, hr, hrun, hended, hW, hsame⟩ := X14.leave (v := some (.int (0 : Int32))) (fun h => by rw [Bd.returns] at h; cases h)
      exact ⟨_, _, retN X14 hx (t := .boolean) Bd.returns (by simp) (hb hby d6_23) hr, hrun, hended, _, _, rfl, ⟨by rw [if_pos ⟨hq, hd⟩], N0, e14⟩, ⟨_, rfl⟩, hW, hsame.mono (by decide) (by decide)⟩
    · refine Ends.of (F' := T14.setTop (mkF m 23 #[.val (.ref a1)] [(.int (1 : Int32))])) (fun _ kt => ?_) ?_
      · show Steps p.tables e below (T14.setTop (mkF m 15 #[.val (.ref a1)] [(.int (cmpValue (FP.dcmp d3 (0 : UInt64)) .l))])) _
        refine XS.ifNo X14.here hx rfl (hb hby d6_15) rfl ((if0 _ _).trans (feq hd).1) ?_
        show Steps p.tables e below (T14.setTop (mkF m 18 #[.val (.ref a1)] [])) _
        refine XS.iconst X14.here hx rfl (hb hby d6_18) ?_
        show Steps p.tables e below (T14.setTop (mkF m 19 #[.val (.ref a1)] [(.int (1 : Int32))])) _
        refine XS.goto X14.here hx rfl (pc0 := 19) (pc' := 23) rfl (hb hby d6_19) (by decide) (by decide) ?_
        exact kt
      obtain ⟨fs, hr, hrun, hended, hW, hsame⟩ := X14.leave (v := some (.int (1 : Int32))) (fun h => by rw [Bd.returns] at h; cases h)
      exact ⟨_, _, retN X14 hx (t := .boolean) Bd.returns (by simp) (hb hby d6_23) hr, hrun, hended, _, _, rfl, ⟨by rw [if_neg (fun q => hd q.2)], N0, e14⟩, ⟨_, rfl⟩, hW, hsame.mono (by decide) (by decide)⟩
  · refine Ends.of (F' := T13.setTop (mkF m 23 #[.val (.ref a1)] [(.int (1 : Int32))])) (fun _ kt => ?_) ?_
    · show Steps p.tables e below (T13.setTop (mkF m 6 #[.val (.ref a1)] [(.int (lcmpW q2 (0 : Int64)))])) _
      refine XS.ifYes X13.here hx rfl (pc0 := 6) (pc' := 18) rfl (hb hby d6_6) rfl ((if0 _ _).trans (feq (mt (lw_eq _ _).mp hq)).2) (by decide) (by decide) ?_
      show Steps p.tables e below (T13.setTop (mkF m 18 #[.val (.ref a1)] [])) _
      refine XS.iconst X13.here hx rfl (hb hby d6_18) ?_
      show Steps p.tables e below (T13.setTop (mkF m 19 #[.val (.ref a1)] [(.int (1 : Int32))])) _
      refine XS.goto X13.here hx rfl (pc0 := 19) (pc' := 23) rfl (hb hby d6_19) (by decide) (by decide) ?_
      exact kt
    obtain ⟨fs, hr, hrun, hended, hW, hsame⟩ := X13.leave (v := some (.int (1 : Int32))) (fun h => by rw [Bd.returns] at h; cases h)
    exact ⟨_, _, retN X13 hx (t := .boolean) Bd.returns (by simp) (hb hby d6_23) hr, hrun, hended, _, _, rfl, ⟨by rw [if_neg (fun q => hq q.1)], N0, e13⟩, ⟨_, rfl⟩, hW, hsame.mono (by decide) (by decide)⟩
theorem pn_3 : plainName "com/example/farspan/farspan/runtime/LinkDelaysPinLaw" = true := by first | (simp [plainName, overriddenIn]; done) | decide +kernel
def Q0 (Z : State) (q1 : Int64) (p2 : Int32) (h0 : Heap) (n0 : Nat) (v : Option Value) (h : Heap) (L : List Loc) : Prop := v = some (.int (1 : Int32)) ∧ Fr n0 L
set_option maxRecDepth 65536 in
set_option maxHeartbeats 40000000 in
theorem rm0 (l : Launch) (Z : State) (a0 : Array Value) (hw : ∀ d ∈ tables_1, d.before a0 Z = true) (ws : List Jvm.Cond) (q1 : Int64) (p2 : Int32) (h0 : Heap) (n0 : Nat) (Z0 : n0 ≤ h0.size) :
    MetFree l x (head1 (Jvm.Cond.code x code maxLocals ret :: ws) room_1) (fun a U => a = #[(.long q1), (.int p2)] ∧ Z.Warmed39 U.vm ∧ U.heap = h0) (fun _ _ _ _ _ => True) (fun _ U o U' => ∃ v L, o = .returned v ∧ Q0 Z q1 p2 h0 n0 v U'.heap L ∧ FrameEnd U o U' L room_1.cells room_1.slots) := by
  refine MetFree.of_bodySF (plainFor_of_name pn_3) hisR ?_
  intro p e s m args below meth c s₁ Bd hml0 hP hK
  obtain ⟨rfl, hZ, hh⟩ := hP
  have hx := Bd.exec
  have hby := Bd.bytes
  have hml : c.maxLocals = 10 := hml0
  have hown : s.vm.findClass "com/example/farspan/farspan/runtime/LinkDelaysPinLaw" = some m.cls := findClass_of_methodNamed Bd.named
  have hnm := (name_of_methodNamed Bd.named Bd.method).1
  have X0 : Stand p l e room_1 s m #[(.long q1), (.int p2)] below meth c s₁ [] 0 0 := Stand.of_body Bd
  have e0 : s₁.heap = h0 := by rw [← hh, Bd.state]; rfl
  have N0 := Fr.nil n0
  have eF : entryFrame m #[(.long q1), (.int p2)] maxLocals = mkF m 0 #[.val (.long q1), .second, .val (.int p2), .unset, .unset, .unset, .unset, .unset, .unset, .unset] [] := by first | (simp [entryFrame, mkF, argsToLocals, Value.category, maxLocals]; done) | rfl
  show Ends p e below s room_1 (Q0 Z q1 p2 h0 n0) (s₁.setTop (entryFrame m #[(.long q1), (.int p2)] maxLocals))
  rw [eF]
  refine Ends.of (F' := s₁.setTop (mkF m 6 #[.val (.long q1), .second, .val (.int p2), .unset, .unset, .unset, .unset, .unset, .unset, .unset] [(.int ((p2 &&& (7 : Int32)) - (3 : Int32)))])) (fun _ kt => ?_) ?_
  · show Steps p.tables e below (s₁.setTop (mkF m 0 #[.val (.long q1), .second, .val (.int p2), .unset, .unset, .unset, .unset, .unset, .unset, .unset] [])) _
    refine XS.iloadN X0.here hx rfl (hb hby at_0) rfl ?_
    show Steps p.tables e below (s₁.setTop (mkF m 1 #[.val (.long q1), .second, .val (.int p2), .unset, .unset, .unset, .unset, .unset, .unset, .unset] [(.int p2)])) _
    refine XS.bipush X0.here hx rfl (hb hby at_1) ?_
    show Steps p.tables e below (s₁.setTop (mkF m 3 #[.val (.long q1), .second, .val (.int p2), .unset, .unset, .unset, .unset, .unset, .unset, .unset] [(.int (7 : Int32)), (.int p2)])) _
    refine XS.iand X0.here hx rfl (hb hby at_3) rfl ?_
    show Steps p.tables e below (s₁.setTop (mkF m 4 #[.val (.long q1), .second, .val (.int p2), .unset, .unset, .unset, .unset, .unset, .unset, .unset] [(.int (p2 &&& (7 : Int32)))])) _
    refine XS.iconst X0.here hx rfl (hb hby at_4) ?_
    show Steps p.tables e below (s₁.setTop (mkF m 5 #[.val (.long q1), .second, .val (.int p2), .unset, .unset, .unset, .unset, .unset, .unset, .unset] [(.int (3 : Int32)), (.int (p2 &&& (7 : Int32)))])) _
    refine XS.isub X0.here hx rfl (hb hby at_5) rfl ?_
    exact kt
  have hk := own_cmp (own_k p2)
  generalize ((p2 &&& (7 : Int32)) - (3 : Int32)) = kx at hk ⊢
  refine Ends.of (F' := s₁.setTop (mkF m 11 #[.val (.long q1), .second, .val (.int p2), .val (.int kx), .val (.double (FP.i2d kx)), .second, .unset, .unset, .unset, .unset] [])) (fun _ kt => ?_) ?_
  · show Steps p.tables e below (s₁.setTop (mkF m 6 #[.val (.long q1), .second, .val (.int p2), .unset, .unset, .unset, .unset, .unset, .unset, .unset] [(.int kx)])) _
    refine XS.istoreN X0.here hx rfl (hb hby at_6) rfl (l' := #[.val (.long q1), .second, .val (.int p2), .val (.int kx), .unset, .unset, .unset, .unset, .unset, .unset]) rfl ?_
    show Steps p.tables e below (s₁.setTop (mkF m 7 #[.val (.long q1), .second, .val (.int p2), .val (.int kx), .unset, .unset, .unset, .unset, .unset, .unset] [])) _
    refine XS.iloadN X0.here hx rfl (hb hby at_7) rfl ?_
    show Steps p.tables e below (s₁.setTop (mkF m 8 #[.val (.long q1), .second, .val (.int p2), .val (.int kx), .unset, .unset, .unset, .unset, .unset, .unset] [(.int kx)])) _
    refine XS.i2dS X0.here hx rfl (hb hby at_8) rfl rfl ?_
    show Steps p.tables e below (s₁.setTop (mkF m 9 #[.val (.long q1), .second, .val (.int p2), .val (.int kx), .unset, .unset, .unset, .unset, .unset, .unset] [(.double (FP.i2d kx))])) _
    refine XS.dstore X0.here hx rfl (hb hby at_9) rfl (l' := #[.val (.long q1), .second, .val (.int p2), .val (.int kx), .val (.double (FP.i2d kx)), .second, .unset, .unset, .unset, .unset]) rfl ?_
    exact kt
  obtain ⟨T15, h15, X15, e15, E15, A15, D15, -, st15⟩ := newO X0 hx hZ hown (hw _ (List.mem_of_getElem? (i := 0) rfl)) (hw _ (List.mem_of_getElem? (i := 1) rfl)) (hw _ (List.mem_of_getElem? (i := 2) rfl)) e0 (g := (mkF m 11 #[.val (.long q1), .second, .val (.int p2), .val (.int kx), .val (.double (FP.i2d kx)), .second, .unset, .unset, .unset, .unset] [])) rfl (hb hby at_11) (by decide) (by decide)
  obtain ⟨b15, g15⟩ : ∃ z, z = h0.size := ⟨_, rfl⟩
  rw [← g15] at A15 D15 st15
  have F_held_b15 : Fld Z h15 b15 "com/example/farspan/farspan/runtime/Link" "held" "Ljava/util/Queue;" .null := D15 (Or.inr (hw _ (List.mem_of_getElem? (i := 30) rfl))) (ty := (.object "java/util/Queue")) (by decide)
  have F_meanNanos_b15 : Fld Z h15 b15 "com/example/farspan/farspan/runtime/Link" "meanNanos" "J" (.long (0 : Int64)) := D15 (Or.inr (hw _ (List.mem_of_getElem? (i := 32) rfl))) (ty := .long) (by decide)
  have F_deviationNanos_b15 : Fld Z h15 b15 "com/example/farspan/farspan/runtime/Link" "deviationNanos" "D" (.double 0) := D15 (Or.inr (hw _ (List.mem_of_getElem? (i := 34) rfl))) (ty := .double) (by decide)
  have F_random_b15 : Fld Z h15 b15 "com/example/farspan/farspan/runtime/Link" "random" "Ljava/util/random/RandomGenerator;" .null := D15 (Or.inr (hw _ (List.mem_of_getElem? (i := 36) rfl))) (ty := (.object "java/util/random/RandomGenerator")) (by decide)
  refine Ends.of st15 ?_
  have Z1 : n0 ≤ h15.size := Nat.le_trans Z0 E15.1
  have gb1 : n0 ≤ b15 := Nat.le_trans Z0 (Nat.le_of_eq g15.symm)
  refine Ends.of (F' := T15.setTop (mkF m 16 #[.val (.long q1), .second, .val (.int p2), .val (.int kx), .val (.double (FP.i2d kx)), .second, .unset, .unset, .unset, .unset] [(.long q1), (.ref b15), (.ref b15)])) (fun _ kt => ?_) ?_
  · show Steps p.tables e below (T15.setTop (mkF m 14 #[.val (.long q1), .second, .val (.int p2), .val (.int kx), .val (.double (FP.i2d kx)), .second, .unset, .unset, .unset, .unset] [(.ref b15)])) _
    refine XS.dup X15.here hx rfl (hb hby at_14) rfl rfl ?_
    show Steps p.tables e below (T15.setTop (mkF m 15 #[.val (.long q1), .second, .val (.int p2), .val (.int kx), .val (.double (FP.i2d kx)), .second, .unset, .unset, .unset, .unset] [(.ref b15), (.ref b15)])) _
    refine XS.lloadN X15.here hx rfl (hb hby at_15) rfl ?_
    exact kt
  obtain ⟨_, _, ⟨T16, L16, k16, n16⟩, -, X16, ⟨Lc16, hQ16, l16, y16, z16⟩, st16⟩ := X15.specialBack hx (y := (⟨"com/example/farspan/farspan/runtime/Link", "<init>", "(J)V"⟩ : MethodName)) rfl hown (mvT hZ (hw _ (List.mem_of_getElem? (i := 3) rfl))) (mvT hZ (hw _ (List.mem_of_getElem? (i := 4) rfl))) (mvT hZ (hw _ (List.mem_of_getElem? (i := 5) rfl))) (by decide) (backOf (W := 1) (rm1 l Z a0 hw [] b15 q1 h15 n0 Z1 A15 F_held_b15 F_meanNanos_b15 F_deviationNanos_b15 F_random_b15 gb1) hZ (hw _ (List.mem_of_getElem? (i := 5) rfl)) (hw _ (List.mem_of_getElem? (i := 2) rfl)) (by decide) (by decide)) (g := (mkF m 16 #[.val (.long q1), .second, .val (.int p2), .val (.int kx), .val (.double (FP.i2d kx)), .second, .unset, .unset, .unset, .unset] [(.long q1), (.ref b15), (.ref b15)])) rfl (by rw [hml]; rfl) (Steps.refl _) (a := b15) (argsL := [(.long q1)]) (rest := [(.ref b15)]) (lenOf pd_0 rfl) rfl (by show 2 * 0 + _ ≤ _; exact Nat.le_of_eq rfl) (hb hby at_16) (fun _ _ => ⟨rfl, e15, (by decide : 1 + 2 ≤ _), (by decide : 5 + 20 ≤ _)⟩)
  dsimp only [Pt.U, Pt.locs, Pt.cells, Pt.slots] at X16 l16 y16 z16 st16 hQ16
  subst l16 y16 z16
  obtain ⟨rfl, N16q, K16, Ex16, Fm16, Fd16⟩ := hQ16
  have N16 := Fr.app N0 N16q
  refine Ends.st st16 ?_
  refine Ends.of (F' := T16.setTop (mkF m 21 #[.val (.long q1), .second, .val (.int p2), .val (.int kx), .val (.double (FP.i2d kx)), .second, .val (.ref b15), .unset, .unset, .unset] [])) (fun _ kt => ?_) ?_
  · show Steps p.tables e below (T16.setTop (mkF m 19 #[.val (.long q1), .second, .val (.int p2), .val (.int kx), .val (.double (FP.i2d kx)), .second, .unset, .unset, .unset, .unset] [(.ref b15)])) _
    refine XS.astore X16.here hx rfl (hb hby at_19) rfl rfl (l' := #[.val (.long q1), .second, .val (.int p2), .val (.int kx), .val (.double (FP.i2d kx)), .second, .val (.ref b15), .unset, .unset, .unset]) rfl ?_
    exact kt
  obtain ⟨T17, h17, X17, e17, E17, A17, D17, -, st17⟩ := newO X16 hx hZ hown (hw _ (List.mem_of_getElem? (i := 0) rfl)) (hw _ (List.mem_of_getElem? (i := 1) rfl)) (hw _ (List.mem_of_getElem? (i := 2) rfl)) rfl (g := (mkF m 21 #[.val (.long q1), .second, .val (.int p2), .val (.int kx), .val (.double (FP.i2d kx)), .second, .val (.ref b15), .unset, .unset, .unset] [])) rfl (hb hby at_21) (by decide) (by decide)
  obtain ⟨b17, g17⟩ : ∃ z, z = T16.heap.size := ⟨_, rfl⟩
  rw [← g17] at A17 D17 st17
  have F_held_b17 : Fld Z h17 b17 "com/example/farspan/farspan/runtime/Link" "held" "Ljava/util/Queue;" .null := D17 (Or.inr (hw _ (List.mem_of_getElem? (i := 30) rfl))) (ty := (.object "java/util/Queue")) (by decide)
  have F_meanNanos_b17 : Fld Z h17 b17 "com/example/farspan/farspan/runtime/Link" "meanNanos" "J" (.long (0 : Int64)) := D17 (Or.inr (hw _ (List.mem_of_getElem? (i := 32) rfl))) (ty := .long) (by decide)
  have F_deviationNanos_b17 : Fld Z h17 b17 "com/example/farspan/farspan/runtime/Link" "deviationNanos" "D" (.double 0) := D17 (Or.inr (hw _ (List.mem_of_getElem? (i := 34) rfl))) (ty := .double) (by decide)
  have F_random_b17 : Fld Z h17 b17 "com/example/farspan/farspan/runtime/Link" "random" "Ljava/util/random/RandomGenerator;" .null := D17 (Or.inr (hw _ (List.mem_of_getElem? (i := 36) rfl))) (ty := (.object "java/util/random/RandomGenerator")) (by decide)
  refine Ends.of st17 ?_
  have Z2 : n0 ≤ h17.size := Nat.le_trans (Nat.le_trans Z1 K16.1) E17.1
  have gb2 : n0 ≤ b17 := Nat.le_trans (Nat.le_trans Z1 K16.1) (Nat.le_of_eq g17.symm)
  refine Ends.of (F' := T17.setTop (mkF m 29 #[.val (.long q1), .second, .val (.int p2), .val (.int kx), .val (.double (FP.i2d kx)), .second, .val (.ref b15), .unset, .unset, .unset] [.null, (.double (FP.i2d kx)), (.long q1), (.ref b17), (.ref b17)])) (fun _ kt => ?_) ?_
  · show Steps p.tables e below (T17.setTop (mkF m 24 #[.val (.long q1), .second, .val (.int p2), .val (.int kx), .val (.double (FP.i2d kx)), .second, .val (.ref b15), .unset, .unset, .unset] [(.ref b17)])) _
    refine XS.dup X17.here hx rfl (hb hby at_24) rfl rfl ?_
    show Steps p.tables e below (T17.setTop (mkF m 25 #[.val (.long q1), .second, .val (.int p2), .val (.int kx), .val (.double (FP.i2d kx)), .second, .val (.ref b15), .unset, .unset, .unset] [(.ref b17), (.ref b17)])) _
    refine XS.lloadN X17.here hx rfl (hb hby at_25) rfl ?_
    show Steps p.tables e below (T17.setTop (mkF m 26 #[.val (.long q1), .second, .val (.int p2), .val (.int kx), .val (.double (FP.i2d kx)), .second, .val (.ref b15), .unset, .unset, .unset] [(.long q1), (.ref b17), (.ref b17)])) _
    refine XS.dload X17.here hx rfl (hb hby at_26) rfl ?_
    show Steps p.tables e below (T17.setTop (mkF m 28 #[.val (.long q1), .second, .val (.int p2), .val (.int kx), .val (.double (FP.i2d kx)), .second, .val (.ref b15), .unset, .unset, .unset] [(.double (FP.i2d kx)), (.long q1), (.ref b17), (.ref b17)])) _
    refine XS.aconstNull X17.here hx rfl (hb hby at_28) ?_
    exact kt
  obtain ⟨_, _, ⟨T18, L18, k18, n18⟩, -, X18, ⟨Lc18, hQ18, l18, y18, z18⟩, st18⟩ := X17.specialBack hx (y := (⟨"com/example/farspan/farspan/runtime/Link", "<init>", "(JDLjava/util/random/RandomGenerator;)V"⟩ : MethodName)) rfl hown (mvT hZ (hw _ (List.mem_of_getElem? (i := 37) rfl))) (mvT hZ (hw _ (List.mem_of_getElem? (i := 7) rfl))) (mvT hZ (hw _ (List.mem_of_getElem? (i := 8) rfl))) (by decide) (backOf (W := 1) (rm2 l Z a0 hw [] b17 q1 (FP.i2d kx) h17 n0 Z2 A17 F_held_b17 F_meanNanos_b17 F_deviationNanos_b17 F_random_b17 gb2) hZ (hw _ (List.mem_of_getElem? (i := 8) rfl)) (hw _ (List.mem_of_getElem? (i := 2) rfl)) (by decide) (by decide)) (g := (mkF m 29 #[.val (.long q1), .second, .val (.int p2), .val (.int kx), .val (.double (FP.i2d kx)), .second, .val (.ref b15), .unset, .unset, .unset] [.null, (.double (FP.i2d kx)), (.long q1), (.ref b17), (.ref b17)])) rfl (by rw [hml]; rfl) (Steps.refl _) (a := b17) (argsL := [(.long q1), (.double (FP.i2d kx)), .null]) (rest := [(.ref b17)]) (lenOf pd_1 rfl) rfl (by show 2 * 0 + _ ≤ _; exact Nat.le_of_eq rfl) (hb hby at_29) (fun _ _ => ⟨rfl, e17, (by decide : 4 + 2 ≤ _), (by decide : 30 + 20 ≤ _)⟩)
  dsimp only [Pt.U, Pt.locs, Pt.cells, Pt.slots] at X18 l18 y18 z18 st18 hQ18
  subst l18 y18 z18
  obtain ⟨rfl, N18q, K18, Ex18, Fm18, Fd18⟩ := hQ18
  have N18 := Fr.app N16 N18q
  refine Ends.st st18 ?_
  have ne12 : b15 ∉ [b17] := ninS (Nat.ne_of_lt (Nat.lt_of_lt_of_le Fm16.lt (Nat.le_of_eq g17.symm))) nin0
  have Fm1 := (Fm16.ext E17).keep K18 ne12
  have Fd1 := (Fd16.ext E17).keep K18 ne12
  have Ex1 := (Ex16.ext E17).keep K18
  have Z3 : n0 ≤ T18.heap.size := Nat.le_trans Z2 K18.1
  refine Ends.of (F' := T18.setTop (mkF m 36 #[.val (.long q1), .second, .val (.int p2), .val (.int kx), .val (.double (FP.i2d kx)), .second, .val (.ref b15), .val (.ref b17), .unset, .unset] [(.ref b15)])) (fun _ kt => ?_) ?_
  · show Steps p.tables e below (T18.setTop (mkF m 32 #[.val (.long q1), .second, .val (.int p2), .val (.int kx), .val (.double (FP.i2d kx)), .second, .val (.ref b15), .unset, .unset, .unset] [(.ref b17)])) _
    refine XS.astore X18.here hx rfl (hb hby at_32) rfl rfl (l' := #[.val (.long q1), .second, .val (.int p2), .val (.int kx), .val (.double (FP.i2d kx)), .second, .val (.ref b15), .val (.ref b17), .unset, .unset]) rfl ?_
    show Steps p.tables e below (T18.setTop (mkF m 34 #[.val (.long q1), .second, .val (.int p2), .val (.int kx), .val (.double (FP.i2d kx)), .second, .val (.ref b15), .val (.ref b17), .unset, .unset] [])) _
    refine XS.aload X18.here hx rfl (hb hby at_34) rfl rfl ?_
    exact kt
  obtain ⟨cq19, kq19, q19a, q19b, q19c⟩ := isOf hZ rfl Ex1
  obtain ⟨_, _, ⟨T19, L19, k19, n19⟩, -, X19, ⟨Lc19, hQ19, l19, y19, z19⟩, st19⟩ := X18.virtualBack hx (y := (⟨"com/example/farspan/farspan/runtime/Link", "delays", "()Z"⟩ : MethodName)) (z := (⟨"com/example/farspan/farspan/runtime/Link", "delays", "()Z"⟩ : MethodName)) hown (mvT hZ (hw _ (List.mem_of_getElem? (i := 38) rfl))) (mvT hZ (hw _ (List.mem_of_getElem? (i := 39) rfl))) (notFace_of_selects (args := #[]) (mvT hZ (hw _ (List.mem_of_getElem? (i := 41) rfl)))) (mvT hZ (hw _ (List.mem_of_getElem? (i := 41) rfl))) (mvT hZ (hw _ (List.mem_of_getElem? (i := 40) rfl))) (by decide) (backOf (W := 0) (rm6 l Z a0 hw [] b15 q1 (0 : UInt64) T18.heap n0 Z3 Fm1 Fd1) hZ (hw _ (List.mem_of_getElem? (i := 42) rfl)) (hw _ (List.mem_of_getElem? (i := 2) rfl)) (by decide) (by decide)) q19a q19c (g := (mkF m 36 #[.val (.long q1), .second, .val (.int p2), .val (.int kx), .val (.double (FP.i2d kx)), .second, .val (.ref b15), .val (.ref b17), .unset, .unset] [(.ref b15)])) rfl (by rw [hml]; rfl) (Steps.refl _) (argsL := []) (rest := []) (lenOf pd_3 rfl) rfl (by show 2 * 0 + _ ≤ _; exact Nat.le_of_eq rfl) (hb hby at_36) (fun _ _ => ⟨rfl, rfl, (by decide : 6 + 0 ≤ _), (by decide : 50 + 0 ≤ _)⟩)
  dsimp only [Pt.U, Pt.locs, Pt.cells, Pt.slots] at X19 l19 y19 z19 st19 hQ19
  subst l19 y19 z19
  obtain ⟨rfl, N19q, e19⟩ := hQ19
  have N19 := Fr.app N18 N19q
  refine Ends.st st19 ?_
  refine Ends.of (F' := T19.setTop (mkF m 42 #[.val (.long q1), .second, .val (.int p2), .val (.int kx), .val (.double (FP.i2d kx)), .second, .val (.ref b15), .val (.ref b17), .unset, .unset] [(.int (lcmpW q1 (0 : Int64))), (.int (if (q1 = (0 : Int64) ∧ cmpValue (FP.dcmp (0 : UInt64) (0 : UInt64)) .l = (0 : Int32)) then (0 : Int32) else (1 : Int32)))])) (fun _ kt => ?_) ?_
  · show Steps p.tables e below (T19.setTop (mkF m 39 #[.val (.long q1), .second, .val (.int p2), .val (.int kx), .val (.double (FP.i2d kx)), .second, .val (.ref b15), .val (.ref b17), .unset, .unset] [(.int (if (q1 = (0 : Int64) ∧ cmpValue (FP.dcmp (0 : UInt64) (0 : UInt64)) .l = (0 : Int32)) then (0 : Int32) else (1 : Int32)))])) _
    refine XS.lloadN X19.here hx rfl (hb hby at_39) rfl ?_
    show Steps p.tables e below (T19.setTop (mkF m 40 #[.val (.long q1), .second, .val (.int p2), .val (.int kx), .val (.double (FP.i2d kx)), .second, .val (.ref b15), .val (.ref b17), .unset, .unset] [(.long q1), (.int (if (q1 = (0 : Int64) ∧ cmpValue (FP.dcmp (0 : UInt64) (0 : UInt64)) .l = (0 : Int32)) then (0 : Int32) else (1 : Int32)))])) _
    refine XS.lconst X19.here hx rfl (hb hby at_40) ?_
    show Steps p.tables e below (T19.setTop (mkF m 41 #[.val (.long q1), .second, .val (.int p2), .val (.int kx), .val (.double (FP.i2d kx)), .second, .val (.ref b15), .val (.ref b17), .unset, .unset] [(.long (0 : Int64)), (.long q1), (.int (if (q1 = (0 : Int64) ∧ cmpValue (FP.dcmp (0 : UInt64) (0 : UInt64)) .l = (0 : Int32)) then (0 : Int32) else (1 : Int32)))])) _
    refine XS.lcmp X19.here hx rfl (hb hby at_41) rfl ?_
    exact kt
  by_cases hq : q1 = (0 : Int64)
  · refine Ends.of (F' := T19.setTop (mkF m 62 #[.val (.long q1), .second, .val (.int p2), .val (.int kx), .val (.double (FP.i2d kx)), .second, .val (.ref b15), .val (.ref b17), .val (.int (1 : Int32)), .unset] [(.ref b17)])) (fun _ kt => ?_) ?_
    · show Steps p.tables e below (T19.setTop (mkF m 42 #[.val (.long q1), .second, .val (.int p2), .val (.int kx), .val (.double (FP.i2d kx)), .second, .val (.ref b15), .val (.ref b17), .unset, .unset] [(.int (lcmpW q1 (0 : Int64))), (.int (if (q1 = (0 : Int64) ∧ cmpValue (FP.dcmp (0 : UInt64) (0 : UInt64)) .l = (0 : Int32)) then (0 : Int32) else (1 : Int32)))])) _
      refine XS.ifYes X19.here hx rfl (pc0 := 42) (pc' := 49) rfl (hb hby at_42) rfl ((if0 _ _).trans (teq ((lw_eq _ _).mpr hq)).1) (by decide) (by decide) ?_
      show Steps p.tables e below (T19.setTop (mkF m 49 #[.val (.long q1), .second, .val (.int p2), .val (.int kx), .val (.double (FP.i2d kx)), .second, .val (.ref b15), .val (.ref b17), .unset, .unset] [(.int (if (q1 = (0 : Int64) ∧ cmpValue (FP.dcmp (0 : UInt64) (0 : UInt64)) .l = (0 : Int32)) then (0 : Int32) else (1 : Int32)))])) _
      refine XS.iconst X19.here hx rfl (hb hby at_49) ?_
      show Steps p.tables e below (T19.setTop (mkF m 50 #[.val (.long q1), .second, .val (.int p2), .val (.int kx), .val (.double (FP.i2d kx)), .second, .val (.ref b15), .val (.ref b17), .unset, .unset] [(.int (0 : Int32)), (.int (if (q1 = (0 : Int64) ∧ cmpValue (FP.dcmp (0 : UInt64) (0 : UInt64)) .l = (0 : Int32)) then (0 : Int32) else (1 : Int32)))])) _
      refine XS.icmpNo X19.here hx rfl (hb hby at_50) rfl (teq (if_pos ⟨hq, own_c0⟩)).2 ?_
      show Steps p.tables e below (T19.setTop (mkF m 53 #[.val (.long q1), .second, .val (.int p2), .val (.int kx), .val (.double (FP.i2d kx)), .second, .val (.ref b15), .val (.ref b17), .unset, .unset] [])) _
      refine XS.iconst X19.here hx rfl (hb hby at_53) ?_
      show Steps p.tables e below (T19.setTop (mkF m 54 #[.val (.long q1), .second, .val (.int p2), .val (.int kx), .val (.double (FP.i2d kx)), .second, .val (.ref b15), .val (.ref b17), .unset, .unset] [(.int (1 : Int32))])) _
      refine XS.goto X19.here hx rfl (pc0 := 54) (pc' := 58) rfl (hb hby at_54) (by decide) (by decide) ?_
      show Steps p.tables e below (T19.setTop (mkF m 58 #[.val (.long q1), .second, .val (.int p2), .val (.int kx), .val (.double (FP.i2d kx)), .second, .val (.ref b15), .val (.ref b17), .unset, .unset] [(.int (1 : Int32))])) _
      refine XS.istore X19.here hx rfl (hb hby at_58) rfl (l' := #[.val (.long q1), .second, .val (.int p2), .val (.int kx), .val (.double (FP.i2d kx)), .second, .val (.ref b15), .val (.ref b17), .val (.int (1 : Int32)), .unset]) rfl ?_
      show Steps p.tables e below (T19.setTop (mkF m 60 #[.val (.long q1), .second, .val (.int p2), .val (.int kx), .val (.double (FP.i2d kx)), .second, .val (.ref b15), .val (.ref b17), .val (.int (1 : Int32)), .unset] [])) _
      refine XS.aload X19.here hx rfl (hb hby at_60) rfl rfl ?_
      exact kt
    obtain ⟨cq20, kq20, q20a, q20b, q20c⟩ := isOf hZ e19 Ex18
    obtain ⟨_, _, ⟨T20, L20, k20, n20⟩, -, X20, ⟨Lc20, hQ20, l20, y20, z20⟩, st20⟩ := X19.virtualBack hx (y := (⟨"com/example/farspan/farspan/runtime/Link", "delays", "()Z"⟩ : MethodName)) (z := (⟨"com/example/farspan/farspan/runtime/Link", "delays", "()Z"⟩ : MethodName)) hown (mvT hZ (hw _ (List.mem_of_getElem? (i := 38) rfl))) (mvT hZ (hw _ (List.mem_of_getElem? (i := 39) rfl))) (notFace_of_selects (args := #[]) (mvT hZ (hw _ (List.mem_of_getElem? (i := 41) rfl)))) (mvT hZ (hw _ (List.mem_of_getElem? (i := 41) rfl))) (mvT hZ (hw _ (List.mem_of_getElem? (i := 40) rfl))) (by decide) (backOf (W := 0) (rm6 l Z a0 hw [] b17 q1 (FP.i2d kx) T18.heap n0 Z3 Fm18 Fd18) hZ (hw _ (List.mem_of_getElem? (i := 42) rfl)) (hw _ (List.mem_of_getElem? (i := 2) rfl)) (by decide) (by decide)) q20a q20c (g := (mkF m 62 #[.val (.long q1), .second, .val (.int p2), .val (.int kx), .val (.double (FP.i2d kx)), .second, .val (.ref b15), .val (.ref b17), .val (.int (1 : Int32)), .unset] [(.ref b17)])) rfl (by rw [hml]; rfl) (Steps.refl _) (argsL := []) (rest := []) (lenOf pd_3 rfl) rfl (by show 2 * 0 + _ ≤ _; exact Nat.le_of_eq rfl) (hb hby at_62) (fun _ _ => ⟨rfl, e19, (by decide : 6 + 0 ≤ _), (by decide : 50 + 0 ≤ _)⟩)
    dsimp only [Pt.U, Pt.locs, Pt.cells, Pt.slots] at X20 l20 y20 z20 st20 hQ20
    subst l20 y20 z20
    obtain ⟨rfl, N20q, e20⟩ := hQ20
    have N20 := Fr.app N19 N20q
    refine Ends.st st20 ?_
    refine Ends.of (F' := T20.setTop (mkF m 72 #[.val (.long q1), .second, .val (.int p2), .val (.int kx), .val (.double (FP.i2d kx)), .second, .val (.ref b15), .val (.ref b17), .val (.int (1 : Int32)), .unset] [(.int kx), (.int (if (q1 = (0 : Int64) ∧ cmpValue (FP.dcmp (FP.i2d kx) (0 : UInt64)) .l = (0 : Int32)) then (0 : Int32) else (1 : Int32)))])) (fun _ kt => ?_) ?_
    · show Steps p.tables e below (T20.setTop (mkF m 65 #[.val (.long q1), .second, .val (.int p2), .val (.int kx), .val (.double (FP.i2d kx)), .second, .val (.ref b15), .val (.ref b17), .val (.int (1 : Int32)), .unset] [(.int (if (q1 = (0 : Int64) ∧ cmpValue (FP.dcmp (FP.i2d kx) (0 : UInt64)) .l = (0 : Int32)) then (0 : Int32) else (1 : Int32)))])) _
      refine XS.lloadN X20.here hx rfl (hb hby at_65) rfl ?_
      show Steps p.tables e below (T20.setTop (mkF m 66 #[.val (.long q1), .second, .val (.int p2), .val (.int kx), .val (.double (FP.i2d kx)), .second, .val (.ref b15), .val (.ref b17), .val (.int (1 : Int32)), .unset] [(.long q1), (.int (if (q1 = (0 : Int64) ∧ cmpValue (FP.dcmp (FP.i2d kx) (0 : UInt64)) .l = (0 : Int32)) then (0 : Int32) else (1 : Int32)))])) _
      refine XS.lconst X20.here hx rfl (hb hby at_66) ?_
      show Steps p.tables e below (T20.setTop (mkF m 67 #[.val (.long q1), .second, .val (.int p2), .val (.int kx), .val (.double (FP.i2d kx)), .second, .val (.ref b15), .val (.ref b17), .val (.int (1 : Int32)), .unset] [(.long (0 : Int64)), (.long q1), (.int (if (q1 = (0 : Int64) ∧ cmpValue (FP.dcmp (FP.i2d kx) (0 : UInt64)) .l = (0 : Int32)) then (0 : Int32) else (1 : Int32)))])) _
      refine XS.lcmp X20.here hx rfl (hb hby at_67) rfl ?_
      show Steps p.tables e below (T20.setTop (mkF m 68 #[.val (.long q1), .second, .val (.int p2), .val (.int kx), .val (.double (FP.i2d kx)), .second, .val (.ref b15), .val (.ref b17), .val (.int (1 : Int32)), .unset] [(.int (lcmpW q1 (0 : Int64))), (.int (if (q1 = (0 : Int64) ∧ cmpValue (FP.dcmp (FP.i2d kx) (0 : UInt64)) .l = (0 : Int32)) then (0 : Int32) else (1 : Int32)))])) _
      refine XS.ifNo X20.here hx rfl (hb hby at_68) rfl ((if0 _ _).trans (teq ((lw_eq _ _).mpr hq)).2) ?_
      show Steps p.tables e below (T20.setTop (mkF m 71 #[.val (.long q1), .second, .val (.int p2), .val (.int kx), .val (.double (FP.i2d kx)), .second, .val (.ref b15), .val (.ref b17), .val (.int (1 : Int32)), .unset] [(.int (if (q1 = (0 : Int64) ∧ cmpValue (FP.dcmp (FP.i2d kx) (0 : UInt64)) .l = (0 : Int32)) then (0 : Int32) else (1 : Int32)))])) _
      refine XS.iloadN X20.here hx rfl (hb hby at_71) rfl ?_
      exact kt
    by_cases hkx : kx = (0 : Int32)
    · refine Ends.of (F' := T20.setTop (mkF m 105 #[.val (.long q1), .second, .val (.int p2), .val (.int kx), .val (.double (FP.i2d kx)), .second, .val (.ref b15), .val (.ref b17), .val (.int (1 : Int32)), .val (.int (1 : Int32))] [(.int (1 : Int32))])) (fun _ kt => ?_) ?_
      · show Steps p.tables e below (T20.setTop (mkF m 72 #[.val (.long q1), .second, .val (.int p2), .val (.int kx), .val (.double (FP.i2d kx)), .second, .val (.ref b15), .val (.ref b17), .val (.int (1 : Int32)), .unset] [(.int kx), (.int (if (q1 = (0 : Int64) ∧ cmpValue (FP.dcmp (FP.i2d kx) (0 : UInt64)) .l = (0 : Int32)) then (0 : Int32) else (1 : Int32)))])) _
        refine XS.ifYes X20.here hx rfl (pc0 := 72) (pc' := 79) rfl (hb hby at_72) rfl ((if0 _ _).trans (teq hkx).1) (by decide) (by decide) ?_
        show Steps p.tables e below (T20.setTop (mkF m 79 #[.val (.long q1), .second, .val (.int p2), .val (.int kx), .val (.double (FP.i2d kx)), .second, .val (.ref b15), .val (.ref b17), .val (.int (1 : Int32)), .unset] [(.int (if (q1 = (0 : Int64) ∧ cmpValue (FP.dcmp (FP.i2d kx) (0 : UInt64)) .l = (0 : Int32)) then (0 : Int32) else (1 : Int32)))])) _
        refine XS.iconst X20.here hx rfl (hb hby at_79) ?_
        show Steps p.tables e below (T20.setTop (mkF m 80 #[.val (.long q1), .second, .val (.int p2), .val (.int kx), .val (.double (FP.i2d kx)), .second, .val (.ref b15), .val (.ref b17), .val (.int (1 : Int32)), .unset] [(.int (0 : Int32)), (.int (if (q1 = (0 : Int64) ∧ cmpValue (FP.dcmp (FP.i2d kx) (0 : UInt64)) .l = (0 : Int32)) then (0 : Int32) else (1 : Int32)))])) _
        refine XS.icmpNo X20.here hx rfl (hb hby at_80) rfl (teq (if_pos ⟨hq, hk.mpr hkx⟩)).2 ?_
        show Steps p.tables e below (T20.setTop (mkF m 83 #[.val (.long q1), .second, .val (.int p2), .val (.int kx), .val (.double (FP.i2d kx)), .second, .val (.ref b15), .val (.ref b17), .val (.int (1 : Int32)), .unset] [])) _
        refine XS.iconst X20.here hx rfl (hb hby at_83) ?_
        show Steps p.tables e below (T20.setTop (mkF m 84 #[.val (.long q1), .second, .val (.int p2), .val (.int kx), .val (.double (FP.i2d kx)), .second, .val (.ref b15), .val (.ref b17), .val (.int (1 : Int32)), .unset] [(.int (1 : Int32))])) _
        refine XS.goto X20.here hx rfl (pc0 := 84) (pc' := 88) rfl (hb hby at_84) (by decide) (by decide) ?_
        show Steps p.tables e below (T20.setTop (mkF m 88 #[.val (.long q1), .second, .val (.int p2), .val (.int kx), .val (.double (FP.i2d kx)), .second, .val (.ref b15), .val (.ref b17), .val (.int (1 : Int32)), .unset] [(.int (1 : Int32))])) _
        refine XS.istore X20.here hx rfl (hb hby at_88) rfl (l' := #[.val (.long q1), .second, .val (.int p2), .val (.int kx), .val (.double (FP.i2d kx)), .second, .val (.ref b15), .val (.ref b17), .val (.int (1 : Int32)), .val (.int (1 : Int32))]) rfl ?_
        show Steps p.tables e below (T20.setTop (mkF m 90 #[.val (.long q1), .second, .val (.int p2), .val (.int kx), .val (.double (FP.i2d kx)), .second, .val (.ref b15), .val (.ref b17), .val (.int (1 : Int32)), .val (.int (1 : Int32))] [])) _
        refine XS.iload X20.here hx rfl (hb hby at_90) rfl ?_
        show Steps p.tables e below (T20.setTop (mkF m 92 #[.val (.long q1), .second, .val (.int p2), .val (.int kx), .val (.double (FP.i2d kx)), .second, .val (.ref b15), .val (.ref b17), .val (.int (1 : Int32)), .val (.int (1 : Int32))] [(.int (1 : Int32))])) _
        refine XS.ifNo X20.here hx rfl (hb hby at_92) rfl ((if0 _ _).trans (feq (by decide)).1) ?_
        show Steps p.tables e below (T20.setTop (mkF m 95 #[.val (.long q1), .second, .val (.int p2), .val (.int kx), .val (.double (FP.i2d kx)), .second, .val (.ref b15), .val (.ref b17), .val (.int (1 : Int32)), .val (.int (1 : Int32))] [])) _
        refine XS.iload X20.here hx rfl (hb hby at_95) rfl ?_
        show Steps p.tables e below (T20.setTop (mkF m 97 #[.val (.long q1), .second, .val (.int p2), .val (.int kx), .val (.double (FP.i2d kx)), .second, .val (.ref b15), .val (.ref b17), .val (.int (1 : Int32)), .val (.int (1 : Int32))] [(.int (1 : Int32))])) _
        refine XS.ifNo X20.here hx rfl (hb hby at_97) rfl ((if0 _ _).trans (feq (by decide)).1) ?_
        show Steps p.tables e below (T20.setTop (mkF m 100 #[.val (.long q1), .second, .val (.int p2), .val (.int kx), .val (.double (FP.i2d kx)), .second, .val (.ref b15), .val (.ref b17), .val (.int (1 : Int32)), .val (.int (1 : Int32))] [])) _
        refine XS.iconst X20.here hx rfl (hb hby at_100) ?_
        show Steps p.tables e below (T20.setTop (mkF m 101 #[.val (.long q1), .second, .val (.int p2), .val (.int kx), .val (.double (FP.i2d kx)), .second, .val (.ref b15), .val (.ref b17), .val (.int (1 : Int32)), .val (.int (1 : Int32))] [(.int (1 : Int32))])) _
        refine XS.goto X20.here hx rfl (pc0 := 101) (pc' := 105) rfl (hb hby at_101) (by decide) (by decide) ?_
        exact kt
      obtain ⟨fs, hr, hrun, hended, hW, hsame⟩ := X20.leave (v := some (.int (1 : Int32))) (fun h => by rw [Bd.returns] at h; cases h)
      exact ⟨_, _, retN X20 hx (t := .boolean) Bd.returns (by simp) (hb hby at_105) hr, hrun, hended, _, _, rfl, ⟨rfl, N20⟩, ⟨_, rfl⟩, hW, hsame.mono (by decide) (by decide)⟩
    · refine Ends.of (F' := T20.setTop (mkF m 105 #[.val (.long q1), .second, .val (.int p2), .val (.int kx), .val (.double (FP.i2d kx)), .second, .val (.ref b15), .val (.ref b17), .val (.int (1 : Int32)), .val (.int (1 : Int32))] [(.int (1 : Int32))])) (fun _ kt => ?_) ?_
      · show Steps p.tables e below (T20.setTop (mkF m 72 #[.val (.long q1), .second, .val (.int p2), .val (.int kx), .val (.double (FP.i2d kx)), .second, .val (.ref b15), .val (.ref b17), .val (.int (1 : Int32)), .unset] [(.int kx), (.int (if (q1 = (0 : Int64) ∧ cmpValue (FP.dcmp (FP.i2d kx) (0 : UInt64)) .l = (0 : Int32)) then (0 : Int32) else (1 : Int32)))])) _
        refine XS.ifNo X20.here hx rfl (hb hby at_72) rfl ((if0 _ _).trans (feq hkx).1) ?_
        show Steps p.tables e below (T20.setTop (mkF m 75 #[.val (.long q1), .second, .val (.int p2), .val (.int kx), .val (.double (FP.i2d kx)), .second, .val (.ref b15), .val (.ref b17), .val (.int (1 : Int32)), .unset] [(.int (if (q1 = (0 : Int64) ∧ cmpValue (FP.dcmp (FP.i2d kx) (0 : UInt64)) .l = (0 : Int32)) then (0 : Int32) else (1 : Int32)))])) _
        refine XS.iconst X20.here hx rfl (hb hby at_75) ?_
        show Steps p.tables e below (T20.setTop (mkF m 76 #[.val (.long q1), .second, .val (.int p2), .val (.int kx), .val (.double (FP.i2d kx)), .second, .val (.ref b15), .val (.ref b17), .val (.int (1 : Int32)), .unset] [(.int (1 : Int32)), (.int (if (q1 = (0 : Int64) ∧ cmpValue (FP.dcmp (FP.i2d kx) (0 : UInt64)) .l = (0 : Int32)) then (0 : Int32) else (1 : Int32)))])) _
        refine XS.goto X20.here hx rfl (pc0 := 76) (pc' := 80) rfl (hb hby at_76) (by decide) (by decide) ?_
        show Steps p.tables e below (T20.setTop (mkF m 80 #[.val (.long q1), .second, .val (.int p2), .val (.int kx), .val (.double (FP.i2d kx)), .second, .val (.ref b15), .val (.ref b17), .val (.int (1 : Int32)), .unset] [(.int (1 : Int32)), (.int (if (q1 = (0 : Int64) ∧ cmpValue (FP.dcmp (FP.i2d kx) (0 : UInt64)) .l = (0 : Int32)) then (0 : Int32) else (1 : Int32)))])) _
        refine XS.icmpNo X20.here hx rfl (hb hby at_80) rfl (teq (if_neg (fun q => hkx (hk.mp q.2)))).2 ?_
        show Steps p.tables e below (T20.setTop (mkF m 83 #[.val (.long q1), .second, .val (.int p2), .val (.int kx), .val (.double (FP.i2d kx)), .second, .val (.ref b15), .val (.ref b17), .val (.int (1 : Int32)), .unset] [])) _
        refine XS.iconst X20.here hx rfl (hb hby at_83) ?_
        show Steps p.tables e below (T20.setTop (mkF m 84 #[.val (.long q1), .second, .val (.int p2), .val (.int kx), .val (.double (FP.i2d kx)), .second, .val (.ref b15), .val (.ref b17), .val (.int (1 : Int32)), .unset] [(.int (1 : Int32))])) _
        refine XS.goto X20.here hx rfl (pc0 := 84) (pc' := 88) rfl (hb hby at_84) (by decide) (by decide) ?_
        show Steps p.tables e below (T20.setTop (mkF m 88 #[.val (.long q1), .second, .val (.int p2), .val (.int kx), .val (.double (FP.i2d kx)), .second, .val (.ref b15), .val (.ref b17), .val (.int (1 : Int32)), .unset] [(.int (1 : Int32))])) _
        refine XS.istore X20.here hx rfl (hb hby at_88) rfl (l' := #[.val (.long q1), .second, .val (.int p2), .val (.int kx), .val (.double (FP.i2d kx)), .second, .val (.ref b15), .val (.ref b17), .val (.int (1 : Int32)), .val (.int (1 : Int32))]) rfl ?_
        show Steps p.tables e below (T20.setTop (mkF m 90 #[.val (.long q1), .second, .val (.int p2), .val (.int kx), .val (.double (FP.i2d kx)), .second, .val (.ref b15), .val (.ref b17), .val (.int (1 : Int32)), .val (.int (1 : Int32))] [])) _
        refine XS.iload X20.here hx rfl (hb hby at_90) rfl ?_
        show Steps p.tables e below (T20.setTop (mkF m 92 #[.val (.long q1), .second, .val (.int p2), .val (.int kx), .val (.double (FP.i2d kx)), .second, .val (.ref b15), .val (.ref b17), .val (.int (1 : Int32)), .val (.int (1 : Int32))] [(.int (1 : Int32))])) _
        refine XS.ifNo X20.here hx rfl (hb hby at_92) rfl ((if0 _ _).trans (feq (by decide)).1) ?_
        show Steps p.tables e below (T20.setTop (mkF m 95 #[.val (.long q1), .second, .val (.int p2), .val (.int kx), .val (.double (FP.i2d kx)), .second, .val (.ref b15), .val (.ref b17), .val (.int (1 : Int32)), .val (.int (1 : Int32))] [])) _
        refine XS.iload X20.here hx rfl (hb hby at_95) rfl ?_
        show Steps p.tables e below (T20.setTop (mkF m 97 #[.val (.long q1), .second, .val (.int p2), .val (.int kx), .val (.double (FP.i2d kx)), .second, .val (.ref b15), .val (.ref b17), .val (.int (1 : Int32)), .val (.int (1 : Int32))] [(.int (1 : Int32))])) _
        refine XS.ifNo X20.here hx rfl (hb hby at_97) rfl ((if0 _ _).trans (feq (by decide)).1) ?_
        show Steps p.tables e below (T20.setTop (mkF m 100 #[.val (.long q1), .second, .val (.int p2), .val (.int kx), .val (.double (FP.i2d kx)), .second, .val (.ref b15), .val (.ref b17), .val (.int (1 : Int32)), .val (.int (1 : Int32))] [])) _
        refine XS.iconst X20.here hx rfl (hb hby at_100) ?_
        show Steps p.tables e below (T20.setTop (mkF m 101 #[.val (.long q1), .second, .val (.int p2), .val (.int kx), .val (.double (FP.i2d kx)), .second, .val (.ref b15), .val (.ref b17), .val (.int (1 : Int32)), .val (.int (1 : Int32))] [(.int (1 : Int32))])) _
        refine XS.goto X20.here hx rfl (pc0 := 101) (pc' := 105) rfl (hb hby at_101) (by decide) (by decide) ?_
        exact kt
      obtain ⟨fs, hr, hrun, hended, hW, hsame⟩ := X20.leave (v := some (.int (1 : Int32))) (fun h => by rw [Bd.returns] at h; cases h)
      exact ⟨_, _, retN X20 hx (t := .boolean) Bd.returns (by simp) (hb hby at_105) hr, hrun, hended, _, _, rfl, ⟨rfl, N20⟩, ⟨_, rfl⟩, hW, hsame.mono (by decide) (by decide)⟩
  · refine Ends.of (F' := T19.setTop (mkF m 62 #[.val (.long q1), .second, .val (.int p2), .val (.int kx), .val (.double (FP.i2d kx)), .second, .val (.ref b15), .val (.ref b17), .val (.int (1 : Int32)), .unset] [(.ref b17)])) (fun _ kt => ?_) ?_
    · show Steps p.tables e below (T19.setTop (mkF m 42 #[.val (.long q1), .second, .val (.int p2), .val (.int kx), .val (.double (FP.i2d kx)), .second, .val (.ref b15), .val (.ref b17), .unset, .unset] [(.int (lcmpW q1 (0 : Int64))), (.int (if (q1 = (0 : Int64) ∧ cmpValue (FP.dcmp (0 : UInt64) (0 : UInt64)) .l = (0 : Int32)) then (0 : Int32) else (1 : Int32)))])) _
      refine XS.ifNo X19.here hx rfl (hb hby at_42) rfl ((if0 _ _).trans (feq (mt (lw_eq _ _).mp hq)).1) ?_
      show Steps p.tables e below (T19.setTop (mkF m 45 #[.val (.long q1), .second, .val (.int p2), .val (.int kx), .val (.double (FP.i2d kx)), .second, .val (.ref b15), .val (.ref b17), .unset, .unset] [(.int (if (q1 = (0 : Int64) ∧ cmpValue (FP.dcmp (0 : UInt64) (0 : UInt64)) .l = (0 : Int32)) then (0 : Int32) else (1 : Int32)))])) _
      refine XS.iconst X19.here hx rfl (hb hby at_45) ?_
      show Steps p.tables e below (T19.setTop (mkF m 46 #[.val (.long q1), .second, .val (.int p2), .val (.int kx), .val (.double (FP.i2d kx)), .second, .val (.ref b15), .val (.ref b17), .unset, .unset] [(.int (1 : Int32)), (.int (if (q1 = (0 : Int64) ∧ cmpValue (FP.dcmp (0 : UInt64) (0 : UInt64)) .l = (0 : Int32)) then (0 : Int32) else (1 : Int32)))])) _
      refine XS.goto X19.here hx rfl (pc0 := 46) (pc' := 50) rfl (hb hby at_46) (by decide) (by decide) ?_
      show Steps p.tables e below (T19.setTop (mkF m 50 #[.val (.long q1), .second, .val (.int p2), .val (.int kx), .val (.double (FP.i2d kx)), .second, .val (.ref b15), .val (.ref b17), .unset, .unset] [(.int (1 : Int32)), (.int (if (q1 = (0 : Int64) ∧ cmpValue (FP.dcmp (0 : UInt64) (0 : UInt64)) .l = (0 : Int32)) then (0 : Int32) else (1 : Int32)))])) _
      refine XS.icmpNo X19.here hx rfl (hb hby at_50) rfl (teq (if_neg (fun q => hq q.1))).2 ?_
      show Steps p.tables e below (T19.setTop (mkF m 53 #[.val (.long q1), .second, .val (.int p2), .val (.int kx), .val (.double (FP.i2d kx)), .second, .val (.ref b15), .val (.ref b17), .unset, .unset] [])) _
      refine XS.iconst X19.here hx rfl (hb hby at_53) ?_
      show Steps p.tables e below (T19.setTop (mkF m 54 #[.val (.long q1), .second, .val (.int p2), .val (.int kx), .val (.double (FP.i2d kx)), .second, .val (.ref b15), .val (.ref b17), .unset, .unset] [(.int (1 : Int32))])) _
      refine XS.goto X19.here hx rfl (pc0 := 54) (pc' := 58) rfl (hb hby at_54) (by decide) (by decide) ?_
      show Steps p.tables e below (T19.setTop (mkF m 58 #[.val (.long q1), .second, .val (.int p2), .val (.int kx), .val (.double (FP.i2d kx)), .second, .val (.ref b15), .val (.ref b17), .unset, .unset] [(.int (1 : Int32))])) _
      refine XS.istore X19.here hx rfl (hb hby at_58) rfl (l' := #[.val (.long q1), .second, .val (.int p2), .val (.int kx), .val (.double (FP.i2d kx)), .second, .val (.ref b15), .val (.ref b17), .val (.int (1 : Int32)), .unset]) rfl ?_
      show Steps p.tables e below (T19.setTop (mkF m 60 #[.val (.long q1), .second, .val (.int p2), .val (.int kx), .val (.double (FP.i2d kx)), .second, .val (.ref b15), .val (.ref b17), .val (.int (1 : Int32)), .unset] [])) _
      refine XS.aload X19.here hx rfl (hb hby at_60) rfl rfl ?_
      exact kt
    obtain ⟨cq21, kq21, q21a, q21b, q21c⟩ := isOf hZ e19 Ex18
    obtain ⟨_, _, ⟨T21, L21, k21, n21⟩, -, X21, ⟨Lc21, hQ21, l21, y21, z21⟩, st21⟩ := X19.virtualBack hx (y := (⟨"com/example/farspan/farspan/runtime/Link", "delays", "()Z"⟩ : MethodName)) (z := (⟨"com/example/farspan/farspan/runtime/Link", "delays", "()Z"⟩ : MethodName)) hown (mvT hZ (hw _ (List.mem_of_getElem? (i := 38) rfl))) (mvT hZ (hw _ (List.mem_of_getElem? (i := 39) rfl))) (notFace_of_selects (args := #[]) (mvT hZ (hw _ (List.mem_of_getElem? (i := 41) rfl)))) (mvT hZ (hw _ (List.mem_of_getElem? (i := 41) rfl))) (mvT hZ (hw _ (List.mem_of_getElem? (i := 40) rfl))) (by decide) (backOf (W := 0) (rm6 l Z a0 hw [] b17 q1 (FP.i2d kx) T18.heap n0 Z3 Fm18 Fd18) hZ (hw _ (List.mem_of_getElem? (i := 42) rfl)) (hw _ (List.mem_of_getElem? (i := 2) rfl)) (by decide) (by decide)) q21a q21c (g := (mkF m 62 #[.val (.long q1), .second, .val (.int p2), .val (.int kx), .val (.double (FP.i2d kx)), .second, .val (.ref b15), .val (.ref b17), .val (.int (1 : Int32)), .unset] [(.ref b17)])) rfl (by rw [hml]; rfl) (Steps.refl _) (argsL := []) (rest := []) (lenOf pd_3 rfl) rfl (by show 2 * 0 + _ ≤ _; exact Nat.le_of_eq rfl) (hb hby at_62) (fun _ _ => ⟨rfl, e19, (by decide : 6 + 0 ≤ _), (by decide : 50 + 0 ≤ _)⟩)
    dsimp only [Pt.U, Pt.locs, Pt.cells, Pt.slots] at X21 l21 y21 z21 st21 hQ21
    subst l21 y21 z21
    obtain ⟨rfl, N21q, e21⟩ := hQ21
    have N21 := Fr.app N19 N21q
    refine Ends.st st21 ?_
    refine Ends.of (F' := T21.setTop (mkF m 105 #[.val (.long q1), .second, .val (.int p2), .val (.int kx), .val (.double (FP.i2d kx)), .second, .val (.ref b15), .val (.ref b17), .val (.int (1 : Int32)), .val (.int (1 : Int32))] [(.int (1 : Int32))])) (fun _ kt => ?_) ?_
    · show Steps p.tables e below (T21.setTop (mkF m 65 #[.val (.long q1), .second, .val (.int p2), .val (.int kx), .val (.double (FP.i2d kx)), .second, .val (.ref b15), .val (.ref b17), .val (.int (1 : Int32)), .unset] [(.int (if (q1 = (0 : Int64) ∧ cmpValue (FP.dcmp (FP.i2d kx) (0 : UInt64)) .l = (0 : Int32)) then (0 : Int32) else (1 : Int32)))])) _
      refine XS.lloadN X21.here hx rfl (hb hby at_65) rfl ?_
      show Steps p.tables e below (T21.setTop (mkF m 66 #[.val (.long q1), .second, .val (.int p2), .val (.int kx), .val (.double (FP.i2d kx)), .second, .val (.ref b15), .val (.ref b17), .val (.int (1 : Int32)), .unset] [(.long q1), (.int (if (q1 = (0 : Int64) ∧ cmpValue (FP.dcmp (FP.i2d kx) (0 : UInt64)) .l = (0 : Int32)) then (0 : Int32) else (1 : Int32)))])) _
      refine XS.lconst X21.here hx rfl (hb hby at_66) ?_
      show Steps p.tables e below (T21.setTop (mkF m 67 #[.val (.long q1), .second, .val (.int p2), .val (.int kx), .val (.double (FP.i2d kx)), .second, .val (.ref b15), .val (.ref b17), .val (.int (1 : Int32)), .unset] [(.long (0 : Int64)), (.long q1), (.int (if (q1 = (0 : Int64) ∧ cmpValue (FP.dcmp (FP.i2d kx) (0 : UInt64)) .l = (0 : Int32)) then (0 : Int32) else (1 : Int32)))])) _
      refine XS.lcmp X21.here hx rfl (hb hby at_67) rfl ?_
      show Steps p.tables e below (T21.setTop (mkF m 68 #[.val (.long q1), .second, .val (.int p2), .val (.int kx), .val (.double (FP.i2d kx)), .second, .val (.ref b15), .val (.ref b17), .val (.int (1 : Int32)), .unset] [(.int (lcmpW q1 (0 : Int64))), (.int (if (q1 = (0 : Int64) ∧ cmpValue (FP.dcmp (FP.i2d kx) (0 : UInt64)) .l = (0 : Int32)) then (0 : Int32) else (1 : Int32)))])) _
      refine XS.ifYes X21.here hx rfl (pc0 := 68) (pc' := 75) rfl (hb hby at_68) rfl ((if0 _ _).trans (feq (mt (lw_eq _ _).mp hq)).2) (by decide) (by decide) ?_
      show Steps p.tables e below (T21.setTop (mkF m 75 #[.val (.long q1), .second, .val (.int p2), .val (.int kx), .val (.double (FP.i2d kx)), .second, .val (.ref b15), .val (.ref b17), .val (.int (1 : Int32)), .unset] [(.int (if (q1 = (0 : Int64) ∧ cmpValue (FP.dcmp (FP.i2d kx) (0 : UInt64)) .l = (0 : Int32)) then (0 : Int32) else (1 : Int32)))])) _
      refine XS.iconst X21.here hx rfl (hb hby at_75) ?_
      show Steps p.tables e below (T21.setTop (mkF m 76 #[.val (.long q1), .second, .val (.int p2), .val (.int kx), .val (.double (FP.i2d kx)), .second, .val (.ref b15), .val (.ref b17), .val (.int (1 : Int32)), .unset] [(.int (1 : Int32)), (.int (if (q1 = (0 : Int64) ∧ cmpValue (FP.dcmp (FP.i2d kx) (0 : UInt64)) .l = (0 : Int32)) then (0 : Int32) else (1 : Int32)))])) _
      refine XS.goto X21.here hx rfl (pc0 := 76) (pc' := 80) rfl (hb hby at_76) (by decide) (by decide) ?_
      show Steps p.tables e below (T21.setTop (mkF m 80 #[.val (.long q1), .second, .val (.int p2), .val (.int kx), .val (.double (FP.i2d kx)), .second, .val (.ref b15), .val (.ref b17), .val (.int (1 : Int32)), .unset] [(.int (1 : Int32)), (.int (if (q1 = (0 : Int64) ∧ cmpValue (FP.dcmp (FP.i2d kx) (0 : UInt64)) .l = (0 : Int32)) then (0 : Int32) else (1 : Int32)))])) _
      refine XS.icmpNo X21.here hx rfl (hb hby at_80) rfl (teq (if_neg (fun q => hq q.1))).2 ?_
      show Steps p.tables e below (T21.setTop (mkF m 83 #[.val (.long q1), .second, .val (.int p2), .val (.int kx), .val (.double (FP.i2d kx)), .second, .val (.ref b15), .val (.ref b17), .val (.int (1 : Int32)), .unset] [])) _
      refine XS.iconst X21.here hx rfl (hb hby at_83) ?_
      show Steps p.tables e below (T21.setTop (mkF m 84 #[.val (.long q1), .second, .val (.int p2), .val (.int kx), .val (.double (FP.i2d kx)), .second, .val (.ref b15), .val (.ref b17), .val (.int (1 : Int32)), .unset] [(.int (1 : Int32))])) _
      refine XS.goto X21.here hx rfl (pc0 := 84) (pc' := 88) rfl (hb hby at_84) (by decide) (by decide) ?_
      show Steps p.tables e below (T21.setTop (mkF m 88 #[.val (.long q1), .second, .val (.int p2), .val (.int kx), .val (.double (FP.i2d kx)), .second, .val (.ref b15), .val (.ref b17), .val (.int (1 : Int32)), .unset] [(.int (1 : Int32))])) _
      refine XS.istore X21.here hx rfl (hb hby at_88) rfl (l' := #[.val (.long q1), .second, .val (.int p2), .val (.int kx), .val (.double (FP.i2d kx)), .second, .val (.ref b15), .val (.ref b17), .val (.int (1 : Int32)), .val (.int (1 : Int32))]) rfl ?_
      show Steps p.tables e below (T21.setTop (mkF m 90 #[.val (.long q1), .second, .val (.int p2), .val (.int kx), .val (.double (FP.i2d kx)), .second, .val (.ref b15), .val (.ref b17), .val (.int (1 : Int32)), .val (.int (1 : Int32))] [])) _
      refine XS.iload X21.here hx rfl (hb hby at_90) rfl ?_
      show Steps p.tables e below (T21.setTop (mkF m 92 #[.val (.long q1), .second, .val (.int p2), .val (.int kx), .val (.double (FP.i2d kx)), .second, .val (.ref b15), .val (.ref b17), .val (.int (1 : Int32)), .val (.int (1 : Int32))] [(.int (1 : Int32))])) _
      refine XS.ifNo X21.here hx rfl (hb hby at_92) rfl ((if0 _ _).trans (feq (by decide)).1) ?_
      show Steps p.tables e below (T21.setTop (mkF m 95 #[.val (.long q1), .second, .val (.int p2), .val (.int kx), .val (.double (FP.i2d kx)), .second, .val (.ref b15), .val (.ref b17), .val (.int (1 : Int32)), .val (.int (1 : Int32))] [])) _
      refine XS.iload X21.here hx rfl (hb hby at_95) rfl ?_
      show Steps p.tables e below (T21.setTop (mkF m 97 #[.val (.long q1), .second, .val (.int p2), .val (.int kx), .val (.double (FP.i2d kx)), .second, .val (.ref b15), .val (.ref b17), .val (.int (1 : Int32)), .val (.int (1 : Int32))] [(.int (1 : Int32))])) _
      refine XS.ifNo X21.here hx rfl (hb hby at_97) rfl ((if0 _ _).trans (feq (by decide)).1) ?_
      show Steps p.tables e below (T21.setTop (mkF m 100 #[.val (.long q1), .second, .val (.int p2), .val (.int kx), .val (.double (FP.i2d kx)), .second, .val (.ref b15), .val (.ref b17), .val (.int (1 : Int32)), .val (.int (1 : Int32))] [])) _
      refine XS.iconst X21.here hx rfl (hb hby at_100) ?_
      show Steps p.tables e below (T21.setTop (mkF m 101 #[.val (.long q1), .second, .val (.int p2), .val (.int kx), .val (.double (FP.i2d kx)), .second, .val (.ref b15), .val (.ref b17), .val (.int (1 : Int32)), .val (.int (1 : Int32))] [(.int (1 : Int32))])) _
      refine XS.goto X21.here hx rfl (pc0 := 101) (pc' := 105) rfl (hb hby at_101) (by decide) (by decide) ?_
      exact kt
    obtain ⟨fs, hr, hrun, hended, hW, hsame⟩ := X21.leave (v := some (.int (1 : Int32))) (fun h => by rw [Bd.returns] at h; cases h)
    exact ⟨_, _, retN X21 hx (t := .boolean) Bd.returns (by simp) (hb hby at_105) hr, hrun, hended, _, _, rfl, ⟨rfl, N21⟩, ⟨_, rfl⟩, hW, hsame.mono (by decide) (by decide)⟩
set_option maxRecDepth 65536 in
set_option maxHeartbeats 40000000 in
theorem comes_1 {Post : Tables → Env → Array Value → State → Outcome → State → Prop} (hpost : ∀ tb e args s v u, (limb_1_1.after args s (.returned v) u = true ∧ limb_1_2.after args s (.returned v) u = true ∧ True) → FrameEnd s (.returned v) u (Jvm.fieldLocs frame_1_writes args s ++ Jvm.arrayLocs frame_1_arrays args s ++ Jvm.staticLocs frame_1_statics s) 24 192 → Post tb e args s (.returned v) u) :
    ArmFor flags0 classFile x code maxLocals ret World_1 tables_1 room_1 Calls_1 rest_1 Pre_1 Post := by
  intro l hfl _ _ p e ha hc hk s m args below hf hA hF happ hP
  obtain ⟨hcalls, hrest, hpre⟩ := hP
  obtain ⟨-, -, -, hnamed, -, -, -, hat⟩ := (Spec.applies_iff hf).mp happ
  obtain ⟨hg, hn⟩ := and_e (Cond.before_iff.mp (show (Jvm.Cond.and given_1 narrow_1).before args s = true from hpre))
  obtain ⟨g0, gt0⟩ := and_e hg
  obtain ⟨gv0, gt1⟩ := and_e gt0
  obtain ⟨w0, w1, rfl⟩ : ∃ w0 w1 : Value, args = #[w0, w1] := by
    have hs : args.size = 2 := by simpa [Cond.value, given_1] using g0
    obtain ⟨L⟩ := args
    match L, hs with
    | [w0, w1], _ => exact ⟨w0, w1, rfl⟩
  have hw := fun d (hd : d ∈ tables_1) => atoms_spec (ws := Jvm.Cond.code x code maxLocals ret :: tables_1) hat d (List.mem_cons_of_mem _ hd)
  have hfit : Fit s := fun {y c} hc i hi => by
    obtain ⟨ha, rfl⟩ := Array.getElem?_eq_some_iff.mp hc
    have q := List.all_eq_true.mp ((Array.all_eq_true_iff_forall_mem.mp hF) _ (Array.getElem_mem ha)) i (List.mem_range.mpr hi)
    simpa [Array.getElem?_eq_getElem hi] using q
  obtain ⟨i0, ei0⟩ := isL_v gv0
  obtain rfl : w0 = (.long i0) := Option.some.inj ei0
  obtain ⟨i1, ei1⟩ := is_v gt1
  obtain rfl : w1 = (.int i1) := Option.some.inj ei1
  obtain ⟨n, o, h1, h2, h3, _, L, rfl, ⟨rfl, N⟩, hq⟩ := rm0 l s _ hw tables_1 i0 i1  s.heap s.heap.size (Nat.le_refl _)  p e ha hc hk s m _ below hf ((Spec.applies_iff_loose hf).mp happ).1 ⟨rfl, State.Warmed39.refl s, rfl⟩ trivial
  refine ⟨n, _, h1, h2, h3, hpost _ _ _ _ _ _ ⟨Cond.after_iff.mpr rfl, Cond.after_iff.mpr (eq_i res_at (Term.int_eval (1)) rfl), trivial⟩ ⟨hq.1, hq.2.1, (hq.2.2.sift fun y hy => Or.inr (N y hy)).mono (by decide) (by decide)⟩⟩
theorem main_1_1 : Claimed_1_1 := comes_1 fun _ _ _ _ _ _ h hF => ⟨h.1, hF⟩
theorem main_1_2 : Claimed_1_2 := comes_1 fun _ _ _ _ _ _ h hF => ⟨h.2.1, hF⟩
end Jvm.Pilot.@@N@@
namespace Jvm.Pilot.@@N@@
open Jvm Jvm.ClassFile Sem Op Lib Jvm.Free Jvm.Stand Jvm.Pilot.@@N@@.Jvm.D
/-! MADE BY PROGRAM (witnessworld.py) out of the Statement's table words and the real class files: 17 classes; the members and pool entries that the words name. The judged class is class 1, her method 1. -/
namespace start1
open Jvm.ClassFile
def u (s : String) : CpInfo := .utf8 (stringToUtf16 s)
/-- a pool by its gaps: so many unusable entries, then the entry; so many at the end -/
def gap : Nat → List CpInfo → List CpInfo
  | 0, r => r
  | n + 1, r => .unusable :: gap n r
def poolList (es : List (Nat × CpInfo)) (last : Nat) : List CpInfo := es.foldr (fun e r => gap e.1 (e.2 :: r)) (gap last [])
def pool (es : List (Nat × CpInfo)) (last : Nat) : Array CpInfo := ⟨poolList es last⟩
def fileOf (pool : Array CpInfo) (this : Nat) (attrs : Array Attribute := #[]) (ms : Array MethodInfo := #[]) (fl : Nat := 33) (sup : Nat := 0) (ifs : Array Nat := #[]) (fds : Array FieldInfo := #[]) : ClassFile where
  minorVersion := 0
  majorVersion := 65
  constantPool := pool
  accessFlags := fl
  thisClass := this
  superClass := sup
  interfaces := ifs
  fields := fds
  methods := ms
  attributes := attrs
def plain (name : String) (sup : Option ClassId) : Class where
  name := name
  kind := .ordinary
  loader := none
  accessFlags := 33
  super := sup
  interfaces := #[]
  cf := none
  fields := #[]
  methods := #[]
  instanceTypes := #[]
  staticTypes := #[]
  resolved := #[]
  callSites := []
  init := .initialized
  statics := none
  mirror := none

def pool0 : Array CpInfo := pool [(5, u "<init>"), (0, u "()V"), (1, .class_ 10), (1, u "java/lang/Object")] 113

def k0c0 : Code := { maxStack := 0, maxLocals := 1, code := object_method_1_code, exceptionTable := #[], attributes := #[] }
def k0m0 : Method := { name := "<init>", desc := "()V", sig := { parameters := [], returnType := none }, accessFlags := 1, code := some k0c0 }
/-- java/lang/Object -/
def k0 : Class := { plain "java/lang/Object" none with
  accessFlags := 33
  interfaces := #[]
  cf := some (fileOf pool0 8 #[] #[{ accessFlags := 1, nameIndex := 5, descriptorIndex := 6, attributes := #[] }] 33 0 #[] #[])
  fields := #[]
  methods := #[k0m0]
  instanceTypes := #[]
  staticTypes := #[]
  resolved := Array.replicate 124 none
  statics := none }

def pool1 : Array CpInfo := pool [(2, .class_ 4), (1, u "java/lang/Object"), (0, u "<init>"), (0, u "()V"), (0, .class_ 8), (0, u "com/example/farspan/farspan/runtime/Link"), (0, .methodref 7 10), (0, .nameAndType 5 11), (0, u "(J)V"), (0, .methodref 7 13), (0, .nameAndType 5 14), (0, u "(JDLjava/util/random/RandomGenerator;)V"), (0, .methodref 7 16), (0, .nameAndType 17 18), (0, u "delays"), (0, u "()Z"), (0, .class_ 20), (0, u "com/example/farspan/farspan/runtime/LinkDelaysPinLaw"), (2, u "law"), (0, u "(JI)Z")] 3

def k1m0 : Method := { name := "<init>", desc := "()V", sig := { parameters := [], returnType := none }, accessFlags := 1, code := none }
def k1c1 : Code := { maxStack := 7, maxLocals := 10, code := code, exceptionTable := #[], attributes := #[] }
def k1m1 : Method := { name := "law", desc := "(JI)Z", sig := { parameters := [.long, .int], returnType := some .boolean }, accessFlags := 9, code := some k1c1 }
/-- com/example/farspan/farspan/runtime/LinkDelaysPinLaw -/
def k1 : Class := { plain "com/example/farspan/farspan/runtime/LinkDelaysPinLaw" (some 0) with
  accessFlags := 49
  interfaces := #[]
  cf := some (fileOf pool1 19 #[] #[{ accessFlags := 1, nameIndex := 5, descriptorIndex := 6, attributes := #[] }, { accessFlags := 9, nameIndex := 23, descriptorIndex := 24, attributes := #[] }] 49 2 #[] #[])
  fields := #[]
  methods := #[k1m0, k1m1]
  instanceTypes := #[]
  staticTypes := #[]
  resolved := Array.replicate 28 none
  statics := none }

def pool2 : Array CpInfo := pool [(1, .methodref 2 3), (0, .class_ 4), (0, .nameAndType 5 6), (0, u "com/example/farspan/farspan/runtime/Link"), (0, u "<init>"), (0, u "(JDLjava/util/random/RandomGenerator;)V"), (0, .methodref 8 9), (0, .class_ 10), (0, .nameAndType 5 11), (0, u "java/lang/Object"), (0, u "()V"), (0, .class_ 13), (0, u "java/util/ArrayDeque"), (0, .methodref 12 9), (0, .fieldref 2 16), (0, .nameAndType 17 18), (0, u "held"), (0, u "Ljava/util/Queue;"), (0, .fieldref 2 20), (0, .nameAndType 21 22), (0, u "meanNanos"), (0, u "J"), (0, .fieldref 2 24), (0, .nameAndType 25 26), (0, u "deviationNanos"), (0, u "D"), (0, .fieldref 2 28), (0, .nameAndType 29 30), (0, u "random"), (0, u "Ljava/util/random/RandomGenerator;"), (9, u "()Z"), (2, u "lastDueNanos"), (27, u "(J)V"), (2, u "delays")] 6

def k2c0 : Code := { maxStack := 6, maxLocals := 3, code := prog_121_method_1_code, exceptionTable := #[], attributes := #[] }
def k2m0 : Method := { name := "<init>", desc := "(J)V", sig := { parameters := [.long], returnType := none }, accessFlags := 0, code := some k2c0 }
def k2c1 : Code := { maxStack := 3, maxLocals := 6, code := prog_121_method_2_code, exceptionTable := #[], attributes := #[] }
def k2m1 : Method := { name := "<init>", desc := "(JDLjava/util/random/RandomGenerator;)V", sig := { parameters := [.long, .double, (.object "java/util/random/RandomGenerator")], returnType := none }, accessFlags := 0, code := some k2c1 }
def k2c2 : Code := { maxStack := 4, maxLocals := 1, code := prog_121_method_5_code, exceptionTable := #[], attributes := #[] }
def k2m2 : Method := { name := "delays", desc := "()Z", sig := { parameters := [], returnType := some .boolean }, accessFlags := 0, code := some k2c2 }
/-- com/example/farspan/farspan/runtime/Link -/
def k2 : Class := { plain "com/example/farspan/farspan/runtime/Link" (some 0) with
  accessFlags := 48
  interfaces := #[]
  cf := some (fileOf pool2 2 #[] #[{ accessFlags := 0, nameIndex := 5, descriptorIndex := 71, attributes := #[] }, { accessFlags := 0, nameIndex := 5, descriptorIndex := 6, attributes := #[] }, { accessFlags := 0, nameIndex := 74, descriptorIndex := 40, attributes := #[] }] 48 8 #[] #[{ accessFlags := 18, nameIndex := 21, descriptorIndex := 22, attributes := #[] }, { accessFlags := 18, nameIndex := 25, descriptorIndex := 26, attributes := #[] }, { accessFlags := 18, nameIndex := 29, descriptorIndex := 30, attributes := #[] }, { accessFlags := 18, nameIndex := 17, descriptorIndex := 18, attributes := #[] }, { accessFlags := 2, nameIndex := 43, descriptorIndex := 22, attributes := #[] }])
  fields := #[{ name := "meanNanos", type := .long, accessFlags := 18, slot := 0, constantValue := 0 }, { name := "deviationNanos", type := .double, accessFlags := 18, slot := 1, constantValue := 0 }, { name := "random", type := (.object "java/util/random/RandomGenerator"), accessFlags := 18, slot := 2, constantValue := 0 }, { name := "held", type := (.object "java/util/Queue"), accessFlags := 18, slot := 3, constantValue := 0 }, { name := "lastDueNanos", type := .long, accessFlags := 2, slot := 4, constantValue := 0 }]
  methods := #[k2m0, k2m1, k2m2]
  instanceTypes := #[.long, .double, (.object "java/util/random/RandomGenerator"), (.object "java/util/Queue"), .long]
  staticTypes := #[]
  resolved := Array.replicate 81 none
  statics := none }

def pool3 : Array CpInfo := pool [(8, .class_ 10), (1, u "java/lang/Iterable"), (24, .class_ 36), (0, u "java/lang/Object")] 25

/-- java/lang/Iterable -/
def k3 : Class := { plain "java/lang/Iterable" (some 0) with
  accessFlags := 1537
  interfaces := #[]
  cf := some (fileOf pool3 8 #[] #[] 1537 35 #[] #[])
  fields := #[]
  methods := #[]
  instanceTypes := #[]
  staticTypes := #[]
  resolved := Array.replicate 62 none
  statics := none }

def pool4 : Array CpInfo := pool [(10, .class_ 12), (1, u "java/util/Collection"), (47, .class_ 61), (0, u "java/lang/Object"), (0, .class_ 63), (0, u "java/lang/Iterable")] 51

/-- java/util/Collection -/
def k4 : Class := { plain "java/util/Collection" (some 0) with
  accessFlags := 1537
  interfaces := #[3]
  cf := some (fileOf pool4 10 #[] #[] 1537 60 #[62] #[])
  fields := #[]
  methods := #[]
  instanceTypes := #[]
  staticTypes := #[]
  resolved := Array.replicate 115 none
  statics := none }

def pool5 : Array CpInfo := pool [(1, .methodref 2 3), (0, .class_ 4), (0, .nameAndType 5 6), (0, u "java/lang/Object"), (0, u "<init>"), (0, u "()V"), (1, .class_ 10), (1, u "java/util/AbstractCollection"), (66, .class_ 78), (0, u "java/util/Collection")] 81

def k5c0 : Code := { maxStack := 1, maxLocals := 1, code := jdk_22_method_1_code, exceptionTable := #[], attributes := #[] }
def k5m0 : Method := { name := "<init>", desc := "()V", sig := { parameters := [], returnType := none }, accessFlags := 4, code := some k5c0 }
/-- java/util/AbstractCollection -/
def k5 : Class := { plain "java/util/AbstractCollection" (some 0) with
  accessFlags := 1057
  interfaces := #[4]
  cf := some (fileOf pool5 8 #[] #[{ accessFlags := 4, nameIndex := 5, descriptorIndex := 6, attributes := #[] }] 1057 2 #[77] #[])
  fields := #[]
  methods := #[k5m0]
  instanceTypes := #[]
  staticTypes := #[]
  resolved := Array.replicate 160 none
  statics := none }

def pool6 : Array CpInfo := pool [(1, .class_ 2), (0, u "java/util/Queue"), (0, .class_ 4), (0, u "java/lang/Object"), (0, .class_ 6), (0, u "java/util/Collection")] 14

/-- java/util/Queue -/
def k6 : Class := { plain "java/util/Queue" (some 0) with
  accessFlags := 1537
  interfaces := #[4]
  cf := some (fileOf pool6 1 #[] #[] 1537 3 #[5] #[])
  fields := #[]
  methods := #[]
  instanceTypes := #[]
  staticTypes := #[]
  resolved := Array.replicate 21 none
  statics := none }

def pool7 : Array CpInfo := pool [(8, .class_ 10), (1, u "java/util/SequencedCollection"), (15, .class_ 27), (0, u "java/lang/Object"), (0, .class_ 29), (0, u "java/util/Collection")] 27

/-- java/util/SequencedCollection -/
def k7 : Class := { plain "java/util/SequencedCollection" (some 0) with
  accessFlags := 1537
  interfaces := #[4]
  cf := some (fileOf pool7 8 #[] #[] 1537 26 #[28] #[])
  fields := #[]
  methods := #[]
  instanceTypes := #[]
  staticTypes := #[]
  resolved := Array.replicate 57 none
  statics := none }

def pool8 : Array CpInfo := pool [(8, .class_ 10), (1, u "java/util/Deque"), (2, .class_ 14), (0, u "java/lang/Object"), (0, .class_ 16), (0, u "java/util/Queue"), (0, .class_ 18), (0, u "java/util/SequencedCollection")] 51

/-- java/util/Deque -/
def k8 : Class := { plain "java/util/Deque" (some 0) with
  accessFlags := 1537
  interfaces := #[6, 7]
  cf := some (fileOf pool8 8 #[] #[] 1537 13 #[15, 17] #[])
  fields := #[]
  methods := #[]
  instanceTypes := #[]
  staticTypes := #[]
  resolved := Array.replicate 70 none
  statics := none }

def pool9 : Array CpInfo := pool [(1, .class_ 2), (0, u "java/lang/Cloneable"), (0, .class_ 4), (0, u "java/lang/Object")] 2

/-- java/lang/Cloneable -/
def k9 : Class := { plain "java/lang/Cloneable" (some 0) with
  accessFlags := 1537
  interfaces := #[]
  cf := some (fileOf pool9 1 #[] #[] 1537 3 #[] #[])
  fields := #[]
  methods := #[]
  instanceTypes := #[]
  staticTypes := #[]
  resolved := Array.replicate 7 none
  statics := none }

def pool10 : Array CpInfo := pool [(1, .class_ 2), (0, u "java/io/Serializable"), (0, .class_ 4), (0, u "java/lang/Object")] 2

/-- java/io/Serializable -/
def k10 : Class := { plain "java/io/Serializable" (some 0) with
  accessFlags := 1537
  interfaces := #[]
  cf := some (fileOf pool10 1 #[] #[] 1537 3 #[] #[])
  fields := #[]
  methods := #[]
  instanceTypes := #[]
  staticTypes := #[]
  resolved := Array.replicate 7 none
  statics := none }

def pool11 : Array CpInfo := pool [(3, .fieldref 4 5), (0, .class_ 6), (0, .nameAndType 7 8), (0, u "java/util/ArrayDeque"), (0, u "elements"), (0, u "[Ljava/lang/Object;"), (13, u "tail"), (0, u "I"), (2, u "head"), (12, u "<init>"), (2, .methodref 43 44), (0, .class_ 45), (0, .nameAndType 39 46), (0, u "java/util/AbstractCollection"), (0, u "()V"), (0, .class_ 48), (0, u "java/lang/Object"), (82, .class_ 132), (0, u "java/util/ArrayDeque$DeqIterator"), (3, .class_ 137), (0, u "java/util/ArrayDeque$DescendingIterator"), (1, .class_ 140), (0, u "java/util/ArrayDeque$DeqSpliterator"), (137, .class_ 279), (0, u "java/util/Deque"), (0, .class_ 281), (0, u "java/lang/Cloneable"), (0, .class_ 283), (0, u "java/io/Serializable"), (0, u "MAX_ARRAY_SIZE"), (1, u "serialVersionUID"), (0, u "J")] 150

def k11c0 : Code := { maxStack := 2, maxLocals := 1, code := jdk_21_method_3_code, exceptionTable := #[], attributes := #[] }
def k11m0 : Method := { name := "<init>", desc := "()V", sig := { parameters := [], returnType := none }, accessFlags := 1, code := some k11c0 }
/-- java/util/ArrayDeque -/
def k11 : Class := { plain "java/util/ArrayDeque" (some 5) with
  accessFlags := 33
  interfaces := #[8, 9, 10]
  cf := some (fileOf pool11 4 #[.nestMembers #[139, 136, 131]] #[{ accessFlags := 1, nameIndex := 39, descriptorIndex := 46, attributes := #[] }] 33 43 #[278, 280, 282] #[{ accessFlags := 128, nameIndex := 7, descriptorIndex := 8, attributes := #[] }, { accessFlags := 128, nameIndex := 26, descriptorIndex := 23, attributes := #[] }, { accessFlags := 128, nameIndex := 22, descriptorIndex := 23, attributes := #[] }, { accessFlags := 26, nameIndex := 284, descriptorIndex := 23, attributes := #[] }, { accessFlags := 26, nameIndex := 286, descriptorIndex := 287, attributes := #[] }])
  fields := #[{ name := "elements", type := (.array (.object "java/lang/Object")), accessFlags := 128, slot := 0, constantValue := 0 }, { name := "head", type := .int, accessFlags := 128, slot := 1, constantValue := 0 }, { name := "tail", type := .int, accessFlags := 128, slot := 2, constantValue := 0 }, { name := "MAX_ARRAY_SIZE", type := .int, accessFlags := 26, slot := 0, constantValue := 0 }, { name := "serialVersionUID", type := .long, accessFlags := 26, slot := 1, constantValue := 0 }]
  methods := #[k11m0]
  instanceTypes := #[(.array (.object "java/lang/Object")), .int, .int]
  staticTypes := #[.int, .long]
  resolved := Array.replicate 438 none
  statics := none }

/-- the primitive byte -/
def k12 : Class := { plain "byte" none with kind := .primitive 'B', accessFlags := 0x411 }
/-- [B -/
def k13 : Class := { plain "[B" (some 0) with kind := .array 12 .byte, interfaces := #[9, 10], accessFlags := 1041 }

/-- the primitive int -/
def k14 : Class := { plain "int" none with kind := .primitive 'I', accessFlags := 0x411 }
/-- [I -/
def k15 : Class := { plain "[I" (some 0) with kind := .array 14 .int, interfaces := #[9, 10], accessFlags := 1041 }

/-- [Ljava/lang/Object; -/
def k16 : Class := { plain "[Ljava/lang/Object;" (some 0) with kind := .array 0 (.object "java/lang/Object"), interfaces := #[9, 10], accessFlags := 1041 }

def heap : Heap := #[]
def classes : Array Class := #[k0, k1, k2, k3, k4, k5, k6, k7, k8, k9, k10, k11, k12, k13, k14, k15, k16]
def interned : List (Array UInt16 × Addr) := []
def slotsUsed : Nat := 0
def theMethod : MethodId := ⟨1, 1⟩
def args0 : Array Value := #[.long 5, .int 6]
def aboutOver (below : List Frame) : State where
  vm := { classes := classes, interned := interned.toArray }
  heap := heap
  slotsUsed := slotsUsed
  threads := #[{ frames := .invoking theMethod args0 :: below }]
def below0 : List Frame := [.native { method := ⟨0, 0⟩, args := #[] }]
def about1 : State := aboutOver below0
def p0 : Program := .bare "" "" ""
def e0 : Env := launch0.env 0 0 0
theorem w_frames : about1.frames = Frame.invoking theMethod args0 :: below0 := rfl
set_option maxRecDepth 65536 in
theorem w_args : argsFit about1.vm theMethod args0 = true := by decide +kernel
set_option maxRecDepth 65536 in
theorem w_heap : heapFits about1 = true := by decide +kernel
set_option maxRecDepth 65536 in
theorem w_runnable : about1.curStatus? = some .runnable := by decide +kernel
set_option maxRecDepth 65536 in
theorem w_alone : about1.alone = true := by decide +kernel
set_option maxRecDepth 65536 in
theorem w_named : about1.methodNamed? x = some theMethod := by decide +kernel
set_option maxRecDepth 65536 in
theorem w_hears : about1.hears theMethod below0 = true := by decide +kernel
set_option maxRecDepth 65536 in
theorem w_ripe : about1.ripe theMethod args0 below0 = true := by decide +kernel
theorem w_running : about1.status = .running := rfl
set_option maxRecDepth 65536 in
theorem w_room : about1.hasRoom e0.platform room_1 = true :=
  launch0.hasRoom_least _ room_1 (by decide +kernel) (by decide +kernel) (by decide +kernel) (by decide +kernel) (by decide +kernel) (by decide +kernel)
theorem allAtoms_all (ts : List Jvm.Cond) (a : Array Jvm.Value) (st : Jvm.State) : (allAtoms ts).before a st = ts.all (fun c => c.before a st) := by
  induction ts with
  | nil => rfl
  | cons c t ih =>
    show (Jvm.Cond.and c (allAtoms t)).before a st = _
    rw [Jvm.Cond.before_and, ih, List.all_cons]
def words1 : List Jvm.Cond := Jvm.Cond.code x code maxLocals ret :: tables_1
/-- a 'code' word, met by the world's own term for the bytes: nothing is compared byte by byte -/
theorem code_word {y : MethodName} {bytes : ByteArray} {mx : Nat} {rt : Option FieldType} {a : Array Value} {s : State} {m : MethodId} {meth : Method} {c : Code} (h1 : s.methodNamed? y = some m) (h2 : s.vm.method? m = some meth) (h3 : meth.code = some c) (h4 : c.code = bytes)
    (h5 : (c.maxLocals == mx && c.exceptionTable.isEmpty && decide (c.maxStack ≤ mostOperands) && decide (meth.sig.returnType = rt) && !meth.locks && decide (parseMethodDescriptor y.desc = some meth.sig)) = true) : (Jvm.Cond.code y bytes mx rt).before a s = true := by
  simp only [Bool.and_eq_true, beq_iff_eq, Bool.not_eq_true', decide_eq_true_eq] at h5
  obtain ⟨⟨⟨⟨⟨g1, g2⟩, g3⟩, g4⟩, g5⟩, g6⟩ := h5
  simp [Cond.before, Cond.holds, Cond.value, h1, h2, h3, h4, g1, g2, g3, g4, g5, g6]
def isCode : Jvm.Cond → Bool
  | .code _ _ _ _ => true
  | _ => false
theorem all_split {L : List Jvm.Cond} {P : Jvm.Cond → Bool} (h1 : L.all (fun c => isCode c || P c) = true) (h2 : ∀ c ∈ L.filter isCode, P c = true) : L.all P = true := by
  refine List.all_eq_true.mpr fun c hc => ?_
  have h := List.all_eq_true.mp h1 c hc
  rcases Bool.eq_false_or_eq_true (isCode c) with hi | hi
  · exact h2 c (List.mem_filter.mpr ⟨hc, hi⟩)
  · simpa [hi] using h
set_option maxRecDepth 65536 in
theorem w_c0 : (Jvm.Cond.code x code maxLocals ret).before args0 about1 = true := code_word (m := ⟨1, 1⟩) (meth := k1m1) (c := k1c1) (by decide +kernel) rfl rfl rfl (by decide +kernel)
set_option maxRecDepth 65536 in
theorem w_c1 : (Jvm.Cond.code ({ cls := "com/example/farspan/farspan/runtime/Link", name := "<init>", desc := "(J)V" } : Jvm.MethodName) prog_121_method_1_code (3 : Nat) (Option.none : Option Jvm.ClassFile.FieldType)).before args0 about1 = true := code_word (m := ⟨2, 0⟩) (meth := k2m0) (c := k2c0) (by decide +kernel) rfl rfl rfl (by decide +kernel)
set_option maxRecDepth 65536 in
theorem w_c2 : (Jvm.Cond.code ({ cls := "com/example/farspan/farspan/runtime/Link", name := "<init>", desc := "(JDLjava/util/random/RandomGenerator;)V" } : Jvm.MethodName) prog_121_method_2_code (6 : Nat) (Option.none : Option Jvm.ClassFile.FieldType)).before args0 about1 = true := code_word (m := ⟨2, 1⟩) (meth := k2m1) (c := k2c1) (by decide +kernel) rfl rfl rfl (by decide +kernel)
set_option maxRecDepth 65536 in
theorem w_c3 : (Jvm.Cond.code ({ cls := "java/lang/Object", name := "<init>", desc := "()V" } : Jvm.MethodName) object_method_1_code (1 : Nat) (Option.none : Option Jvm.ClassFile.FieldType)).before args0 about1 = true := code_word (m := ⟨0, 0⟩) (meth := k0m0) (c := k0c0) (by decide +kernel) rfl rfl rfl (by decide +kernel)
set_option maxRecDepth 65536 in
theorem w_c4 : (Jvm.Cond.code ({ cls := "java/util/ArrayDeque", name := "<init>", desc := "()V" } : Jvm.MethodName) jdk_21_method_3_code (1 : Nat) (Option.none : Option Jvm.ClassFile.FieldType)).before args0 about1 = true := code_word (m := ⟨11, 0⟩) (meth := k11m0) (c := k11c0) (by decide +kernel) rfl rfl rfl (by decide +kernel)
set_option maxRecDepth 65536 in
theorem w_c5 : (Jvm.Cond.code ({ cls := "java/util/AbstractCollection", name := "<init>", desc := "()V" } : Jvm.MethodName) jdk_22_method_1_code (1 : Nat) (Option.none : Option Jvm.ClassFile.FieldType)).before args0 about1 = true := code_word (m := ⟨5, 0⟩) (meth := k5m0) (c := k5c0) (by decide +kernel) rfl rfl rfl (by decide +kernel)
set_option maxRecDepth 65536 in
theorem w_c6 : (Jvm.Cond.code ({ cls := "com/example/farspan/farspan/runtime/Link", name := "delays", desc := "()Z" } : Jvm.MethodName) prog_121_method_5_code (1 : Nat) (Option.some Jvm.ClassFile.FieldType.boolean)).before args0 about1 = true := code_word (m := ⟨2, 2⟩) (meth := k2m2) (c := k2c2) (by decide +kernel) rfl rfl rfl (by decide +kernel)
def codes1 : List Jvm.Cond := [Jvm.Cond.code x code maxLocals ret, Jvm.Cond.code ({ cls := "com/example/farspan/farspan/runtime/Link", name := "<init>", desc := "(J)V" } : Jvm.MethodName) prog_121_method_1_code (3 : Nat) (Option.none : Option Jvm.ClassFile.FieldType), Jvm.Cond.code ({ cls := "com/example/farspan/farspan/runtime/Link", name := "<init>", desc := "(JDLjava/util/random/RandomGenerator;)V" } : Jvm.MethodName) prog_121_method_2_code (6 : Nat) (Option.none : Option Jvm.ClassFile.FieldType), Jvm.Cond.code ({ cls := "java/lang/Object", name := "<init>", desc := "()V" } : Jvm.MethodName) object_method_1_code (1 : Nat) (Option.none : Option Jvm.ClassFile.FieldType), Jvm.Cond.code ({ cls := "java/util/ArrayDeque", name := "<init>", desc := "()V" } : Jvm.MethodName) jdk_21_method_3_code (1 : Nat) (Option.none : Option Jvm.ClassFile.FieldType), Jvm.Cond.code ({ cls := "java/util/AbstractCollection", name := "<init>", desc := "()V" } : Jvm.MethodName) jdk_22_method_1_code (1 : Nat) (Option.none : Option Jvm.ClassFile.FieldType), Jvm.Cond.code ({ cls := "com/example/farspan/farspan/runtime/Link", name := "delays", desc := "()Z" } : Jvm.MethodName) prog_121_method_5_code (1 : Nat) (Option.some Jvm.ClassFile.FieldType.boolean)]
set_option maxRecDepth 65536 in
theorem codes_eq : words1.filter isCode = codes1 := rfl
theorem w_codes : ∀ c ∈ words1.filter isCode, c.before args0 about1 = true := by
  rw [codes_eq]
  intro c hc
  simp only [codes1, List.mem_cons, List.not_mem_nil, or_false] at hc
  rcases hc with rfl | rfl | rfl | rfl | rfl | rfl | rfl
  · exact w_c0
  · exact w_c1
  · exact w_c2
  · exact w_c3
  · exact w_c4
  · exact w_c5
  · exact w_c6
set_option maxRecDepth 65536 in
theorem w_t1 : (words1.take 24).all (fun c => isCode c || c.before args0 about1) = true := by decide +kernel
set_option maxRecDepth 65536 in
theorem w_t2 : (words1.drop 24).all (fun c => isCode c || c.before args0 about1) = true := by decide +kernel
theorem w_tables : (allAtoms (Jvm.Cond.code x code maxLocals ret :: tables_1)).before args0 about1 = true := by
  rw [allAtoms_all]
  show words1.all (fun c => c.before args0 about1) = true
  refine all_split ?_ w_codes
  rw [← List.take_append_drop 24 words1, List.all_append, w_t1, w_t2]
  rfl
set_option maxRecDepth 65536 in
theorem w_case : (Jvm.Cond.and given_1 narrow_1).before args0 about1 = true := by decide +kernel
theorem w_applies : (headSpec (Jvm.Cond.code x code maxLocals ret :: tables_1) room_1).applies x e0.platform about1 = true :=
  (Spec.applies_iff w_frames).mpr ⟨w_running, w_runnable, w_alone, w_named, w_hears, w_ripe, w_room, w_tables⟩
theorem atStart : AtStart classFile x code maxLocals ret World_1 tables_1 room_1 Calls_1 rest_1 Pre_1 launch0 p0 e0 about1 theMethod args0 below0 :=
  ⟨lists_1, trivial, launch0.admits_env _ _ _, launch0.least_env, fairChoices_fair.cas, fairChoices_fair.clock, w_frames, w_args, w_heap, w_applies, trivial, trivial, w_case⟩
end start1
theorem witness_1 : WitnessClaimed_1 := ⟨start1.p0, start1.e0, start1.about1, start1.theMethod, start1.args0, start1.below0, start1.atStart⟩
end Jvm.Pilot.@@N@@
