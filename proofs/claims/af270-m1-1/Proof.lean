import JvmDerived
import JvmDerived.Pilot.@@N@@Statement
import JvmDerived.Pilot.@@N@@Code
set_option linter.unusedVariables false
set_option linter.unusedSimpArgs false
namespace Jvm.RoadKit
open Sem ClassFile Op Lib Jvm.Stand Jvm.Free Jvm.LawKit
section New
variable {p : Program} {l : Launch} {e : Env} {R : Room} {s : State} {m : MethodId} {args : Array Value} {below : List Frame} {meth : Method} {c : Code} {T : State} {locs : List Loc} {cells slots : Nat}
theorem retI (X : Stand p l e R s m args below meth c T locs cells slots) (hx : p.tables.exec = Jvm.exec) {pc : Nat} {Ls : Array Slot} {z : Int32} {rest : List Value} (hret : meth.sig.returnType = some .int) (hd : decode c.code pc = .ok (.ireturn, 1)) {fs : List Frame}
    (hl : ∀ (f : JFrame) (acts : List Action), f.method = m → f.locked = none → f.entered = [] → (doReturn e (T.setTop f) acts (some (.int z))).1 = T.setFrames fs) : Steps p.tables e below (T.setTop (mkF m pc Ls (.int z :: rest))) (T.setFrames fs) := by
  have hm' : T.vm.method? m = some meth := X.method'
  have hn : narrow .int (.int z) = .int z := rfl
  show Steps p.tables e below (T.setTop { method := m, pc := pc, locals := Ls, stack := _ :: rest, locked := none }) _
  jvm_step X.here [X.here.top, hx, hd, hm', hret, hn]
  first | (intro acts; rw [hl _ acts rfl rfl rfl]) | rw [hl _ _ rfl rfl rfl]
  exact Steps.refl _
end New
end Jvm.RoadKit
namespace Jvm.Pilot.@@N@@
open Jvm Jvm.ClassFile Sem Op Lib Jvm.Free Jvm.Stand Jvm.LawKit Jvm.RoadKit Bundle Jvm.Pilot.@@N@@.Jvm.D
/-- from the state F the walk ends as Q says (what it returns, the heap, the places written) -/
def Ends (p : Program) (e : Env) (below : List Frame) (s : State) (R : Room) (Q : Option Value → Heap → List Loc → Prop) (F : State) : Prop :=
  ∃ t o, Steps p.tables e below F t ∧ t.status = .running ∧ Ended t below o ∧ ∃ v L, o = .returned v ∧ Q v t.heap L ∧ FrameEnd s o t L R.cells R.slots
theorem Ends.of {p : Program} {e : Env} {below : List Frame} {s : State} {R : Room} {Q : Option Value → Heap → List Loc → Prop} {F F' : State} (h : ∀ t, Steps p.tables e below F' t → Steps p.tables e below F t) (k : Ends p e below s R Q F') : Ends p e below s R Q F := by
  obtain ⟨t, o, h1, r⟩ := k
  exact ⟨t, o, h t h1, r⟩
theorem Ends.st {p : Program} {e : Env} {below : List Frame} {s : State} {R : Room} {Q : Option Value → Heap → List Loc → Prop} {F F' : State} (h : Steps p.tables e below F F') (k : Ends p e below s R Q F') : Ends p e below s R Q F := Ends.of (fun _ q => h.trans q) k

theorem own_mx (q : Int64) : -9223372036854774784 ≤ (if q < (-9223372036854774784 : Int64) then (-9223372036854774784 : Int64) else q).toInt := by
  have z : ((-9223372036854774784 : Int64)).toInt = -9223372036854774784 := by decide
  by_cases h : q < (-9223372036854774784 : Int64)
  · rw [if_pos h, z]; omega
  · rw [if_neg h]
    rw [Int64.lt_iff_toInt_lt, z] at h
    omega
theorem own_k (x : Int32) : 0 ≤ (x &&& (3 : Int32)).toInt ∧ (x &&& (3 : Int32)).toInt ≤ 3 := by
  have h := c_mask x (3 : Int32) 2 (by decide) (by decide)
  omega
theorem own_held (x : Int32) : ((320 : Int64) * (x &&& (3 : Int32)).toInt64).toInt = 320 * (x &&& (3 : Int32)).toInt := by
  have h := c_lmul (320 : Int64) (x &&& (3 : Int32)).toInt64
  have h2 := c_i2l (x &&& (3 : Int32))
  have h3 := own_k x
  have h4 := rng64 ((320 : Int64) * (x &&& (3 : Int32)).toInt64)
  have z : ((320 : Int64)).toInt = 320 := by decide
  rw [z, h2] at h
  omega
theorem own_eq (x : Int32) (y : Int64) (n : Int) (hy : y.toInt = 320 * n) (h : (x &&& (3 : Int32)).toInt = n) : y = (320 : Int64) * (x &&& (3 : Int32)).toInt64 := by
  apply Int64.toInt_inj.mp
  rw [own_held, hy, h]
theorem own_k0 (x : Int32) (h : (x &&& (3 : Int32)) < (1 : Int32)) : (x &&& (3 : Int32)).toInt = 0 := by
  have := own_k x
  rw [Int32.lt_iff_toInt_lt] at h
  have z : ((1 : Int32)).toInt = 1 := by decide
  omega
theorem own_k1 (x : Int32) (g : ¬ (x &&& (3 : Int32)) < (1 : Int32)) (h : (x &&& (3 : Int32)) < (2 : Int32)) : (x &&& (3 : Int32)).toInt = 1 := by
  rw [Int32.lt_iff_toInt_lt] at h g
  have z : ((1 : Int32)).toInt = 1 := by decide
  have z' : ((2 : Int32)).toInt = 2 := by decide
  omega
theorem own_k2 (x : Int32) (g : ¬ (x &&& (3 : Int32)) < (2 : Int32)) (h : (x &&& (3 : Int32)) < (3 : Int32)) : (x &&& (3 : Int32)).toInt = 2 := by
  rw [Int32.lt_iff_toInt_lt] at h g
  have z : ((3 : Int32)).toInt = 3 := by decide
  have z' : ((2 : Int32)).toInt = 2 := by decide
  omega
theorem own_k3 (x : Int32) (g : ¬ (x &&& (3 : Int32)) < (3 : Int32)) : (x &&& (3 : Int32)).toInt = 3 := by
  have := own_k x
  rw [Int32.lt_iff_toInt_lt] at g
  have z : ((3 : Int32)).toInt = 3 := by decide
  omega
/-- the law's arithmetic: what the method compares, and what the law expects -/
theorem own_ar (mx q hd : Int64) (h1 : -9223372036854774784 ≤ mx.toInt) (h2 : 0 ≤ hd.toInt) (h3 : hd.toInt ≤ 960) :
    (mx < q → (mx - hd) < q) ∧ (¬ mx < q → (0 : Int64) < q → ((mx - q) < hd ↔ (mx - hd) < q)) ∧ (¬ mx < q → ¬ (0 : Int64) < q → (mx < (q + hd) ↔ (mx - hd) < q)) := by
  have a1 := c_lsub mx hd
  have a2 := c_lsub mx q
  have a3 := c_ladd q hd
  have b1 := rng64 (mx - hd)
  have b2 := rng64 (mx - q)
  have b3 := rng64 (q + hd)
  have b4 := rng64 mx
  have b5 := rng64 q
  have z : ((0 : Int64)).toInt = 0 := by decide
  simp only [Int64.lt_iff_toInt_lt, z]
  refine ⟨fun h => by omega, fun h h' => by omega, fun h h' => by omega⟩
theorem pd_0 : parseMethodDescriptor "(JJ)J" = some ⟨[.long, .long], some .long⟩ := by decide +kernel
theorem pd_1 : parseMethodDescriptor "(J)V" = some ⟨[.long], none⟩ := by decide +kernel
theorem pd_2 : parseMethodDescriptor "()V" = some ⟨[], none⟩ := by decide +kernel
theorem pd_3 : parseMethodDescriptor "(J)Z" = some ⟨[.long], some .boolean⟩ := by decide +kernel
theorem d1_0 : decode jdk_29_method_66_code 0 = .ok (.lload_n 0, 1) := by decide +kernel
theorem d1_1 : decode jdk_29_method_66_code 1 = .ok (.lload_n 2, 1) := by decide +kernel
theorem d1_2 : decode jdk_29_method_66_code 2 = .ok (.lcmp, 1) := by decide +kernel
theorem d1_3 : decode jdk_29_method_66_code 3 = .ok (.ifCond .lt 7, 3) := by decide +kernel
theorem d1_6 : decode jdk_29_method_66_code 6 = .ok (.lload_n 0, 1) := by decide +kernel
theorem d1_7 : decode jdk_29_method_66_code 7 = .ok (.goto 4, 3) := by decide +kernel
theorem d1_10 : decode jdk_29_method_66_code 10 = .ok (.lload_n 2, 1) := by decide +kernel
theorem d1_11 : decode jdk_29_method_66_code 11 = .ok (.lreturn, 1) := by decide +kernel
def Q1 (Z : State) (q1 : Int64) (q2 : Int64) (h0 : Heap) (n0 : Nat) (v : Option Value) (h : Heap) (L : List Loc) : Prop := v = some (.long (if q1 < q2 then q2 else q1)) ∧ Fr n0 L ∧ h = h0
set_option maxRecDepth 65536 in
set_option maxHeartbeats 40000000 in
theorem rm1 (l : Launch) (Z : State) (a0 : Array Value) (hw : ∀ d ∈ tables_1, d.before a0 Z = true) (ws : List Jvm.Cond) (q1 : Int64) (q2 : Int64) (h0 : Heap) (n0 : Nat) (Z0 : n0 ≤ h0.size) :
    MetFree l (⟨"java/lang/Math", "max", "(JJ)J"⟩ : MethodName) (head1 (Jvm.Cond.code (⟨"java/lang/Math", "max", "(JJ)J"⟩ : MethodName) jdk_29_method_66_code 4 (some .long) :: ws) ({ frames := 0, cells := 0, slots := 0, locals := 0 } : Room)) (fun a U => a = #[(.long q1), (.long q2)] ∧ Z.Warmed39 U.vm ∧ U.heap = h0) (fun _ _ _ _ _ => True) (fun _ U o U' => ∃ v L, o = .returned v ∧ Q1 Z q1 q2 h0 n0 v U'.heap L ∧ FrameEnd U o U' L ({ frames := 0, cells := 0, slots := 0, locals := 0 } : Room).cells ({ frames := 0, cells := 0, slots := 0, locals := 0 } : Room).slots) := by
  refine MetFree.of_bodySF (Jvm.Free.JP.mathPlain rfl (by decide +kernel)) hisR ?_
  intro p e s m args below meth c s₁ Bd hml0 hP hK
  obtain ⟨rfl, hZ, hh⟩ := hP
  have hx := Bd.exec
  have hby := Bd.bytes
  have hml : c.maxLocals = 4 := hml0
  have hown : s.vm.findClass "java/lang/Math" = some m.cls := findClass_of_methodNamed Bd.named
  have hnm := (name_of_methodNamed Bd.named Bd.method).1
  have X0 : Stand p l e ({ frames := 0, cells := 0, slots := 0, locals := 0 } : Room) s m #[(.long q1), (.long q2)] below meth c s₁ [] 0 0 := Stand.of_body Bd
  have e0 : s₁.heap = h0 := by rw [← hh, Bd.state]; rfl
  have N0 := Fr.nil n0
  have eF : entryFrame m #[(.long q1), (.long q2)] 4 = mkF m 0 #[.val (.long q1), .second, .val (.long q2), .second] [] := by first | (simp [entryFrame, mkF, argsToLocals, Value.category]; done) | rfl
  show Ends p e below s ({ frames := 0, cells := 0, slots := 0, locals := 0 } : Room) (Q1 Z q1 q2 h0 n0) (s₁.setTop (entryFrame m #[(.long q1), (.long q2)] 4))
  rw [eF]
  refine Ends.of (F' := s₁.setTop (mkF m 3 #[.val (.long q1), .second, .val (.long q2), .second] [(.int (lcmpW q1 q2))])) (fun _ kt => ?_) ?_
  · show Steps p.tables e below (s₁.setTop (mkF m 0 #[.val (.long q1), .second, .val (.long q2), .second] [])) _
    refine XS.lloadN X0.here hx rfl (hb hby d1_0) rfl ?_
    show Steps p.tables e below (s₁.setTop (mkF m 1 #[.val (.long q1), .second, .val (.long q2), .second] [(.long q1)])) _
    refine XS.lloadN X0.here hx rfl (hb hby d1_1) rfl ?_
    show Steps p.tables e below (s₁.setTop (mkF m 2 #[.val (.long q1), .second, .val (.long q2), .second] [(.long q2), (.long q1)])) _
    refine XS.lcmp X0.here hx rfl (hb hby d1_2) rfl ?_
    exact kt
  by_cases hc3 : q1 < q2
  · refine Ends.of (F' := s₁.setTop (mkF m 11 #[.val (.long q1), .second, .val (.long q2), .second] [(.long q2)])) (fun _ kt => ?_) ?_
    · show Steps p.tables e below (s₁.setTop (mkF m 3 #[.val (.long q1), .second, .val (.long q2), .second] [(.int (lcmpW q1 q2))])) _
      refine XS.ifYes X0.here hx rfl (pc0 := 3) (pc' := 10) rfl (hb hby d1_3) rfl ((if0 _ _).trans (tlt ((lw_lt _ _).mpr hc3)).1) (by decide) (by decide) ?_
      show Steps p.tables e below (s₁.setTop (mkF m 10 #[.val (.long q1), .second, .val (.long q2), .second] [])) _
      refine XS.lloadN X0.here hx rfl (hb hby d1_10) rfl ?_
      exact kt
    obtain ⟨fs, hr, hrun, hended, hW, hsame⟩ := X0.leave (v := some (.long q2)) (fun h => by rw [Bd.returns] at h; cases h)
    refine ⟨_, _, ?_, hrun, hended, _, _, rfl, ⟨by rw [if_pos hc3], N0, e0⟩, ⟨_, rfl⟩, hW, hsame.mono (by decide) (by decide)⟩
    show Steps p.tables e below (s₁.setTop (mkF m 11 #[.val (.long q1), .second, .val (.long q2), .second] [(.long q2)])) _
    jvm_step X0.here [X0.here.top, hx, (hb hby d1_11), X0.method', Bd.returns, narrow]
    first | (intro acts; rw [hr _ acts rfl rfl rfl]) | rw [hr _ _ rfl rfl rfl]
    exact Steps.refl _
  · refine Ends.of (F' := s₁.setTop (mkF m 11 #[.val (.long q1), .second, .val (.long q2), .second] [(.long q1)])) (fun _ kt => ?_) ?_
    · show Steps p.tables e below (s₁.setTop (mkF m 3 #[.val (.long q1), .second, .val (.long q2), .second] [(.int (lcmpW q1 q2))])) _
      refine XS.ifNo X0.here hx rfl (hb hby d1_3) rfl ((if0 _ _).trans (flt (mt (lw_lt _ _).mp hc3)).1) ?_
      show Steps p.tables e below (s₁.setTop (mkF m 6 #[.val (.long q1), .second, .val (.long q2), .second] [])) _
      refine XS.lloadN X0.here hx rfl (hb hby d1_6) rfl ?_
      show Steps p.tables e below (s₁.setTop (mkF m 7 #[.val (.long q1), .second, .val (.long q2), .second] [(.long q1)])) _
      refine XS.goto X0.here hx rfl (pc0 := 7) (pc' := 11) rfl (hb hby d1_7) (by decide) (by decide) ?_
      exact kt
    obtain ⟨fs, hr, hrun, hended, hW, hsame⟩ := X0.leave (v := some (.long q1)) (fun h => by rw [Bd.returns] at h; cases h)
    refine ⟨_, _, ?_, hrun, hended, _, _, rfl, ⟨by rw [if_neg hc3], N0, e0⟩, ⟨_, rfl⟩, hW, hsame.mono (by decide) (by decide)⟩
    show Steps p.tables e below (s₁.setTop (mkF m 11 #[.val (.long q1), .second, .val (.long q2), .second] [(.long q1)])) _
    jvm_step X0.here [X0.here.top, hx, (hb hby d1_11), X0.method', Bd.returns, narrow]
    first | (intro acts; rw [hr _ acts rfl rfl rfl]) | rw [hr _ _ rfl rfl rfl]
    exact Steps.refl _
theorem d2_0 : decode prog_27_method_1_code 0 = .ok (.aload_n 0, 1) := by decide +kernel
theorem d2_1 : decode prog_27_method_1_code 1 = .ok (.invokespecial 1, 3) := by decide +kernel
theorem d2_4 : decode prog_27_method_1_code 4 = .ok (.aload_n 0, 1) := by decide +kernel
theorem d2_5 : decode prog_27_method_1_code 5 = .ok (.lload_n 1, 1) := by decide +kernel
theorem d2_6 : decode prog_27_method_1_code 6 = .ok (.putfield 7, 3) := by decide +kernel
theorem d2_9 : decode prog_27_method_1_code 9 = .ok (.return_, 1) := by decide +kernel
theorem pn_0 : plainName "com/example/tardy_post/tardypost/HeldMessages" = true := by first | (simp [plainName, overriddenIn]; done) | decide +kernel
def Q2 (Z : State) (a1 : Addr) (q2 : Int64) (h0 : Heap) (n0 : Nat) (v : Option Value) (h : Heap) (L : List Loc) : Prop := v = none ∧ Fr n0 L ∧ Keep h0 h [a1] ∧ Exa Z h a1 "com/example/tardy_post/tardypost/HeldMessages" ∧ Fld Z h a1 "com/example/tardy_post/tardypost/HeldMessages" "maxBytes" "J" (.long q2) ∧ Fld Z h a1 "com/example/tardy_post/tardypost/HeldMessages" "heldBytes" "J" (.long (0 : Int64))
set_option maxRecDepth 65536 in
set_option maxHeartbeats 40000000 in
theorem rm2 (l : Launch) (Z : State) (a0 : Array Value) (hw : ∀ d ∈ tables_1, d.before a0 Z = true) (ws : List Jvm.Cond) (a1 : Addr) (q2 : Int64) (h0 : Heap) (n0 : Nat) (Z0 : n0 ≤ h0.size) (E_a : Exa Z h0 a1 "com/example/tardy_post/tardypost/HeldMessages") (F_m : Fld Z h0 a1 "com/example/tardy_post/tardypost/HeldMessages" "maxBytes" "J" (.long (0 : Int64))) (F_h : Fld Z h0 a1 "com/example/tardy_post/tardypost/HeldMessages" "heldBytes" "J" (.long (0 : Int64))) (g_a : n0 ≤ a1) :
    MetFree l (⟨"com/example/tardy_post/tardypost/HeldMessages", "<init>", "(J)V"⟩ : MethodName) (head1 (Jvm.Cond.code (⟨"com/example/tardy_post/tardypost/HeldMessages", "<init>", "(J)V"⟩ : MethodName) prog_27_method_1_code 3 none :: ws) ({ frames := 1, cells := 0, slots := 0, locals := 12 } : Room)) (fun a U => a = #[(.ref a1), (.long q2)] ∧ Z.Warmed39 U.vm ∧ U.heap = h0) (fun _ _ _ _ _ => True) (fun _ U o U' => ∃ v L, o = .returned v ∧ Q2 Z a1 q2 h0 n0 v U'.heap L ∧ FrameEnd U o U' L ({ frames := 1, cells := 0, slots := 0, locals := 12 } : Room).cells ({ frames := 1, cells := 0, slots := 0, locals := 12 } : Room).slots) := by
  refine MetFree.of_bodySF (plainFor_of_name pn_0) hisR ?_
  intro p e s m args below meth c s₁ Bd hml0 hP hK
  obtain ⟨rfl, hZ, hh⟩ := hP
  have hx := Bd.exec
  have hby := Bd.bytes
  have hml : c.maxLocals = 3 := hml0
  have hown : s.vm.findClass "com/example/tardy_post/tardypost/HeldMessages" = some m.cls := findClass_of_methodNamed Bd.named
  have hnm := (name_of_methodNamed Bd.named Bd.method).1
  have X0 : Stand p l e ({ frames := 1, cells := 0, slots := 0, locals := 12 } : Room) s m #[(.ref a1), (.long q2)] below meth c s₁ [] 0 0 := Stand.of_body Bd
  have e0 : s₁.heap = h0 := by rw [← hh, Bd.state]; rfl
  have N0 := Fr.nil n0
  have eF : entryFrame m #[(.ref a1), (.long q2)] 3 = mkF m 0 #[.val (.ref a1), .val (.long q2), .second] [] := by first | (simp [entryFrame, mkF, argsToLocals, Value.category]; done) | rfl
  show Ends p e below s ({ frames := 1, cells := 0, slots := 0, locals := 12 } : Room) (Q2 Z a1 q2 h0 n0) (s₁.setTop (entryFrame m #[(.ref a1), (.long q2)] 3))
  rw [eF]
  refine Ends.of (F' := s₁.setTop (mkF m 1 #[.val (.ref a1), .val (.long q2), .second] [(.ref a1)])) (fun _ kt => ?_) ?_
  · show Steps p.tables e below (s₁.setTop (mkF m 0 #[.val (.ref a1), .val (.long q2), .second] [])) _
    refine XS.aloadN X0.here hx rfl (hb hby d2_0) rfl rfl ?_
    exact kt
  obtain ⟨T1, X1, e1, st1⟩ := initO X0 hx hZ hown (hw _ (List.mem_of_getElem? (i := 11) rfl)) (hw _ (List.mem_of_getElem? (i := 12) rfl)) (hw _ (List.mem_of_getElem? (i := 13) rfl)) e0 (g := (mkF m 1 #[.val (.ref a1), .val (.long q2), .second] [(.ref a1)])) rfl (by rw [hml]; rfl) rfl (hb hby d2_1) (by decide) (W := 0) (by show 2 * 0 + _ ≤ _; exact Nat.le_of_eq rfl) (by decide)
  refine Ends.of st1 ?_
  refine Ends.of (F' := T1.setTop (mkF m 6 #[.val (.ref a1), .val (.long q2), .second] [(.long q2), (.ref a1)])) (fun _ kt => ?_) ?_
  · show Steps p.tables e below (T1.setTop (mkF m 4 #[.val (.ref a1), .val (.long q2), .second] [])) _
    refine XS.aloadN X1.here hx rfl (hb hby d2_4) rfl rfl ?_
    show Steps p.tables e below (T1.setTop (mkF m 5 #[.val (.ref a1), .val (.long q2), .second] [(.ref a1)])) _
    refine XS.lloadN X1.here hx rfl (hb hby d2_5) rfl ?_
    exact kt
  obtain ⟨T2, h2, X2, e2, W2, st2⟩ := putF X1 hx hZ hown (host := "") (Or.inl (hw _ (List.mem_of_getElem? (i := 14) rfl))) Via.refl e1 F_m E_a (Or.inr ⟨(hw _ (List.mem_of_getElem? (i := 15) rfl)), rfl, hnm⟩) (hw _ (List.mem_of_getElem? (i := 6) rfl)) (ty := .long) (by decide) rfl rfl (g := (mkF m 6 #[.val (.ref a1), .val (.long q2), .second] [(.long q2), (.ref a1)])) rfl rfl (hb hby d2_6)
  refine Ends.of st2 ?_
  have N2 := Fr.snoc X2 N0 g_a
  have F_h1 := F_h.other W2 (Or.inr (slot_ne (Or.inl (hw _ (List.mem_of_getElem? (i := 23) rfl))) (Or.inr (hw _ (List.mem_of_getElem? (i := 15) rfl))) (by decide) (t := .long) (t' := .long) (by decide) (by decide)))
  have F_m1 := F_m.same W2
  have E_1 := E_a.wr W2
  have K_1 : Keep h0 h2 [a1] := (Keep.refl _ _).wr W2 (Or.inl (List.mem_of_getElem? (i := 0) rfl))
  rw [← e2] at F_h1 F_m1 E_1 K_1
  obtain ⟨fs, hr, hrun, hended, hW, hsame⟩ := X2.leave (v := none) (fun _ => rfl)
  exact ⟨_, _, X2.returnOut hx Bd.returns (hb hby d2_9) hr, hrun, hended, _, _, rfl, ⟨rfl, N2, K_1, E_1, F_m1, F_h1⟩, ⟨_, rfl⟩, hW, hsame.mono (by decide) (by decide)⟩
theorem d4_0 : decode prog_27_method_4_code 0 = .ok (.lload_n 1, 1) := by decide +kernel
theorem d4_1 : decode prog_27_method_4_code 1 = .ok (.aload_n 0, 1) := by decide +kernel
theorem d4_2 : decode prog_27_method_4_code 2 = .ok (.getfield 7, 3) := by decide +kernel
theorem d4_5 : decode prog_27_method_4_code 5 = .ok (.aload_n 0, 1) := by decide +kernel
theorem d4_6 : decode prog_27_method_4_code 6 = .ok (.getfield 83, 3) := by decide +kernel
theorem d4_9 : decode prog_27_method_4_code 9 = .ok (.lsub, 1) := by decide +kernel
theorem d4_10 : decode prog_27_method_4_code 10 = .ok (.lcmp, 1) := by decide +kernel
theorem d4_11 : decode prog_27_method_4_code 11 = .ok (.ifCond .gt 7, 3) := by decide +kernel
theorem d4_14 : decode prog_27_method_4_code 14 = .ok (.iconst 1, 1) := by decide +kernel
theorem d4_15 : decode prog_27_method_4_code 15 = .ok (.goto 4, 3) := by decide +kernel
theorem d4_18 : decode prog_27_method_4_code 18 = .ok (.iconst 0, 1) := by decide +kernel
theorem d4_19 : decode prog_27_method_4_code 19 = .ok (.ireturn, 1) := by decide +kernel
def Q4 (Z : State) (a1 : Addr) (q2 : Int64) (mx : Int64) (hd : Int64) (h0 : Heap) (n0 : Nat) (v : Option Value) (h : Heap) (L : List Loc) : Prop := v = some (.int (if (mx - hd) < q2 then (0 : Int32) else (1 : Int32))) ∧ Fr n0 L ∧ h = h0
set_option maxRecDepth 65536 in
set_option maxHeartbeats 40000000 in
theorem rm4 (l : Launch) (Z : State) (a0 : Array Value) (hw : ∀ d ∈ tables_1, d.before a0 Z = true) (ws : List Jvm.Cond) (a1 : Addr) (q2 : Int64) (mx : Int64) (hd : Int64) (h0 : Heap) (n0 : Nat) (Z0 : n0 ≤ h0.size) (F_m : Fld Z h0 a1 "com/example/tardy_post/tardypost/HeldMessages" "maxBytes" "J" (.long mx)) (F_h : Fld Z h0 a1 "com/example/tardy_post/tardypost/HeldMessages" "heldBytes" "J" (.long hd)) :
    MetFree l (⟨"com/example/tardy_post/tardypost/HeldMessages", "hasRoomFor", "(J)Z"⟩ : MethodName) (head1 (Jvm.Cond.code (⟨"com/example/tardy_post/tardypost/HeldMessages", "hasRoomFor", "(J)Z"⟩ : MethodName) prog_27_method_4_code 3 (some .boolean) :: ws) ({ frames := 0, cells := 0, slots := 0, locals := 0 } : Room)) (fun a U => a = #[(.ref a1), (.long q2)] ∧ Z.Warmed39 U.vm ∧ U.heap = h0) (fun _ _ _ _ _ => True) (fun _ U o U' => ∃ v L, o = .returned v ∧ Q4 Z a1 q2 mx hd h0 n0 v U'.heap L ∧ FrameEnd U o U' L ({ frames := 0, cells := 0, slots := 0, locals := 0 } : Room).cells ({ frames := 0, cells := 0, slots := 0, locals := 0 } : Room).slots) := by
  refine MetFree.of_bodySF (plainFor_of_name pn_0) hisR ?_
  intro p e s m args below meth c s₁ Bd hml0 hP hK
  obtain ⟨rfl, hZ, hh⟩ := hP
  have hx := Bd.exec
  have hby := Bd.bytes
  have hml : c.maxLocals = 3 := hml0
  have hown : s.vm.findClass "com/example/tardy_post/tardypost/HeldMessages" = some m.cls := findClass_of_methodNamed Bd.named
  have hnm := (name_of_methodNamed Bd.named Bd.method).1
  have X0 : Stand p l e ({ frames := 0, cells := 0, slots := 0, locals := 0 } : Room) s m #[(.ref a1), (.long q2)] below meth c s₁ [] 0 0 := Stand.of_body Bd
  have e0 : s₁.heap = h0 := by rw [← hh, Bd.state]; rfl
  have N0 := Fr.nil n0
  have eF : entryFrame m #[(.ref a1), (.long q2)] 3 = mkF m 0 #[.val (.ref a1), .val (.long q2), .second] [] := by first | (simp [entryFrame, mkF, argsToLocals, Value.category]; done) | rfl
  show Ends p e below s ({ frames := 0, cells := 0, slots := 0, locals := 0 } : Room) (Q4 Z a1 q2 mx hd h0 n0) (s₁.setTop (entryFrame m #[(.ref a1), (.long q2)] 3))
  rw [eF]
  refine Ends.of (F' := s₁.setTop (mkF m 2 #[.val (.ref a1), .val (.long q2), .second] [(.ref a1), (.long q2)])) (fun _ kt => ?_) ?_
  · show Steps p.tables e below (s₁.setTop (mkF m 0 #[.val (.ref a1), .val (.long q2), .second] [])) _
    refine XS.lloadN X0.here hx rfl (hb hby d4_0) rfl ?_
    show Steps p.tables e below (s₁.setTop (mkF m 1 #[.val (.ref a1), .val (.long q2), .second] [(.long q2)])) _
    refine XS.aloadN X0.here hx rfl (hb hby d4_1) rfl rfl ?_
    exact kt
  obtain ⟨T3, X3, e3, st3⟩ := getF X0 hx hZ hown (host := "") (Or.inl (hw _ (List.mem_of_getElem? (i := 14) rfl))) Via.refl e0 F_m (g := (mkF m 2 #[.val (.ref a1), .val (.long q2), .second] [(.ref a1), (.long q2)])) rfl rfl (hb hby d4_2)
  refine Ends.of st3 ?_
  refine Ends.of (F' := T3.setTop (mkF m 6 #[.val (.ref a1), .val (.long q2), .second] [(.ref a1), (.long mx), (.long q2)])) (fun _ kt => ?_) ?_
  · show Steps p.tables e below (T3.setTop (mkF m 5 #[.val (.ref a1), .val (.long q2), .second] [(.long mx), (.long q2)])) _
    refine XS.aloadN X3.here hx rfl (hb hby d4_5) rfl rfl ?_
    exact kt
  obtain ⟨T4, X4, e4, st4⟩ := getF X3 hx hZ hown (host := "") (Or.inl (hw _ (List.mem_of_getElem? (i := 22) rfl))) Via.refl e3 F_h (g := (mkF m 6 #[.val (.ref a1), .val (.long q2), .second] [(.ref a1), (.long mx), (.long q2)])) rfl rfl (hb hby d4_6)
  refine Ends.of st4 ?_
  refine Ends.of (F' := T4.setTop (mkF m 11 #[.val (.ref a1), .val (.long q2), .second] [(.int (lcmpW q2 (mx - hd)))])) (fun _ kt => ?_) ?_
  · show Steps p.tables e below (T4.setTop (mkF m 9 #[.val (.ref a1), .val (.long q2), .second] [(.long hd), (.long mx), (.long q2)])) _
    refine XS.lsub X4.here hx rfl (hb hby d4_9) rfl ?_
    show Steps p.tables e below (T4.setTop (mkF m 10 #[.val (.ref a1), .val (.long q2), .second] [(.long (mx - hd)), (.long q2)])) _
    refine XS.lcmp X4.here hx rfl (hb hby d4_10) rfl ?_
    exact kt
  by_cases hc11 : (mx - hd) < q2
  · refine Ends.of (F' := T4.setTop (mkF m 19 #[.val (.ref a1), .val (.long q2), .second] [(.int (0 : Int32))])) (fun _ kt => ?_) ?_
    · show Steps p.tables e below (T4.setTop (mkF m 11 #[.val (.ref a1), .val (.long q2), .second] [(.int (lcmpW q2 (mx - hd)))])) _
      refine XS.ifYes X4.here hx rfl (pc0 := 11) (pc' := 18) rfl (hb hby d4_11) rfl ((if0 _ _).trans (tlt ((lw_gt _ _).mpr hc11)).2.2.1) (by decide) (by decide) ?_
      show Steps p.tables e below (T4.setTop (mkF m 18 #[.val (.ref a1), .val (.long q2), .second] [])) _
      refine XS.iconst X4.here hx rfl (hb hby d4_18) ?_
      exact kt
    obtain ⟨fs, hr, hrun, hended, hW, hsame⟩ := X4.leave (v := some (.int (0 : Int32))) (fun h => by rw [Bd.returns] at h; cases h)
    exact ⟨_, _, retN X4 hx (t := .boolean) Bd.returns (by simp) (hb hby d4_19) hr, hrun, hended, _, _, rfl, ⟨by rw [if_pos hc11], N0, e4⟩, ⟨_, rfl⟩, hW, hsame.mono (by decide) (by decide)⟩
  · refine Ends.of (F' := T4.setTop (mkF m 19 #[.val (.ref a1), .val (.long q2), .second] [(.int (1 : Int32))])) (fun _ kt => ?_) ?_
    · show Steps p.tables e below (T4.setTop (mkF m 11 #[.val (.ref a1), .val (.long q2), .second] [(.int (lcmpW q2 (mx - hd)))])) _
      refine XS.ifNo X4.here hx rfl (hb hby d4_11) rfl ((if0 _ _).trans (flt (mt (lw_gt _ _).mp hc11)).2.2.1) ?_
      show Steps p.tables e below (T4.setTop (mkF m 14 #[.val (.ref a1), .val (.long q2), .second] [])) _
      refine XS.iconst X4.here hx rfl (hb hby d4_14) ?_
      show Steps p.tables e below (T4.setTop (mkF m 15 #[.val (.ref a1), .val (.long q2), .second] [(.int (1 : Int32))])) _
      refine XS.goto X4.here hx rfl (pc0 := 15) (pc' := 19) rfl (hb hby d4_15) (by decide) (by decide) ?_
      exact kt
    obtain ⟨fs, hr, hrun, hended, hW, hsame⟩ := X4.leave (v := some (.int (1 : Int32))) (fun h => by rw [Bd.returns] at h; cases h)
    exact ⟨_, _, retN X4 hx (t := .boolean) Bd.returns (by simp) (hb hby d4_19) hr, hrun, hended, _, _, rfl, ⟨by rw [if_neg hc11], N0, e4⟩, ⟨_, rfl⟩, hW, hsame.mono (by decide) (by decide)⟩
theorem d5_0 : decode prog_27_method_9_code 0 = .ok (.aload_n 0, 1) := by decide +kernel
theorem d5_1 : decode prog_27_method_9_code 1 = .ok (.dup, 1) := by decide +kernel
theorem d5_2 : decode prog_27_method_9_code 2 = .ok (.getfield 83, 3) := by decide +kernel
theorem d5_5 : decode prog_27_method_9_code 5 = .ok (.ldc2_w 89, 3) := by decide +kernel
theorem d5_8 : decode prog_27_method_9_code 8 = .ok (.ladd, 1) := by decide +kernel
theorem d5_9 : decode prog_27_method_9_code 9 = .ok (.putfield 83, 3) := by decide +kernel
theorem d5_12 : decode prog_27_method_9_code 12 = .ok (.return_, 1) := by decide +kernel
def Q5 (Z : State) (a1 : Addr) (mx : Int64) (hd : Int64) (h0 : Heap) (n0 : Nat) (v : Option Value) (h : Heap) (L : List Loc) : Prop := v = none ∧ Fr n0 L ∧ Keep h0 h [a1] ∧ Exa Z h a1 "com/example/tardy_post/tardypost/HeldMessages" ∧ Fld Z h a1 "com/example/tardy_post/tardypost/HeldMessages" "maxBytes" "J" (.long mx) ∧ Fld Z h a1 "com/example/tardy_post/tardypost/HeldMessages" "heldBytes" "J" (.long (hd + (320 : Int64)))
set_option maxRecDepth 65536 in
set_option maxHeartbeats 40000000 in
theorem rm5 (l : Launch) (Z : State) (a0 : Array Value) (hw : ∀ d ∈ tables_1, d.before a0 Z = true) (ws : List Jvm.Cond) (a1 : Addr) (mx : Int64) (hd : Int64) (h0 : Heap) (n0 : Nat) (Z0 : n0 ≤ h0.size) (E_a : Exa Z h0 a1 "com/example/tardy_post/tardypost/HeldMessages") (F_m : Fld Z h0 a1 "com/example/tardy_post/tardypost/HeldMessages" "maxBytes" "J" (.long mx)) (F_h : Fld Z h0 a1 "com/example/tardy_post/tardypost/HeldMessages" "heldBytes" "J" (.long hd)) (g_a : n0 ≤ a1) :
    MetFree l (⟨"com/example/tardy_post/tardypost/HeldMessages", "holdAwaited", "()V"⟩ : MethodName) (head1 (Jvm.Cond.code (⟨"com/example/tardy_post/tardypost/HeldMessages", "holdAwaited", "()V"⟩ : MethodName) prog_27_method_9_code 1 none :: ws) ({ frames := 0, cells := 0, slots := 0, locals := 0 } : Room)) (fun a U => a = #[(.ref a1)] ∧ Z.Warmed39 U.vm ∧ U.heap = h0) (fun _ _ _ _ _ => True) (fun _ U o U' => ∃ v L, o = .returned v ∧ Q5 Z a1 mx hd h0 n0 v U'.heap L ∧ FrameEnd U o U' L ({ frames := 0, cells := 0, slots := 0, locals := 0 } : Room).cells ({ frames := 0, cells := 0, slots := 0, locals := 0 } : Room).slots) := by
  refine MetFree.of_bodySF (plainFor_of_name pn_0) hisR ?_
  intro p e s m args below meth c s₁ Bd hml0 hP hK
  obtain ⟨rfl, hZ, hh⟩ := hP
  have hx := Bd.exec
  have hby := Bd.bytes
  have hml : c.maxLocals = 1 := hml0
  have hown : s.vm.findClass "com/example/tardy_post/tardypost/HeldMessages" = some m.cls := findClass_of_methodNamed Bd.named
  have hnm := (name_of_methodNamed Bd.named Bd.method).1
  have X0 : Stand p l e ({ frames := 0, cells := 0, slots := 0, locals := 0 } : Room) s m #[(.ref a1)] below meth c s₁ [] 0 0 := Stand.of_body Bd
  have e0 : s₁.heap = h0 := by rw [← hh, Bd.state]; rfl
  have N0 := Fr.nil n0
  have eF : entryFrame m #[(.ref a1)] 1 = mkF m 0 #[.val (.ref a1)] [] := by first | (simp [entryFrame, mkF, argsToLocals, Value.category]; done) | rfl
  show Ends p e below s ({ frames := 0, cells := 0, slots := 0, locals := 0 } : Room) (Q5 Z a1 mx hd h0 n0) (s₁.setTop (entryFrame m #[(.ref a1)] 1))
  rw [eF]
  refine Ends.of (F' := s₁.setTop (mkF m 2 #[.val (.ref a1)] [(.ref a1), (.ref a1)])) (fun _ kt => ?_) ?_
  · show Steps p.tables e below (s₁.setTop (mkF m 0 #[.val (.ref a1)] [])) _
    refine XS.aloadN X0.here hx rfl (hb hby d5_0) rfl rfl ?_
    show Steps p.tables e below (s₁.setTop (mkF m 1 #[.val (.ref a1)] [(.ref a1)])) _
    refine XS.dup X0.here hx rfl (hb hby d5_1) rfl rfl ?_
    exact kt
  obtain ⟨T5, X5, e5, st5⟩ := getF X0 hx hZ hown (host := "") (Or.inl (hw _ (List.mem_of_getElem? (i := 22) rfl))) Via.refl e0 F_h (g := (mkF m 2 #[.val (.ref a1)] [(.ref a1), (.ref a1)])) rfl rfl (hb hby d5_2)
  refine Ends.of st5 ?_
  refine Ends.of (F' := T5.setTop (mkF m 9 #[.val (.ref a1)] [(.long (hd + (320 : Int64))), (.ref a1)])) (fun _ kt => ?_) ?_
  · show Steps p.tables e below (T5.setTop (mkF m 5 #[.val (.ref a1)] [(.long hd), (.ref a1)])) _
    refine X5.ldc2Long hx hown (mvT hZ (hw _ (List.mem_of_getElem? (i := 29) rfl))) (g := (mkF m 5 #[.val (.ref a1)] [(.long hd), (.ref a1)])) rfl (hb hby d5_5) _ ?_
    show Steps p.tables e below (T5.setTop (mkF m 8 #[.val (.ref a1)] [(.long (320 : Int64)), (.long hd), (.ref a1)])) _
    refine XS.ladd X5.here hx rfl (hb hby d5_8) rfl ?_
    exact kt
  obtain ⟨T6, h6, X6, e6, W6, st6⟩ := putF X5 hx hZ hown (host := "") (Or.inl (hw _ (List.mem_of_getElem? (i := 22) rfl))) Via.refl e5 F_h E_a (Or.inl (hw _ (List.mem_of_getElem? (i := 23) rfl))) (hw _ (List.mem_of_getElem? (i := 6) rfl)) (ty := .long) (by decide) rfl rfl (g := (mkF m 9 #[.val (.ref a1)] [(.long (hd + (320 : Int64))), (.ref a1)])) rfl rfl (hb hby d5_9)
  refine Ends.of st6 ?_
  have N6 := Fr.snoc X6 N0 g_a
  have F_m1 := F_m.other W6 (Or.inr (slot_ne (Or.inr (hw _ (List.mem_of_getElem? (i := 15) rfl))) (Or.inl (hw _ (List.mem_of_getElem? (i := 23) rfl))) (by decide) (t := .long) (t' := .long) (by decide) (by decide)))
  have F_h1 := F_h.same W6
  have E_1 := E_a.wr W6
  have K_1 : Keep h0 h6 [a1] := (Keep.refl _ _).wr W6 (Or.inl (List.mem_of_getElem? (i := 0) rfl))
  rw [← e6] at F_h1 F_m1 E_1 K_1
  obtain ⟨fs, hr, hrun, hended, hW, hsame⟩ := X6.leave (v := none) (fun _ => rfl)
  exact ⟨_, _, X6.returnOut hx Bd.returns (hb hby d5_12) hr, hrun, hended, _, _, rfl, ⟨rfl, N6, K_1, E_1, F_m1, F_h1⟩, ⟨_, rfl⟩, hW, hsame.mono (by decide) (by decide)⟩
theorem pn_1 : plainName "com/example/tardy_post/tardypost/HeldMessagesHasRoomForPinLaw" = true := by first | (simp [plainName, overriddenIn]; done) | decide +kernel
def Q0 (Z : State) (q1 : Int64) (q2 : Int64) (p3 : Int32) (h0 : Heap) (n0 : Nat) (v : Option Value) (h : Heap) (L : List Loc) : Prop := v = some (.int (1 : Int32)) ∧ Fr n0 L
set_option maxRecDepth 65536 in
set_option maxHeartbeats 40000000 in
theorem rm0 (l : Launch) (Z : State) (a0 : Array Value) (hw : ∀ d ∈ tables_1, d.before a0 Z = true) (ws : List Jvm.Cond) (q1 : Int64) (q2 : Int64) (p3 : Int32) (h0 : Heap) (n0 : Nat) (Z0 : n0 ≤ h0.size) :
    MetFree l x (head1 (Jvm.Cond.code x code maxLocals ret :: ws) room_1) (fun a U => a = #[(.long q1), (.long q2), (.int p3)] ∧ Z.Warmed39 U.vm ∧ U.heap = h0) (fun _ _ _ _ _ => True) (fun _ U o U' => ∃ v L, o = .returned v ∧ Q0 Z q1 q2 p3 h0 n0 v U'.heap L ∧ FrameEnd U o U' L room_1.cells room_1.slots) := by
  refine MetFree.of_bodySF (plainFor_of_name pn_1) hisR ?_
  intro p e s m args below meth c s₁ Bd hml0 hP hK
  obtain ⟨rfl, hZ, hh⟩ := hP
  have hx := Bd.exec
  have hby := Bd.bytes
  have hml : c.maxLocals = 12 := hml0
  have hown : s.vm.findClass "com/example/tardy_post/tardypost/HeldMessagesHasRoomForPinLaw" = some m.cls := findClass_of_methodNamed Bd.named
  have hnm := (name_of_methodNamed Bd.named Bd.method).1
  have X0 : Stand p l e room_1 s m #[(.long q1), (.long q2), (.int p3)] below meth c s₁ [] 0 0 := Stand.of_body Bd
  have e0 : s₁.heap = h0 := by rw [← hh, Bd.state]; rfl
  have N0 := Fr.nil n0
  have eF : entryFrame m #[(.long q1), (.long q2), (.int p3)] maxLocals = mkF m 0 #[.val (.long q1), .second, .val (.long q2), .second, .val (.int p3), .unset, .unset, .unset, .unset, .unset, .unset, .unset] [] := by first | (simp [entryFrame, mkF, argsToLocals, Value.category, maxLocals]; done) | rfl
  show Ends p e below s room_1 (Q0 Z q1 q2 p3 h0 n0) (s₁.setTop (entryFrame m #[(.long q1), (.long q2), (.int p3)] maxLocals))
  rw [eF]
  refine Ends.of (F' := s₁.setTop (mkF m 4 #[.val (.long q1), .second, .val (.long q2), .second, .val (.int p3), .unset, .unset, .unset, .unset, .unset, .unset, .unset] [(.long (-9223372036854774784 : Int64)), (.long q1)])) (fun _ kt => ?_) ?_
  · show Steps p.tables e below (s₁.setTop (mkF m 0 #[.val (.long q1), .second, .val (.long q2), .second, .val (.int p3), .unset, .unset, .unset, .unset, .unset, .unset, .unset] [])) _
    refine XS.lloadN X0.here hx rfl (hb hby at_0) rfl ?_
    show Steps p.tables e below (s₁.setTop (mkF m 1 #[.val (.long q1), .second, .val (.long q2), .second, .val (.int p3), .unset, .unset, .unset, .unset, .unset, .unset, .unset] [(.long q1)])) _
    refine X0.ldc2Long hx hown (mvT hZ (hw _ (List.mem_of_getElem? (i := 0) rfl))) (g := (mkF m 1 #[.val (.long q1), .second, .val (.long q2), .second, .val (.int p3), .unset, .unset, .unset, .unset, .unset, .unset, .unset] [(.long q1)])) rfl (hb hby at_1) _ ?_
    exact kt
  obtain ⟨_, _, ⟨T7, L7, k7, n7⟩, -, X7, ⟨Lc7, hQ7, l7, y7, z7⟩, st7⟩ := Jvm.LawKit.callS X0 hx (y := (⟨"java/lang/Math", "max", "(JJ)J"⟩ : MethodName)) hown (mvT hZ (hw _ (List.mem_of_getElem? (i := 1) rfl))) (mvT hZ (hw _ (List.mem_of_getElem? (i := 2) rfl))) (mvT hZ (hw _ (List.mem_of_getElem? (i := 3) rfl))) (mvT hZ (hw _ (List.mem_of_getElem? (i := 4) rfl))) (by decide) (backOf (W := 0) (rm1 l Z a0 hw [] q1 (-9223372036854774784 : Int64) h0 n0 Z0) hZ (hw _ (List.mem_of_getElem? (i := 4) rfl)) (hw _ (List.mem_of_getElem? (i := 3) rfl)) (by decide) (by decide)) (g := (mkF m 4 #[.val (.long q1), .second, .val (.long q2), .second, .val (.int p3), .unset, .unset, .unset, .unset, .unset, .unset, .unset] [(.long (-9223372036854774784 : Int64)), (.long q1)])) rfl (by rw [hml]; rfl) (argsL := [(.long q1), (.long (-9223372036854774784 : Int64))]) (rest := []) (lenOf pd_0 rfl) rfl (by show 2 * 0 + _ ≤ _; exact Nat.le_of_eq rfl) (hb hby at_4) (fun _ _ => ⟨rfl, e0, (by decide : 0 + 0 ≤ _), (by decide : 0 + 0 ≤ _)⟩)
  dsimp only [Pt.U, Pt.locs, Pt.cells, Pt.slots] at X7 l7 y7 z7 st7 hQ7
  subst l7 y7 z7
  obtain ⟨rfl, N7q, e7⟩ := hQ7
  have N7 := Fr.app N0 N7q
  refine Ends.of st7 ?_
  have hmx := own_mx q1
  generalize (if q1 < (-9223372036854774784 : Int64) then (-9223372036854774784 : Int64) else q1) = mx at hmx ⊢
  refine Ends.of (F' := T7.setTop (mkF m 15 #[.val (.long q1), .second, .val (.long q2), .second, .val (.int p3), .val (.long mx), .second, .val (.int (p3 &&& (3 : Int32))), .unset, .unset, .unset, .unset] [])) (fun _ kt => ?_) ?_
  · show Steps p.tables e below (T7.setTop (mkF m 7 #[.val (.long q1), .second, .val (.long q2), .second, .val (.int p3), .unset, .unset, .unset, .unset, .unset, .unset, .unset] [(.long mx)])) _
    refine XS.lstore X7.here hx rfl (hb hby at_7) rfl (l' := #[.val (.long q1), .second, .val (.long q2), .second, .val (.int p3), .val (.long mx), .second, .unset, .unset, .unset, .unset, .unset]) rfl ?_
    show Steps p.tables e below (T7.setTop (mkF m 9 #[.val (.long q1), .second, .val (.long q2), .second, .val (.int p3), .val (.long mx), .second, .unset, .unset, .unset, .unset, .unset] [])) _
    refine XS.iload X7.here hx rfl (hb hby at_9) rfl ?_
    show Steps p.tables e below (T7.setTop (mkF m 11 #[.val (.long q1), .second, .val (.long q2), .second, .val (.int p3), .val (.long mx), .second, .unset, .unset, .unset, .unset, .unset] [(.int p3)])) _
    refine XS.iconst X7.here hx rfl (hb hby at_11) ?_
    show Steps p.tables e below (T7.setTop (mkF m 12 #[.val (.long q1), .second, .val (.long q2), .second, .val (.int p3), .val (.long mx), .second, .unset, .unset, .unset, .unset, .unset] [(.int (3 : Int32)), (.int p3)])) _
    refine XS.iand X7.here hx rfl (hb hby at_12) rfl ?_
    show Steps p.tables e below (T7.setTop (mkF m 13 #[.val (.long q1), .second, .val (.long q2), .second, .val (.int p3), .val (.long mx), .second, .unset, .unset, .unset, .unset, .unset] [(.int (p3 &&& (3 : Int32)))])) _
    refine XS.istore X7.here hx rfl (hb hby at_13) rfl (l' := #[.val (.long q1), .second, .val (.long q2), .second, .val (.int p3), .val (.long mx), .second, .val (.int (p3 &&& (3 : Int32))), .unset, .unset, .unset, .unset]) rfl ?_
    exact kt
  obtain ⟨T8, h8, X8, e8, E8, A8, D8, -, st8⟩ := newO X7 hx hZ hown (hw _ (List.mem_of_getElem? (i := 5) rfl)) (hw _ (List.mem_of_getElem? (i := 6) rfl)) (hw _ (List.mem_of_getElem? (i := 7) rfl)) e7 (g := (mkF m 15 #[.val (.long q1), .second, .val (.long q2), .second, .val (.int p3), .val (.long mx), .second, .val (.int (p3 &&& (3 : Int32))), .unset, .unset, .unset, .unset] [])) rfl (hb hby at_15) (by decide) (by decide)
  obtain ⟨b8, g8⟩ : ∃ z, z = h0.size := ⟨_, rfl⟩
  rw [← g8] at A8 D8 st8
  have F_maxBytes_b8 : Fld Z h8 b8 "com/example/tardy_post/tardypost/HeldMessages" "maxBytes" "J" (.long (0 : Int64)) := D8 (Or.inr (hw _ (List.mem_of_getElem? (i := 15) rfl))) (ty := .long) (by decide)
  have F_heldBytes_b8 : Fld Z h8 b8 "com/example/tardy_post/tardypost/HeldMessages" "heldBytes" "J" (.long (0 : Int64)) := D8 (Or.inl (hw _ (List.mem_of_getElem? (i := 23) rfl))) (ty := .long) (by decide)
  refine Ends.of st8 ?_
  have Z1 : n0 ≤ h8.size := Nat.le_trans Z0 E8.1
  have gb : n0 ≤ b8 := Nat.le_trans Z0 (Nat.le_of_eq g8.symm)
  refine Ends.of (F' := T8.setTop (mkF m 21 #[.val (.long q1), .second, .val (.long q2), .second, .val (.int p3), .val (.long mx), .second, .val (.int (p3 &&& (3 : Int32))), .unset, .unset, .unset, .unset] [(.long mx), (.ref b8), (.ref b8)])) (fun _ kt => ?_) ?_
  · show Steps p.tables e below (T8.setTop (mkF m 18 #[.val (.long q1), .second, .val (.long q2), .second, .val (.int p3), .val (.long mx), .second, .val (.int (p3 &&& (3 : Int32))), .unset, .unset, .unset, .unset] [(.ref b8)])) _
    refine XS.dup X8.here hx rfl (hb hby at_18) rfl rfl ?_
    show Steps p.tables e below (T8.setTop (mkF m 19 #[.val (.long q1), .second, .val (.long q2), .second, .val (.int p3), .val (.long mx), .second, .val (.int (p3 &&& (3 : Int32))), .unset, .unset, .unset, .unset] [(.ref b8), (.ref b8)])) _
    refine XS.lload X8.here hx rfl (hb hby at_19) rfl ?_
    exact kt
  obtain ⟨_, _, ⟨T9, L9, k9, n9⟩, -, X9, ⟨Lc9, hQ9, l9, y9, z9⟩, st9⟩ := X8.specialBack hx (y := (⟨"com/example/tardy_post/tardypost/HeldMessages", "<init>", "(J)V"⟩ : MethodName)) rfl hown (mvT hZ (hw _ (List.mem_of_getElem? (i := 8) rfl))) (mvT hZ (hw _ (List.mem_of_getElem? (i := 9) rfl))) (mvT hZ (hw _ (List.mem_of_getElem? (i := 10) rfl))) (by decide) (backOf (W := 1) (rm2 l Z a0 hw [] b8 mx h8 n0 Z1 A8 F_maxBytes_b8 F_heldBytes_b8 gb) hZ (hw _ (List.mem_of_getElem? (i := 10) rfl)) (hw _ (List.mem_of_getElem? (i := 7) rfl)) (by decide) (by decide)) (g := (mkF m 21 #[.val (.long q1), .second, .val (.long q2), .second, .val (.int p3), .val (.long mx), .second, .val (.int (p3 &&& (3 : Int32))), .unset, .unset, .unset, .unset] [(.long mx), (.ref b8), (.ref b8)])) rfl (by rw [hml]; rfl) (Steps.refl _) (a := b8) (argsL := [(.long mx)]) (rest := [(.ref b8)]) (lenOf pd_1 rfl) rfl (by show 2 * 0 + _ ≤ _; exact Nat.le_of_eq rfl) (hb hby at_21) (fun _ _ => ⟨rfl, e8, (by decide : 1 + 0 ≤ _), (by decide : 2 + 0 ≤ _)⟩)
  dsimp only [Pt.U, Pt.locs, Pt.cells, Pt.slots] at X9 l9 y9 z9 st9 hQ9
  subst l9 y9 z9
  obtain ⟨rfl, N9q, K9, Ex9, Fm9, Fh9⟩ := hQ9
  have N9 := Fr.app N7 N9q
  refine Ends.st st9 ?_
  have Z2 : n0 ≤ T9.heap.size := Nat.le_trans Z1 K9.1
  refine Ends.of (F' := T9.setTop (mkF m 29 #[.val (.long q1), .second, .val (.long q2), .second, .val (.int p3), .val (.long mx), .second, .val (.int (p3 &&& (3 : Int32))), .val (.ref b8), .unset, .unset, .unset] [(.int (1 : Int32)), (.int (p3 &&& (3 : Int32)))])) (fun _ kt => ?_) ?_
  · show Steps p.tables e below (T9.setTop (mkF m 24 #[.val (.long q1), .second, .val (.long q2), .second, .val (.int p3), .val (.long mx), .second, .val (.int (p3 &&& (3 : Int32))), .unset, .unset, .unset, .unset] [(.ref b8)])) _
    refine XS.astore X9.here hx rfl (hb hby at_24) rfl rfl (l' := #[.val (.long q1), .second, .val (.long q2), .second, .val (.int p3), .val (.long mx), .second, .val (.int (p3 &&& (3 : Int32))), .val (.ref b8), .unset, .unset, .unset]) rfl ?_
    show Steps p.tables e below (T9.setTop (mkF m 26 #[.val (.long q1), .second, .val (.long q2), .second, .val (.int p3), .val (.long mx), .second, .val (.int (p3 &&& (3 : Int32))), .val (.ref b8), .unset, .unset, .unset] [])) _
    refine XS.iload X9.here hx rfl (hb hby at_26) rfl ?_
    show Steps p.tables e below (T9.setTop (mkF m 28 #[.val (.long q1), .second, .val (.long q2), .second, .val (.int p3), .val (.long mx), .second, .val (.int (p3 &&& (3 : Int32))), .val (.ref b8), .unset, .unset, .unset] [(.int (p3 &&& (3 : Int32)))])) _
    refine XS.iconst X9.here hx rfl (hb hby at_28) ?_
    exact kt
  have blk : ∀ (Tb : State) (lb : List Loc) (hB : Heap), Stand p l e room_1 s m #[(.long q1), (.long q2), (.int p3)] below meth c Tb lb 1 2 → Tb.heap = hB → Fr n0 lb → n0 ≤ hB.size → Exa Z hB b8 "com/example/tardy_post/tardypost/HeldMessages" → Fld Z hB b8 "com/example/tardy_post/tardypost/HeldMessages" "maxBytes" "J" (.long mx) → Fld Z hB b8 "com/example/tardy_post/tardypost/HeldMessages" "heldBytes" "J" (.long ((320 : Int64) * (p3 &&& (3 : Int32)).toInt64)) → Ends p e below s room_1 (Q0 Z q1 q2 p3 h0 n0) (Tb.setTop (mkF m 59 #[.val (.long q1), .second, .val (.long q2), .second, .val (.int p3), .val (.long mx), .second, .val (.int (p3 &&& (3 : Int32))), .val (.ref b8), .unset, .unset, .unset] [])) := by
    intro Tb lb hB Xb eb Nb Zb Exb Fmb Fhb
    have hk3 := own_k p3
    have hh := own_held p3
    obtain ⟨ar1, ar2, ar3⟩ := own_ar mx q2 ((320 : Int64) * (p3 &&& (3 : Int32)).toInt64) hmx (by omega) (by omega)
    refine Ends.of (F' := Tb.setTop (mkF m 72 #[.val (.long q1), .second, .val (.long q2), .second, .val (.int p3), .val (.long mx), .second, .val (.int (p3 &&& (3 : Int32))), .val (.ref b8), .val (.long ((320 : Int64) * ((p3 &&& (3 : Int32)).toInt64))), .second, .unset] [(.int (lcmpW q2 mx))])) (fun _ kt => ?_) ?_
    · show Steps p.tables e below (Tb.setTop (mkF m 59 #[.val (.long q1), .second, .val (.long q2), .second, .val (.int p3), .val (.long mx), .second, .val (.int (p3 &&& (3 : Int32))), .val (.ref b8), .unset, .unset, .unset] [])) _
      refine Xb.ldc2Long hx hown (mvT hZ (hw _ (List.mem_of_getElem? (i := 16) rfl))) (g := (mkF m 59 #[.val (.long q1), .second, .val (.long q2), .second, .val (.int p3), .val (.long mx), .second, .val (.int (p3 &&& (3 : Int32))), .val (.ref b8), .unset, .unset, .unset] [])) rfl (hb hby at_59) _ ?_
      show Steps p.tables e below (Tb.setTop (mkF m 62 #[.val (.long q1), .second, .val (.long q2), .second, .val (.int p3), .val (.long mx), .second, .val (.int (p3 &&& (3 : Int32))), .val (.ref b8), .unset, .unset, .unset] [(.long (320 : Int64))])) _
      refine XS.iload Xb.here hx rfl (hb hby at_62) rfl ?_
      show Steps p.tables e below (Tb.setTop (mkF m 64 #[.val (.long q1), .second, .val (.long q2), .second, .val (.int p3), .val (.long mx), .second, .val (.int (p3 &&& (3 : Int32))), .val (.ref b8), .unset, .unset, .unset] [(.int (p3 &&& (3 : Int32))), (.long (320 : Int64))])) _
      refine XS.i2l Xb.here hx rfl (hb hby at_64) rfl ?_
      show Steps p.tables e below (Tb.setTop (mkF m 65 #[.val (.long q1), .second, .val (.long q2), .second, .val (.int p3), .val (.long mx), .second, .val (.int (p3 &&& (3 : Int32))), .val (.ref b8), .unset, .unset, .unset] [(.long ((p3 &&& (3 : Int32)).toInt64)), (.long (320 : Int64))])) _
      refine XS.lmul Xb.here hx rfl (hb hby at_65) rfl ?_
      show Steps p.tables e below (Tb.setTop (mkF m 66 #[.val (.long q1), .second, .val (.long q2), .second, .val (.int p3), .val (.long mx), .second, .val (.int (p3 &&& (3 : Int32))), .val (.ref b8), .unset, .unset, .unset] [(.long ((320 : Int64) * ((p3 &&& (3 : Int32)).toInt64)))])) _
      refine XS.lstore Xb.here hx rfl (hb hby at_66) rfl (l' := #[.val (.long q1), .second, .val (.long q2), .second, .val (.int p3), .val (.long mx), .second, .val (.int (p3 &&& (3 : Int32))), .val (.ref b8), .val (.long ((320 : Int64) * ((p3 &&& (3 : Int32)).toInt64))), .second, .unset]) rfl ?_
      show Steps p.tables e below (Tb.setTop (mkF m 68 #[.val (.long q1), .second, .val (.long q2), .second, .val (.int p3), .val (.long mx), .second, .val (.int (p3 &&& (3 : Int32))), .val (.ref b8), .val (.long ((320 : Int64) * ((p3 &&& (3 : Int32)).toInt64))), .second, .unset] [])) _
      refine XS.lloadN Xb.here hx rfl (hb hby at_68) rfl ?_
      show Steps p.tables e below (Tb.setTop (mkF m 69 #[.val (.long q1), .second, .val (.long q2), .second, .val (.int p3), .val (.long mx), .second, .val (.int (p3 &&& (3 : Int32))), .val (.ref b8), .val (.long ((320 : Int64) * ((p3 &&& (3 : Int32)).toInt64))), .second, .unset] [(.long q2)])) _
      refine XS.lload Xb.here hx rfl (hb hby at_69) rfl ?_
      show Steps p.tables e below (Tb.setTop (mkF m 71 #[.val (.long q1), .second, .val (.long q2), .second, .val (.int p3), .val (.long mx), .second, .val (.int (p3 &&& (3 : Int32))), .val (.ref b8), .val (.long ((320 : Int64) * ((p3 &&& (3 : Int32)).toInt64))), .second, .unset] [(.long mx), (.long q2)])) _
      refine XS.lcmp Xb.here hx rfl (hb hby at_71) rfl ?_
      exact kt
    by_cases ha : mx < q2
    · refine Ends.of (F' := Tb.setTop (mkF m 127 #[.val (.long q1), .second, .val (.long q2), .second, .val (.int p3), .val (.long mx), .second, .val (.int (p3 &&& (3 : Int32))), .val (.ref b8), .val (.long ((320 : Int64) * ((p3 &&& (3 : Int32)).toInt64))), .second, .val (.int (0 : Int32))] [(.long q2), (.ref b8)])) (fun _ kt => ?_) ?_
      · show Steps p.tables e below (Tb.setTop (mkF m 72 #[.val (.long q1), .second, .val (.long q2), .second, .val (.int p3), .val (.long mx), .second, .val (.int (p3 &&& (3 : Int32))), .val (.ref b8), .val (.long ((320 : Int64) * ((p3 &&& (3 : Int32)).toInt64))), .second, .unset] [(.int (lcmpW q2 mx))])) _
        refine XS.ifNo Xb.here hx rfl (hb hby at_72) rfl ((if0 _ _).trans (tlt ((lw_gt _ _).mpr ha)).2.2.2) ?_
        show Steps p.tables e below (Tb.setTop (mkF m 75 #[.val (.long q1), .second, .val (.long q2), .second, .val (.int p3), .val (.long mx), .second, .val (.int (p3 &&& (3 : Int32))), .val (.ref b8), .val (.long ((320 : Int64) * ((p3 &&& (3 : Int32)).toInt64))), .second, .unset] [])) _
        refine XS.iconst Xb.here hx rfl (hb hby at_75) ?_
        show Steps p.tables e below (Tb.setTop (mkF m 76 #[.val (.long q1), .second, .val (.long q2), .second, .val (.int p3), .val (.long mx), .second, .val (.int (p3 &&& (3 : Int32))), .val (.ref b8), .val (.long ((320 : Int64) * ((p3 &&& (3 : Int32)).toInt64))), .second, .unset] [(.int (0 : Int32))])) _
        refine XS.istore Xb.here hx rfl (hb hby at_76) rfl (l' := #[.val (.long q1), .second, .val (.long q2), .second, .val (.int p3), .val (.long mx), .second, .val (.int (p3 &&& (3 : Int32))), .val (.ref b8), .val (.long ((320 : Int64) * ((p3 &&& (3 : Int32)).toInt64))), .second, .val (.int (0 : Int32))]) rfl ?_
        show Steps p.tables e below (Tb.setTop (mkF m 78 #[.val (.long q1), .second, .val (.long q2), .second, .val (.int p3), .val (.long mx), .second, .val (.int (p3 &&& (3 : Int32))), .val (.ref b8), .val (.long ((320 : Int64) * ((p3 &&& (3 : Int32)).toInt64))), .second, .val (.int (0 : Int32))] [])) _
        refine XS.goto Xb.here hx rfl (pc0 := 78) (pc' := 124) rfl (hb hby at_78) (by decide) (by decide) ?_
        show Steps p.tables e below (Tb.setTop (mkF m 124 #[.val (.long q1), .second, .val (.long q2), .second, .val (.int p3), .val (.long mx), .second, .val (.int (p3 &&& (3 : Int32))), .val (.ref b8), .val (.long ((320 : Int64) * ((p3 &&& (3 : Int32)).toInt64))), .second, .val (.int (0 : Int32))] [])) _
        refine XS.aload Xb.here hx rfl (hb hby at_124) rfl rfl ?_
        show Steps p.tables e below (Tb.setTop (mkF m 126 #[.val (.long q1), .second, .val (.long q2), .second, .val (.int p3), .val (.long mx), .second, .val (.int (p3 &&& (3 : Int32))), .val (.ref b8), .val (.long ((320 : Int64) * ((p3 &&& (3 : Int32)).toInt64))), .second, .val (.int (0 : Int32))] [(.ref b8)])) _
        refine XS.lloadN Xb.here hx rfl (hb hby at_126) rfl ?_
        exact kt
      obtain ⟨cq10, kq10, q10a, q10b, q10c⟩ := isOf hZ eb Exb
      obtain ⟨_, _, ⟨T10, L10, k10, n10⟩, -, X10, ⟨Lc10, hQ10, l10, y10, z10⟩, st10⟩ := Xb.virtualBack hx (y := (⟨"com/example/tardy_post/tardypost/HeldMessages", "hasRoomFor", "(J)Z"⟩ : MethodName)) (z := (⟨"com/example/tardy_post/tardypost/HeldMessages", "hasRoomFor", "(J)Z"⟩ : MethodName)) hown (mvT hZ (hw _ (List.mem_of_getElem? (i := 17) rfl))) (mvT hZ (hw _ (List.mem_of_getElem? (i := 18) rfl))) (notFace_of_selects (args := #[]) (mvT hZ (hw _ (List.mem_of_getElem? (i := 20) rfl)))) (mvT hZ (hw _ (List.mem_of_getElem? (i := 20) rfl))) (mvT hZ (hw _ (List.mem_of_getElem? (i := 19) rfl))) (by decide) (backOf (W := 0) (rm4 l Z a0 hw [] b8 q2 mx ((320 : Int64) * (p3 &&& (3 : Int32)).toInt64) hB n0 Zb Fmb Fhb) hZ (hw _ (List.mem_of_getElem? (i := 21) rfl)) (hw _ (List.mem_of_getElem? (i := 7) rfl)) (by decide) (by decide)) q10a q10c (g := (mkF m 127 #[.val (.long q1), .second, .val (.long q2), .second, .val (.int p3), .val (.long mx), .second, .val (.int (p3 &&& (3 : Int32))), .val (.ref b8), .val (.long ((320 : Int64) * ((p3 &&& (3 : Int32)).toInt64))), .second, .val (.int (0 : Int32))] [(.long q2), (.ref b8)])) rfl (by rw [hml]; rfl) (Steps.refl _) (argsL := [(.long q2)]) (rest := []) (lenOf pd_3 rfl) rfl (by show 2 * 0 + _ ≤ _; exact Nat.le_of_eq rfl) (hb hby at_127) (fun _ _ => ⟨rfl, eb, (by decide : 1 + 0 ≤ _), (by decide : 2 + 0 ≤ _)⟩)
      dsimp only [Pt.U, Pt.locs, Pt.cells, Pt.slots] at X10 l10 y10 z10 st10 hQ10
      subst l10 y10 z10
      obtain ⟨rfl, N10q, e10⟩ := hQ10
      have N10 := Fr.app Nb N10q
      refine Ends.st st10 ?_
      refine Ends.of (F' := T10.setTop (mkF m 140 #[.val (.long q1), .second, .val (.long q2), .second, .val (.int p3), .val (.long mx), .second, .val (.int (p3 &&& (3 : Int32))), .val (.ref b8), .val (.long ((320 : Int64) * ((p3 &&& (3 : Int32)).toInt64))), .second, .val (.int (0 : Int32))] [(.int (1 : Int32))])) (fun _ kt => ?_) ?_
      · show Steps p.tables e below (T10.setTop (mkF m 130 #[.val (.long q1), .second, .val (.long q2), .second, .val (.int p3), .val (.long mx), .second, .val (.int (p3 &&& (3 : Int32))), .val (.ref b8), .val (.long ((320 : Int64) * ((p3 &&& (3 : Int32)).toInt64))), .second, .val (.int (0 : Int32))] [(.int (if (mx - ((320 : Int64) * (p3 &&& (3 : Int32)).toInt64)) < q2 then (0 : Int32) else (1 : Int32)))])) _
        refine XS.iload X10.here hx rfl (hb hby at_130) rfl ?_
        show Steps p.tables e below (T10.setTop (mkF m 132 #[.val (.long q1), .second, .val (.long q2), .second, .val (.int p3), .val (.long mx), .second, .val (.int (p3 &&& (3 : Int32))), .val (.ref b8), .val (.long ((320 : Int64) * ((p3 &&& (3 : Int32)).toInt64))), .second, .val (.int (0 : Int32))] [(.int (0 : Int32)), (.int (if (mx - ((320 : Int64) * (p3 &&& (3 : Int32)).toInt64)) < q2 then (0 : Int32) else (1 : Int32)))])) _
        refine XS.icmpNo X10.here hx rfl (hb hby at_132) rfl (teq (if_pos (ar1 ha))).2 ?_
        show Steps p.tables e below (T10.setTop (mkF m 135 #[.val (.long q1), .second, .val (.long q2), .second, .val (.int p3), .val (.long mx), .second, .val (.int (p3 &&& (3 : Int32))), .val (.ref b8), .val (.long ((320 : Int64) * ((p3 &&& (3 : Int32)).toInt64))), .second, .val (.int (0 : Int32))] [])) _
        refine XS.iconst X10.here hx rfl (hb hby at_135) ?_
        show Steps p.tables e below (T10.setTop (mkF m 136 #[.val (.long q1), .second, .val (.long q2), .second, .val (.int p3), .val (.long mx), .second, .val (.int (p3 &&& (3 : Int32))), .val (.ref b8), .val (.long ((320 : Int64) * ((p3 &&& (3 : Int32)).toInt64))), .second, .val (.int (0 : Int32))] [(.int (1 : Int32))])) _
        refine XS.goto X10.here hx rfl (pc0 := 136) (pc' := 140) rfl (hb hby at_136) (by decide) (by decide) ?_
        exact kt
      obtain ⟨fs, hr, hrun, hended, hW, hsame⟩ := X10.leave (v := some (.int (1 : Int32))) (fun h => by rw [Bd.returns] at h; cases h)
      exact ⟨_, _, retN X10 hx (t := .boolean) Bd.returns (by simp) (hb hby at_140) hr, hrun, hended, _, _, rfl, ⟨rfl, N10⟩, ⟨_, rfl⟩, hW, hsame.mono (by decide) (by decide)⟩
    · refine Ends.of (F' := Tb.setTop (mkF m 84 #[.val (.long q1), .second, .val (.long q2), .second, .val (.int p3), .val (.long mx), .second, .val (.int (p3 &&& (3 : Int32))), .val (.ref b8), .val (.long ((320 : Int64) * ((p3 &&& (3 : Int32)).toInt64))), .second, .unset] [(.int (lcmpW q2 (0 : Int64)))])) (fun _ kt => ?_) ?_
      · show Steps p.tables e below (Tb.setTop (mkF m 72 #[.val (.long q1), .second, .val (.long q2), .second, .val (.int p3), .val (.long mx), .second, .val (.int (p3 &&& (3 : Int32))), .val (.ref b8), .val (.long ((320 : Int64) * ((p3 &&& (3 : Int32)).toInt64))), .second, .unset] [(.int (lcmpW q2 mx))])) _
        refine XS.ifYes Xb.here hx rfl (pc0 := 72) (pc' := 81) rfl (hb hby at_72) rfl ((if0 _ _).trans (flt (mt (lw_gt _ _).mp ha)).2.2.2) (by decide) (by decide) ?_
        show Steps p.tables e below (Tb.setTop (mkF m 81 #[.val (.long q1), .second, .val (.long q2), .second, .val (.int p3), .val (.long mx), .second, .val (.int (p3 &&& (3 : Int32))), .val (.ref b8), .val (.long ((320 : Int64) * ((p3 &&& (3 : Int32)).toInt64))), .second, .unset] [])) _
        refine XS.lloadN Xb.here hx rfl (hb hby at_81) rfl ?_
        show Steps p.tables e below (Tb.setTop (mkF m 82 #[.val (.long q1), .second, .val (.long q2), .second, .val (.int p3), .val (.long mx), .second, .val (.int (p3 &&& (3 : Int32))), .val (.ref b8), .val (.long ((320 : Int64) * ((p3 &&& (3 : Int32)).toInt64))), .second, .unset] [(.long q2)])) _
        refine XS.lconst Xb.here hx rfl (hb hby at_82) ?_
        show Steps p.tables e below (Tb.setTop (mkF m 83 #[.val (.long q1), .second, .val (.long q2), .second, .val (.int p3), .val (.long mx), .second, .val (.int (p3 &&& (3 : Int32))), .val (.ref b8), .val (.long ((320 : Int64) * ((p3 &&& (3 : Int32)).toInt64))), .second, .unset] [(.long (0 : Int64)), (.long q2)])) _
        refine XS.lcmp Xb.here hx rfl (hb hby at_83) rfl ?_
        exact kt
      by_cases hp : (0 : Int64) < q2
      · refine Ends.of (F' := Tb.setTop (mkF m 114 #[.val (.long q1), .second, .val (.long q2), .second, .val (.int p3), .val (.long mx), .second, .val (.int (p3 &&& (3 : Int32))), .val (.ref b8), .val (.long ((320 : Int64) * ((p3 &&& (3 : Int32)).toInt64))), .second, .unset] [(.int (lcmpW ((320 : Int64) * ((p3 &&& (3 : Int32)).toInt64)) (mx - q2)))])) (fun _ kt => ?_) ?_
        · show Steps p.tables e below (Tb.setTop (mkF m 84 #[.val (.long q1), .second, .val (.long q2), .second, .val (.int p3), .val (.long mx), .second, .val (.int (p3 &&& (3 : Int32))), .val (.ref b8), .val (.long ((320 : Int64) * ((p3 &&& (3 : Int32)).toInt64))), .second, .unset] [(.int (lcmpW q2 (0 : Int64)))])) _
          refine XS.ifYes Xb.here hx rfl (pc0 := 84) (pc' := 107) rfl (hb hby at_84) rfl ((if0 _ _).trans (tlt ((lw_gt _ _).mpr hp)).2.2.1) (by decide) (by decide) ?_
          show Steps p.tables e below (Tb.setTop (mkF m 107 #[.val (.long q1), .second, .val (.long q2), .second, .val (.int p3), .val (.long mx), .second, .val (.int (p3 &&& (3 : Int32))), .val (.ref b8), .val (.long ((320 : Int64) * ((p3 &&& (3 : Int32)).toInt64))), .second, .unset] [])) _
          refine XS.lload Xb.here hx rfl (hb hby at_107) rfl ?_
          show Steps p.tables e below (Tb.setTop (mkF m 109 #[.val (.long q1), .second, .val (.long q2), .second, .val (.int p3), .val (.long mx), .second, .val (.int (p3 &&& (3 : Int32))), .val (.ref b8), .val (.long ((320 : Int64) * ((p3 &&& (3 : Int32)).toInt64))), .second, .unset] [(.long ((320 : Int64) * ((p3 &&& (3 : Int32)).toInt64)))])) _
          refine XS.lload Xb.here hx rfl (hb hby at_109) rfl ?_
          show Steps p.tables e below (Tb.setTop (mkF m 111 #[.val (.long q1), .second, .val (.long q2), .second, .val (.int p3), .val (.long mx), .second, .val (.int (p3 &&& (3 : Int32))), .val (.ref b8), .val (.long ((320 : Int64) * ((p3 &&& (3 : Int32)).toInt64))), .second, .unset] [(.long mx), (.long ((320 : Int64) * ((p3 &&& (3 : Int32)).toInt64)))])) _
          refine XS.lloadN Xb.here hx rfl (hb hby at_111) rfl ?_
          show Steps p.tables e below (Tb.setTop (mkF m 112 #[.val (.long q1), .second, .val (.long q2), .second, .val (.int p3), .val (.long mx), .second, .val (.int (p3 &&& (3 : Int32))), .val (.ref b8), .val (.long ((320 : Int64) * ((p3 &&& (3 : Int32)).toInt64))), .second, .unset] [(.long q2), (.long mx), (.long ((320 : Int64) * ((p3 &&& (3 : Int32)).toInt64)))])) _
          refine XS.lsub Xb.here hx rfl (hb hby at_112) rfl ?_
          show Steps p.tables e below (Tb.setTop (mkF m 113 #[.val (.long q1), .second, .val (.long q2), .second, .val (.int p3), .val (.long mx), .second, .val (.int (p3 &&& (3 : Int32))), .val (.ref b8), .val (.long ((320 : Int64) * ((p3 &&& (3 : Int32)).toInt64))), .second, .unset] [(.long (mx - q2)), (.long ((320 : Int64) * ((p3 &&& (3 : Int32)).toInt64)))])) _
          refine XS.lcmp Xb.here hx rfl (hb hby at_113) rfl ?_
          exact kt
        by_cases hu : (mx - q2) < ((320 : Int64) * (p3 &&& (3 : Int32)).toInt64)
        · refine Ends.of (F' := Tb.setTop (mkF m 127 #[.val (.long q1), .second, .val (.long q2), .second, .val (.int p3), .val (.long mx), .second, .val (.int (p3 &&& (3 : Int32))), .val (.ref b8), .val (.long ((320 : Int64) * ((p3 &&& (3 : Int32)).toInt64))), .second, .val (.int (0 : Int32))] [(.long q2), (.ref b8)])) (fun _ kt => ?_) ?_
          · show Steps p.tables e below (Tb.setTop (mkF m 114 #[.val (.long q1), .second, .val (.long q2), .second, .val (.int p3), .val (.long mx), .second, .val (.int (p3 &&& (3 : Int32))), .val (.ref b8), .val (.long ((320 : Int64) * ((p3 &&& (3 : Int32)).toInt64))), .second, .unset] [(.int (lcmpW ((320 : Int64) * ((p3 &&& (3 : Int32)).toInt64)) (mx - q2)))])) _
            refine XS.ifYes Xb.here hx rfl (pc0 := 114) (pc' := 121) rfl (hb hby at_114) rfl ((if0 _ _).trans (tlt ((lw_gt _ _).mpr hu)).2.2.1) (by decide) (by decide) ?_
            show Steps p.tables e below (Tb.setTop (mkF m 121 #[.val (.long q1), .second, .val (.long q2), .second, .val (.int p3), .val (.long mx), .second, .val (.int (p3 &&& (3 : Int32))), .val (.ref b8), .val (.long ((320 : Int64) * ((p3 &&& (3 : Int32)).toInt64))), .second, .unset] [])) _
            refine XS.iconst Xb.here hx rfl (hb hby at_121) ?_
            show Steps p.tables e below (Tb.setTop (mkF m 122 #[.val (.long q1), .second, .val (.long q2), .second, .val (.int p3), .val (.long mx), .second, .val (.int (p3 &&& (3 : Int32))), .val (.ref b8), .val (.long ((320 : Int64) * ((p3 &&& (3 : Int32)).toInt64))), .second, .unset] [(.int (0 : Int32))])) _
            refine XS.istore Xb.here hx rfl (hb hby at_122) rfl (l' := #[.val (.long q1), .second, .val (.long q2), .second, .val (.int p3), .val (.long mx), .second, .val (.int (p3 &&& (3 : Int32))), .val (.ref b8), .val (.long ((320 : Int64) * ((p3 &&& (3 : Int32)).toInt64))), .second, .val (.int (0 : Int32))]) rfl ?_
            show Steps p.tables e below (Tb.setTop (mkF m 124 #[.val (.long q1), .second, .val (.long q2), .second, .val (.int p3), .val (.long mx), .second, .val (.int (p3 &&& (3 : Int32))), .val (.ref b8), .val (.long ((320 : Int64) * ((p3 &&& (3 : Int32)).toInt64))), .second, .val (.int (0 : Int32))] [])) _
            refine XS.aload Xb.here hx rfl (hb hby at_124) rfl rfl ?_
            show Steps p.tables e below (Tb.setTop (mkF m 126 #[.val (.long q1), .second, .val (.long q2), .second, .val (.int p3), .val (.long mx), .second, .val (.int (p3 &&& (3 : Int32))), .val (.ref b8), .val (.long ((320 : Int64) * ((p3 &&& (3 : Int32)).toInt64))), .second, .val (.int (0 : Int32))] [(.ref b8)])) _
            refine XS.lloadN Xb.here hx rfl (hb hby at_126) rfl ?_
            exact kt
          obtain ⟨cq11, kq11, q11a, q11b, q11c⟩ := isOf hZ eb Exb
          obtain ⟨_, _, ⟨T11, L11, k11, n11⟩, -, X11, ⟨Lc11, hQ11, l11, y11, z11⟩, st11⟩ := Xb.virtualBack hx (y := (⟨"com/example/tardy_post/tardypost/HeldMessages", "hasRoomFor", "(J)Z"⟩ : MethodName)) (z := (⟨"com/example/tardy_post/tardypost/HeldMessages", "hasRoomFor", "(J)Z"⟩ : MethodName)) hown (mvT hZ (hw _ (List.mem_of_getElem? (i := 17) rfl))) (mvT hZ (hw _ (List.mem_of_getElem? (i := 18) rfl))) (notFace_of_selects (args := #[]) (mvT hZ (hw _ (List.mem_of_getElem? (i := 20) rfl)))) (mvT hZ (hw _ (List.mem_of_getElem? (i := 20) rfl))) (mvT hZ (hw _ (List.mem_of_getElem? (i := 19) rfl))) (by decide) (backOf (W := 0) (rm4 l Z a0 hw [] b8 q2 mx ((320 : Int64) * (p3 &&& (3 : Int32)).toInt64) hB n0 Zb Fmb Fhb) hZ (hw _ (List.mem_of_getElem? (i := 21) rfl)) (hw _ (List.mem_of_getElem? (i := 7) rfl)) (by decide) (by decide)) q11a q11c (g := (mkF m 127 #[.val (.long q1), .second, .val (.long q2), .second, .val (.int p3), .val (.long mx), .second, .val (.int (p3 &&& (3 : Int32))), .val (.ref b8), .val (.long ((320 : Int64) * ((p3 &&& (3 : Int32)).toInt64))), .second, .val (.int (0 : Int32))] [(.long q2), (.ref b8)])) rfl (by rw [hml]; rfl) (Steps.refl _) (argsL := [(.long q2)]) (rest := []) (lenOf pd_3 rfl) rfl (by show 2 * 0 + _ ≤ _; exact Nat.le_of_eq rfl) (hb hby at_127) (fun _ _ => ⟨rfl, eb, (by decide : 1 + 0 ≤ _), (by decide : 2 + 0 ≤ _)⟩)
          dsimp only [Pt.U, Pt.locs, Pt.cells, Pt.slots] at X11 l11 y11 z11 st11 hQ11
          subst l11 y11 z11
          obtain ⟨rfl, N11q, e11⟩ := hQ11
          have N11 := Fr.app Nb N11q
          refine Ends.st st11 ?_
          refine Ends.of (F' := T11.setTop (mkF m 140 #[.val (.long q1), .second, .val (.long q2), .second, .val (.int p3), .val (.long mx), .second, .val (.int (p3 &&& (3 : Int32))), .val (.ref b8), .val (.long ((320 : Int64) * ((p3 &&& (3 : Int32)).toInt64))), .second, .val (.int (0 : Int32))] [(.int (1 : Int32))])) (fun _ kt => ?_) ?_
          · show Steps p.tables e below (T11.setTop (mkF m 130 #[.val (.long q1), .second, .val (.long q2), .second, .val (.int p3), .val (.long mx), .second, .val (.int (p3 &&& (3 : Int32))), .val (.ref b8), .val (.long ((320 : Int64) * ((p3 &&& (3 : Int32)).toInt64))), .second, .val (.int (0 : Int32))] [(.int (if (mx - ((320 : Int64) * (p3 &&& (3 : Int32)).toInt64)) < q2 then (0 : Int32) else (1 : Int32)))])) _
            refine XS.iload X11.here hx rfl (hb hby at_130) rfl ?_
            show Steps p.tables e below (T11.setTop (mkF m 132 #[.val (.long q1), .second, .val (.long q2), .second, .val (.int p3), .val (.long mx), .second, .val (.int (p3 &&& (3 : Int32))), .val (.ref b8), .val (.long ((320 : Int64) * ((p3 &&& (3 : Int32)).toInt64))), .second, .val (.int (0 : Int32))] [(.int (0 : Int32)), (.int (if (mx - ((320 : Int64) * (p3 &&& (3 : Int32)).toInt64)) < q2 then (0 : Int32) else (1 : Int32)))])) _
            refine XS.icmpNo X11.here hx rfl (hb hby at_132) rfl (teq (if_pos ((ar2 ha hp).mp hu))).2 ?_
            show Steps p.tables e below (T11.setTop (mkF m 135 #[.val (.long q1), .second, .val (.long q2), .second, .val (.int p3), .val (.long mx), .second, .val (.int (p3 &&& (3 : Int32))), .val (.ref b8), .val (.long ((320 : Int64) * ((p3 &&& (3 : Int32)).toInt64))), .second, .val (.int (0 : Int32))] [])) _
            refine XS.iconst X11.here hx rfl (hb hby at_135) ?_
            show Steps p.tables e below (T11.setTop (mkF m 136 #[.val (.long q1), .second, .val (.long q2), .second, .val (.int p3), .val (.long mx), .second, .val (.int (p3 &&& (3 : Int32))), .val (.ref b8), .val (.long ((320 : Int64) * ((p3 &&& (3 : Int32)).toInt64))), .second, .val (.int (0 : Int32))] [(.int (1 : Int32))])) _
            refine XS.goto X11.here hx rfl (pc0 := 136) (pc' := 140) rfl (hb hby at_136) (by decide) (by decide) ?_
            exact kt
          obtain ⟨fs, hr, hrun, hended, hW, hsame⟩ := X11.leave (v := some (.int (1 : Int32))) (fun h => by rw [Bd.returns] at h; cases h)
          exact ⟨_, _, retN X11 hx (t := .boolean) Bd.returns (by simp) (hb hby at_140) hr, hrun, hended, _, _, rfl, ⟨rfl, N11⟩, ⟨_, rfl⟩, hW, hsame.mono (by decide) (by decide)⟩
        · refine Ends.of (F' := Tb.setTop (mkF m 127 #[.val (.long q1), .second, .val (.long q2), .second, .val (.int p3), .val (.long mx), .second, .val (.int (p3 &&& (3 : Int32))), .val (.ref b8), .val (.long ((320 : Int64) * ((p3 &&& (3 : Int32)).toInt64))), .second, .val (.int (1 : Int32))] [(.long q2), (.ref b8)])) (fun _ kt => ?_) ?_
          · show Steps p.tables e below (Tb.setTop (mkF m 114 #[.val (.long q1), .second, .val (.long q2), .second, .val (.int p3), .val (.long mx), .second, .val (.int (p3 &&& (3 : Int32))), .val (.ref b8), .val (.long ((320 : Int64) * ((p3 &&& (3 : Int32)).toInt64))), .second, .unset] [(.int (lcmpW ((320 : Int64) * ((p3 &&& (3 : Int32)).toInt64)) (mx - q2)))])) _
            refine XS.ifNo Xb.here hx rfl (hb hby at_114) rfl ((if0 _ _).trans (flt (mt (lw_gt _ _).mp hu)).2.2.1) ?_
            show Steps p.tables e below (Tb.setTop (mkF m 117 #[.val (.long q1), .second, .val (.long q2), .second, .val (.int p3), .val (.long mx), .second, .val (.int (p3 &&& (3 : Int32))), .val (.ref b8), .val (.long ((320 : Int64) * ((p3 &&& (3 : Int32)).toInt64))), .second, .unset] [])) _
            refine XS.iconst Xb.here hx rfl (hb hby at_117) ?_
            show Steps p.tables e below (Tb.setTop (mkF m 118 #[.val (.long q1), .second, .val (.long q2), .second, .val (.int p3), .val (.long mx), .second, .val (.int (p3 &&& (3 : Int32))), .val (.ref b8), .val (.long ((320 : Int64) * ((p3 &&& (3 : Int32)).toInt64))), .second, .unset] [(.int (1 : Int32))])) _
            refine XS.goto Xb.here hx rfl (pc0 := 118) (pc' := 122) rfl (hb hby at_118) (by decide) (by decide) ?_
            show Steps p.tables e below (Tb.setTop (mkF m 122 #[.val (.long q1), .second, .val (.long q2), .second, .val (.int p3), .val (.long mx), .second, .val (.int (p3 &&& (3 : Int32))), .val (.ref b8), .val (.long ((320 : Int64) * ((p3 &&& (3 : Int32)).toInt64))), .second, .unset] [(.int (1 : Int32))])) _
            refine XS.istore Xb.here hx rfl (hb hby at_122) rfl (l' := #[.val (.long q1), .second, .val (.long q2), .second, .val (.int p3), .val (.long mx), .second, .val (.int (p3 &&& (3 : Int32))), .val (.ref b8), .val (.long ((320 : Int64) * ((p3 &&& (3 : Int32)).toInt64))), .second, .val (.int (1 : Int32))]) rfl ?_
            show Steps p.tables e below (Tb.setTop (mkF m 124 #[.val (.long q1), .second, .val (.long q2), .second, .val (.int p3), .val (.long mx), .second, .val (.int (p3 &&& (3 : Int32))), .val (.ref b8), .val (.long ((320 : Int64) * ((p3 &&& (3 : Int32)).toInt64))), .second, .val (.int (1 : Int32))] [])) _
            refine XS.aload Xb.here hx rfl (hb hby at_124) rfl rfl ?_
            show Steps p.tables e below (Tb.setTop (mkF m 126 #[.val (.long q1), .second, .val (.long q2), .second, .val (.int p3), .val (.long mx), .second, .val (.int (p3 &&& (3 : Int32))), .val (.ref b8), .val (.long ((320 : Int64) * ((p3 &&& (3 : Int32)).toInt64))), .second, .val (.int (1 : Int32))] [(.ref b8)])) _
            refine XS.lloadN Xb.here hx rfl (hb hby at_126) rfl ?_
            exact kt
          obtain ⟨cq12, kq12, q12a, q12b, q12c⟩ := isOf hZ eb Exb
          obtain ⟨_, _, ⟨T12, L12, k12, n12⟩, -, X12, ⟨Lc12, hQ12, l12, y12, z12⟩, st12⟩ := Xb.virtualBack hx (y := (⟨"com/example/tardy_post/tardypost/HeldMessages", "hasRoomFor", "(J)Z"⟩ : MethodName)) (z := (⟨"com/example/tardy_post/tardypost/HeldMessages", "hasRoomFor", "(J)Z"⟩ : MethodName)) hown (mvT hZ (hw _ (List.mem_of_getElem? (i := 17) rfl))) (mvT hZ (hw _ (List.mem_of_getElem? (i := 18) rfl))) (notFace_of_selects (args := #[]) (mvT hZ (hw _ (List.mem_of_getElem? (i := 20) rfl)))) (mvT hZ (hw _ (List.mem_of_getElem? (i := 20) rfl))) (mvT hZ (hw _ (List.mem_of_getElem? (i := 19) rfl))) (by decide) (backOf (W := 0) (rm4 l Z a0 hw [] b8 q2 mx ((320 : Int64) * (p3 &&& (3 : Int32)).toInt64) hB n0 Zb Fmb Fhb) hZ (hw _ (List.mem_of_getElem? (i := 21) rfl)) (hw _ (List.mem_of_getElem? (i := 7) rfl)) (by decide) (by decide)) q12a q12c (g := (mkF m 127 #[.val (.long q1), .second, .val (.long q2), .second, .val (.int p3), .val (.long mx), .second, .val (.int (p3 &&& (3 : Int32))), .val (.ref b8), .val (.long ((320 : Int64) * ((p3 &&& (3 : Int32)).toInt64))), .second, .val (.int (1 : Int32))] [(.long q2), (.ref b8)])) rfl (by rw [hml]; rfl) (Steps.refl _) (argsL := [(.long q2)]) (rest := []) (lenOf pd_3 rfl) rfl (by show 2 * 0 + _ ≤ _; exact Nat.le_of_eq rfl) (hb hby at_127) (fun _ _ => ⟨rfl, eb, (by decide : 1 + 0 ≤ _), (by decide : 2 + 0 ≤ _)⟩)
          dsimp only [Pt.U, Pt.locs, Pt.cells, Pt.slots] at X12 l12 y12 z12 st12 hQ12
          subst l12 y12 z12
          obtain ⟨rfl, N12q, e12⟩ := hQ12
          have N12 := Fr.app Nb N12q
          refine Ends.st st12 ?_
          refine Ends.of (F' := T12.setTop (mkF m 140 #[.val (.long q1), .second, .val (.long q2), .second, .val (.int p3), .val (.long mx), .second, .val (.int (p3 &&& (3 : Int32))), .val (.ref b8), .val (.long ((320 : Int64) * ((p3 &&& (3 : Int32)).toInt64))), .second, .val (.int (1 : Int32))] [(.int (1 : Int32))])) (fun _ kt => ?_) ?_
          · show Steps p.tables e below (T12.setTop (mkF m 130 #[.val (.long q1), .second, .val (.long q2), .second, .val (.int p3), .val (.long mx), .second, .val (.int (p3 &&& (3 : Int32))), .val (.ref b8), .val (.long ((320 : Int64) * ((p3 &&& (3 : Int32)).toInt64))), .second, .val (.int (1 : Int32))] [(.int (if (mx - ((320 : Int64) * (p3 &&& (3 : Int32)).toInt64)) < q2 then (0 : Int32) else (1 : Int32)))])) _
            refine XS.iload X12.here hx rfl (hb hby at_130) rfl ?_
            show Steps p.tables e below (T12.setTop (mkF m 132 #[.val (.long q1), .second, .val (.long q2), .second, .val (.int p3), .val (.long mx), .second, .val (.int (p3 &&& (3 : Int32))), .val (.ref b8), .val (.long ((320 : Int64) * ((p3 &&& (3 : Int32)).toInt64))), .second, .val (.int (1 : Int32))] [(.int (1 : Int32)), (.int (if (mx - ((320 : Int64) * (p3 &&& (3 : Int32)).toInt64)) < q2 then (0 : Int32) else (1 : Int32)))])) _
            refine XS.icmpNo X12.here hx rfl (hb hby at_132) rfl (teq (if_neg (mt (ar2 ha hp).mpr hu))).2 ?_
            show Steps p.tables e below (T12.setTop (mkF m 135 #[.val (.long q1), .second, .val (.long q2), .second, .val (.int p3), .val (.long mx), .second, .val (.int (p3 &&& (3 : Int32))), .val (.ref b8), .val (.long ((320 : Int64) * ((p3 &&& (3 : Int32)).toInt64))), .second, .val (.int (1 : Int32))] [])) _
            refine XS.iconst X12.here hx rfl (hb hby at_135) ?_
            show Steps p.tables e below (T12.setTop (mkF m 136 #[.val (.long q1), .second, .val (.long q2), .second, .val (.int p3), .val (.long mx), .second, .val (.int (p3 &&& (3 : Int32))), .val (.ref b8), .val (.long ((320 : Int64) * ((p3 &&& (3 : Int32)).toInt64))), .second, .val (.int (1 : Int32))] [(.int (1 : Int32))])) _
            refine XS.goto X12.here hx rfl (pc0 := 136) (pc' := 140) rfl (hb hby at_136) (by decide) (by decide) ?_
            exact kt
          obtain ⟨fs, hr, hrun, hended, hW, hsame⟩ := X12.leave (v := some (.int (1 : Int32))) (fun h => by rw [Bd.returns] at h; cases h)
          exact ⟨_, _, retN X12 hx (t := .boolean) Bd.returns (by simp) (hb hby at_140) hr, hrun, hended, _, _, rfl, ⟨rfl, N12⟩, ⟨_, rfl⟩, hW, hsame.mono (by decide) (by decide)⟩
      · refine Ends.of (F' := Tb.setTop (mkF m 94 #[.val (.long q1), .second, .val (.long q2), .second, .val (.int p3), .val (.long mx), .second, .val (.int (p3 &&& (3 : Int32))), .val (.ref b8), .val (.long ((320 : Int64) * ((p3 &&& (3 : Int32)).toInt64))), .second, .unset] [(.int (lcmpW (q2 + ((320 : Int64) * ((p3 &&& (3 : Int32)).toInt64))) mx))])) (fun _ kt => ?_) ?_
        · show Steps p.tables e below (Tb.setTop (mkF m 84 #[.val (.long q1), .second, .val (.long q2), .second, .val (.int p3), .val (.long mx), .second, .val (.int (p3 &&& (3 : Int32))), .val (.ref b8), .val (.long ((320 : Int64) * ((p3 &&& (3 : Int32)).toInt64))), .second, .unset] [(.int (lcmpW q2 (0 : Int64)))])) _
          refine XS.ifNo Xb.here hx rfl (hb hby at_84) rfl ((if0 _ _).trans (flt (mt (lw_gt _ _).mp hp)).2.2.1) ?_
          show Steps p.tables e below (Tb.setTop (mkF m 87 #[.val (.long q1), .second, .val (.long q2), .second, .val (.int p3), .val (.long mx), .second, .val (.int (p3 &&& (3 : Int32))), .val (.ref b8), .val (.long ((320 : Int64) * ((p3 &&& (3 : Int32)).toInt64))), .second, .unset] [])) _
          refine XS.lloadN Xb.here hx rfl (hb hby at_87) rfl ?_
          show Steps p.tables e below (Tb.setTop (mkF m 88 #[.val (.long q1), .second, .val (.long q2), .second, .val (.int p3), .val (.long mx), .second, .val (.int (p3 &&& (3 : Int32))), .val (.ref b8), .val (.long ((320 : Int64) * ((p3 &&& (3 : Int32)).toInt64))), .second, .unset] [(.long q2)])) _
          refine XS.lload Xb.here hx rfl (hb hby at_88) rfl ?_
          show Steps p.tables e below (Tb.setTop (mkF m 90 #[.val (.long q1), .second, .val (.long q2), .second, .val (.int p3), .val (.long mx), .second, .val (.int (p3 &&& (3 : Int32))), .val (.ref b8), .val (.long ((320 : Int64) * ((p3 &&& (3 : Int32)).toInt64))), .second, .unset] [(.long ((320 : Int64) * ((p3 &&& (3 : Int32)).toInt64))), (.long q2)])) _
          refine XS.ladd Xb.here hx rfl (hb hby at_90) rfl ?_
          show Steps p.tables e below (Tb.setTop (mkF m 91 #[.val (.long q1), .second, .val (.long q2), .second, .val (.int p3), .val (.long mx), .second, .val (.int (p3 &&& (3 : Int32))), .val (.ref b8), .val (.long ((320 : Int64) * ((p3 &&& (3 : Int32)).toInt64))), .second, .unset] [(.long (q2 + ((320 : Int64) * ((p3 &&& (3 : Int32)).toInt64))))])) _
          refine XS.lload Xb.here hx rfl (hb hby at_91) rfl ?_
          show Steps p.tables e below (Tb.setTop (mkF m 93 #[.val (.long q1), .second, .val (.long q2), .second, .val (.int p3), .val (.long mx), .second, .val (.int (p3 &&& (3 : Int32))), .val (.ref b8), .val (.long ((320 : Int64) * ((p3 &&& (3 : Int32)).toInt64))), .second, .unset] [(.long mx), (.long (q2 + ((320 : Int64) * ((p3 &&& (3 : Int32)).toInt64))))])) _
          refine XS.lcmp Xb.here hx rfl (hb hby at_93) rfl ?_
          exact kt
        by_cases hu : mx < (q2 + ((320 : Int64) * (p3 &&& (3 : Int32)).toInt64))
        · refine Ends.of (F' := Tb.setTop (mkF m 127 #[.val (.long q1), .second, .val (.long q2), .second, .val (.int p3), .val (.long mx), .second, .val (.int (p3 &&& (3 : Int32))), .val (.ref b8), .val (.long ((320 : Int64) * ((p3 &&& (3 : Int32)).toInt64))), .second, .val (.int (0 : Int32))] [(.long q2), (.ref b8)])) (fun _ kt => ?_) ?_
          · show Steps p.tables e below (Tb.setTop (mkF m 94 #[.val (.long q1), .second, .val (.long q2), .second, .val (.int p3), .val (.long mx), .second, .val (.int (p3 &&& (3 : Int32))), .val (.ref b8), .val (.long ((320 : Int64) * ((p3 &&& (3 : Int32)).toInt64))), .second, .unset] [(.int (lcmpW (q2 + ((320 : Int64) * ((p3 &&& (3 : Int32)).toInt64))) mx))])) _
            refine XS.ifYes Xb.here hx rfl (pc0 := 94) (pc' := 101) rfl (hb hby at_94) rfl ((if0 _ _).trans (tlt ((lw_gt _ _).mpr hu)).2.2.1) (by decide) (by decide) ?_
            show Steps p.tables e below (Tb.setTop (mkF m 101 #[.val (.long q1), .second, .val (.long q2), .second, .val (.int p3), .val (.long mx), .second, .val (.int (p3 &&& (3 : Int32))), .val (.ref b8), .val (.long ((320 : Int64) * ((p3 &&& (3 : Int32)).toInt64))), .second, .unset] [])) _
            refine XS.iconst Xb.here hx rfl (hb hby at_101) ?_
            show Steps p.tables e below (Tb.setTop (mkF m 102 #[.val (.long q1), .second, .val (.long q2), .second, .val (.int p3), .val (.long mx), .second, .val (.int (p3 &&& (3 : Int32))), .val (.ref b8), .val (.long ((320 : Int64) * ((p3 &&& (3 : Int32)).toInt64))), .second, .unset] [(.int (0 : Int32))])) _
            refine XS.istore Xb.here hx rfl (hb hby at_102) rfl (l' := #[.val (.long q1), .second, .val (.long q2), .second, .val (.int p3), .val (.long mx), .second, .val (.int (p3 &&& (3 : Int32))), .val (.ref b8), .val (.long ((320 : Int64) * ((p3 &&& (3 : Int32)).toInt64))), .second, .val (.int (0 : Int32))]) rfl ?_
            show Steps p.tables e below (Tb.setTop (mkF m 104 #[.val (.long q1), .second, .val (.long q2), .second, .val (.int p3), .val (.long mx), .second, .val (.int (p3 &&& (3 : Int32))), .val (.ref b8), .val (.long ((320 : Int64) * ((p3 &&& (3 : Int32)).toInt64))), .second, .val (.int (0 : Int32))] [])) _
            refine XS.goto Xb.here hx rfl (pc0 := 104) (pc' := 124) rfl (hb hby at_104) (by decide) (by decide) ?_
            show Steps p.tables e below (Tb.setTop (mkF m 124 #[.val (.long q1), .second, .val (.long q2), .second, .val (.int p3), .val (.long mx), .second, .val (.int (p3 &&& (3 : Int32))), .val (.ref b8), .val (.long ((320 : Int64) * ((p3 &&& (3 : Int32)).toInt64))), .second, .val (.int (0 : Int32))] [])) _
            refine XS.aload Xb.here hx rfl (hb hby at_124) rfl rfl ?_
            show Steps p.tables e below (Tb.setTop (mkF m 126 #[.val (.long q1), .second, .val (.long q2), .second, .val (.int p3), .val (.long mx), .second, .val (.int (p3 &&& (3 : Int32))), .val (.ref b8), .val (.long ((320 : Int64) * ((p3 &&& (3 : Int32)).toInt64))), .second, .val (.int (0 : Int32))] [(.ref b8)])) _
            refine XS.lloadN Xb.here hx rfl (hb hby at_126) rfl ?_
            exact kt
          obtain ⟨cq13, kq13, q13a, q13b, q13c⟩ := isOf hZ eb Exb
          obtain ⟨_, _, ⟨T13, L13, k13, n13⟩, -, X13, ⟨Lc13, hQ13, l13, y13, z13⟩, st13⟩ := Xb.virtualBack hx (y := (⟨"com/example/tardy_post/tardypost/HeldMessages", "hasRoomFor", "(J)Z"⟩ : MethodName)) (z := (⟨"com/example/tardy_post/tardypost/HeldMessages", "hasRoomFor", "(J)Z"⟩ : MethodName)) hown (mvT hZ (hw _ (List.mem_of_getElem? (i := 17) rfl))) (mvT hZ (hw _ (List.mem_of_getElem? (i := 18) rfl))) (notFace_of_selects (args := #[]) (mvT hZ (hw _ (List.mem_of_getElem? (i := 20) rfl)))) (mvT hZ (hw _ (List.mem_of_getElem? (i := 20) rfl))) (mvT hZ (hw _ (List.mem_of_getElem? (i := 19) rfl))) (by decide) (backOf (W := 0) (rm4 l Z a0 hw [] b8 q2 mx ((320 : Int64) * (p3 &&& (3 : Int32)).toInt64) hB n0 Zb Fmb Fhb) hZ (hw _ (List.mem_of_getElem? (i := 21) rfl)) (hw _ (List.mem_of_getElem? (i := 7) rfl)) (by decide) (by decide)) q13a q13c (g := (mkF m 127 #[.val (.long q1), .second, .val (.long q2), .second, .val (.int p3), .val (.long mx), .second, .val (.int (p3 &&& (3 : Int32))), .val (.ref b8), .val (.long ((320 : Int64) * ((p3 &&& (3 : Int32)).toInt64))), .second, .val (.int (0 : Int32))] [(.long q2), (.ref b8)])) rfl (by rw [hml]; rfl) (Steps.refl _) (argsL := [(.long q2)]) (rest := []) (lenOf pd_3 rfl) rfl (by show 2 * 0 + _ ≤ _; exact Nat.le_of_eq rfl) (hb hby at_127) (fun _ _ => ⟨rfl, eb, (by decide : 1 + 0 ≤ _), (by decide : 2 + 0 ≤ _)⟩)
          dsimp only [Pt.U, Pt.locs, Pt.cells, Pt.slots] at X13 l13 y13 z13 st13 hQ13
          subst l13 y13 z13
          obtain ⟨rfl, N13q, e13⟩ := hQ13
          have N13 := Fr.app Nb N13q
          refine Ends.st st13 ?_
          refine Ends.of (F' := T13.setTop (mkF m 140 #[.val (.long q1), .second, .val (.long q2), .second, .val (.int p3), .val (.long mx), .second, .val (.int (p3 &&& (3 : Int32))), .val (.ref b8), .val (.long ((320 : Int64) * ((p3 &&& (3 : Int32)).toInt64))), .second, .val (.int (0 : Int32))] [(.int (1 : Int32))])) (fun _ kt => ?_) ?_
          · show Steps p.tables e below (T13.setTop (mkF m 130 #[.val (.long q1), .second, .val (.long q2), .second, .val (.int p3), .val (.long mx), .second, .val (.int (p3 &&& (3 : Int32))), .val (.ref b8), .val (.long ((320 : Int64) * ((p3 &&& (3 : Int32)).toInt64))), .second, .val (.int (0 : Int32))] [(.int (if (mx - ((320 : Int64) * (p3 &&& (3 : Int32)).toInt64)) < q2 then (0 : Int32) else (1 : Int32)))])) _
            refine XS.iload X13.here hx rfl (hb hby at_130) rfl ?_
            show Steps p.tables e below (T13.setTop (mkF m 132 #[.val (.long q1), .second, .val (.long q2), .second, .val (.int p3), .val (.long mx), .second, .val (.int (p3 &&& (3 : Int32))), .val (.ref b8), .val (.long ((320 : Int64) * ((p3 &&& (3 : Int32)).toInt64))), .second, .val (.int (0 : Int32))] [(.int (0 : Int32)), (.int (if (mx - ((320 : Int64) * (p3 &&& (3 : Int32)).toInt64)) < q2 then (0 : Int32) else (1 : Int32)))])) _
            refine XS.icmpNo X13.here hx rfl (hb hby at_132) rfl (teq (if_pos ((ar3 ha hp).mp hu))).2 ?_
            show Steps p.tables e below (T13.setTop (mkF m 135 #[.val (.long q1), .second, .val (.long q2), .second, .val (.int p3), .val (.long mx), .second, .val (.int (p3 &&& (3 : Int32))), .val (.ref b8), .val (.long ((320 : Int64) * ((p3 &&& (3 : Int32)).toInt64))), .second, .val (.int (0 : Int32))] [])) _
            refine XS.iconst X13.here hx rfl (hb hby at_135) ?_
            show Steps p.tables e below (T13.setTop (mkF m 136 #[.val (.long q1), .second, .val (.long q2), .second, .val (.int p3), .val (.long mx), .second, .val (.int (p3 &&& (3 : Int32))), .val (.ref b8), .val (.long ((320 : Int64) * ((p3 &&& (3 : Int32)).toInt64))), .second, .val (.int (0 : Int32))] [(.int (1 : Int32))])) _
            refine XS.goto X13.here hx rfl (pc0 := 136) (pc' := 140) rfl (hb hby at_136) (by decide) (by decide) ?_
            exact kt
          obtain ⟨fs, hr, hrun, hended, hW, hsame⟩ := X13.leave (v := some (.int (1 : Int32))) (fun h => by rw [Bd.returns] at h; cases h)
          exact ⟨_, _, retN X13 hx (t := .boolean) Bd.returns (by simp) (hb hby at_140) hr, hrun, hended, _, _, rfl, ⟨rfl, N13⟩, ⟨_, rfl⟩, hW, hsame.mono (by decide) (by decide)⟩
        · refine Ends.of (F' := Tb.setTop (mkF m 127 #[.val (.long q1), .second, .val (.long q2), .second, .val (.int p3), .val (.long mx), .second, .val (.int (p3 &&& (3 : Int32))), .val (.ref b8), .val (.long ((320 : Int64) * ((p3 &&& (3 : Int32)).toInt64))), .second, .val (.int (1 : Int32))] [(.long q2), (.ref b8)])) (fun _ kt => ?_) ?_
          · show Steps p.tables e below (Tb.setTop (mkF m 94 #[.val (.long q1), .second, .val (.long q2), .second, .val (.int p3), .val (.long mx), .second, .val (.int (p3 &&& (3 : Int32))), .val (.ref b8), .val (.long ((320 : Int64) * ((p3 &&& (3 : Int32)).toInt64))), .second, .unset] [(.int (lcmpW (q2 + ((320 : Int64) * ((p3 &&& (3 : Int32)).toInt64))) mx))])) _
            refine XS.ifNo Xb.here hx rfl (hb hby at_94) rfl ((if0 _ _).trans (flt (mt (lw_gt _ _).mp hu)).2.2.1) ?_
            show Steps p.tables e below (Tb.setTop (mkF m 97 #[.val (.long q1), .second, .val (.long q2), .second, .val (.int p3), .val (.long mx), .second, .val (.int (p3 &&& (3 : Int32))), .val (.ref b8), .val (.long ((320 : Int64) * ((p3 &&& (3 : Int32)).toInt64))), .second, .unset] [])) _
            refine XS.iconst Xb.here hx rfl (hb hby at_97) ?_
            show Steps p.tables e below (Tb.setTop (mkF m 98 #[.val (.long q1), .second, .val (.long q2), .second, .val (.int p3), .val (.long mx), .second, .val (.int (p3 &&& (3 : Int32))), .val (.ref b8), .val (.long ((320 : Int64) * ((p3 &&& (3 : Int32)).toInt64))), .second, .unset] [(.int (1 : Int32))])) _
            refine XS.goto Xb.here hx rfl (pc0 := 98) (pc' := 102) rfl (hb hby at_98) (by decide) (by decide) ?_
            show Steps p.tables e below (Tb.setTop (mkF m 102 #[.val (.long q1), .second, .val (.long q2), .second, .val (.int p3), .val (.long mx), .second, .val (.int (p3 &&& (3 : Int32))), .val (.ref b8), .val (.long ((320 : Int64) * ((p3 &&& (3 : Int32)).toInt64))), .second, .unset] [(.int (1 : Int32))])) _
            refine XS.istore Xb.here hx rfl (hb hby at_102) rfl (l' := #[.val (.long q1), .second, .val (.long q2), .second, .val (.int p3), .val (.long mx), .second, .val (.int (p3 &&& (3 : Int32))), .val (.ref b8), .val (.long ((320 : Int64) * ((p3 &&& (3 : Int32)).toInt64))), .second, .val (.int (1 : Int32))]) rfl ?_
            show Steps p.tables e below (Tb.setTop (mkF m 104 #[.val (.long q1), .second, .val (.long q2), .second, .val (.int p3), .val (.long mx), .second, .val (.int (p3 &&& (3 : Int32))), .val (.ref b8), .val (.long ((320 : Int64) * ((p3 &&& (3 : Int32)).toInt64))), .second, .val (.int (1 : Int32))] [])) _
            refine XS.goto Xb.here hx rfl (pc0 := 104) (pc' := 124) rfl (hb hby at_104) (by decide) (by decide) ?_
            show Steps p.tables e below (Tb.setTop (mkF m 124 #[.val (.long q1), .second, .val (.long q2), .second, .val (.int p3), .val (.long mx), .second, .val (.int (p3 &&& (3 : Int32))), .val (.ref b8), .val (.long ((320 : Int64) * ((p3 &&& (3 : Int32)).toInt64))), .second, .val (.int (1 : Int32))] [])) _
            refine XS.aload Xb.here hx rfl (hb hby at_124) rfl rfl ?_
            show Steps p.tables e below (Tb.setTop (mkF m 126 #[.val (.long q1), .second, .val (.long q2), .second, .val (.int p3), .val (.long mx), .second, .val (.int (p3 &&& (3 : Int32))), .val (.ref b8), .val (.long ((320 : Int64) * ((p3 &&& (3 : Int32)).toInt64))), .second, .val (.int (1 : Int32))] [(.ref b8)])) _
            refine XS.lloadN Xb.here hx rfl (hb hby at_126) rfl ?_
            exact kt
          obtain ⟨cq14, kq14, q14a, q14b, q14c⟩ := isOf hZ eb Exb
          obtain ⟨_, _, ⟨T14, L14, k14, n14⟩, -, X14, ⟨Lc14, hQ14, l14, y14, z14⟩, st14⟩ := Xb.virtualBack hx (y := (⟨"com/example/tardy_post/tardypost/HeldMessages", "hasRoomFor", "(J)Z"⟩ : MethodName)) (z := (⟨"com/example/tardy_post/tardypost/HeldMessages", "hasRoomFor", "(J)Z"⟩ : MethodName)) hown (mvT hZ (hw _ (List.mem_of_getElem? (i := 17) rfl))) (mvT hZ (hw _ (List.mem_of_getElem? (i := 18) rfl))) (notFace_of_selects (args := #[]) (mvT hZ (hw _ (List.mem_of_getElem? (i := 20) rfl)))) (mvT hZ (hw _ (List.mem_of_getElem? (i := 20) rfl))) (mvT hZ (hw _ (List.mem_of_getElem? (i := 19) rfl))) (by decide) (backOf (W := 0) (rm4 l Z a0 hw [] b8 q2 mx ((320 : Int64) * (p3 &&& (3 : Int32)).toInt64) hB n0 Zb Fmb Fhb) hZ (hw _ (List.mem_of_getElem? (i := 21) rfl)) (hw _ (List.mem_of_getElem? (i := 7) rfl)) (by decide) (by decide)) q14a q14c (g := (mkF m 127 #[.val (.long q1), .second, .val (.long q2), .second, .val (.int p3), .val (.long mx), .second, .val (.int (p3 &&& (3 : Int32))), .val (.ref b8), .val (.long ((320 : Int64) * ((p3 &&& (3 : Int32)).toInt64))), .second, .val (.int (1 : Int32))] [(.long q2), (.ref b8)])) rfl (by rw [hml]; rfl) (Steps.refl _) (argsL := [(.long q2)]) (rest := []) (lenOf pd_3 rfl) rfl (by show 2 * 0 + _ ≤ _; exact Nat.le_of_eq rfl) (hb hby at_127) (fun _ _ => ⟨rfl, eb, (by decide : 1 + 0 ≤ _), (by decide : 2 + 0 ≤ _)⟩)
          dsimp only [Pt.U, Pt.locs, Pt.cells, Pt.slots] at X14 l14 y14 z14 st14 hQ14
          subst l14 y14 z14
          obtain ⟨rfl, N14q, e14⟩ := hQ14
          have N14 := Fr.app Nb N14q
          refine Ends.st st14 ?_
          refine Ends.of (F' := T14.setTop (mkF m 140 #[.val (.long q1), .second, .val (.long q2), .second, .val (.int p3), .val (.long mx), .second, .val (.int (p3 &&& (3 : Int32))), .val (.ref b8), .val (.long ((320 : Int64) * ((p3 &&& (3 : Int32)).toInt64))), .second, .val (.int (1 : Int32))] [(.int (1 : Int32))])) (fun _ kt => ?_) ?_
          · show Steps p.tables e below (T14.setTop (mkF m 130 #[.val (.long q1), .second, .val (.long q2), .second, .val (.int p3), .val (.long mx), .second, .val (.int (p3 &&& (3 : Int32))), .val (.ref b8), .val (.long ((320 : Int64) * ((p3 &&& (3 : Int32)).toInt64))), .second, .val (.int (1 : Int32))] [(.int (if (mx - ((320 : Int64) * (p3 &&& (3 : Int32)).toInt64)) < q2 then (0 : Int32) else (1 : Int32)))])) _
            refine XS.iload X14.here hx rfl (hb hby at_130) rfl ?_
            show Steps p.tables e below (T14.setTop (mkF m 132 #[.val (.long q1), .second, .val (.long q2), .second, .val (.int p3), .val (.long mx), .second, .val (.int (p3 &&& (3 : Int32))), .val (.ref b8), .val (.long ((320 : Int64) * ((p3 &&& (3 : Int32)).toInt64))), .second, .val (.int (1 : Int32))] [(.int (1 : Int32)), (.int (if (mx - ((320 : Int64) * (p3 &&& (3 : Int32)).toInt64)) < q2 then (0 : Int32) else (1 : Int32)))])) _
            refine XS.icmpNo X14.here hx rfl (hb hby at_132) rfl (teq (if_neg (mt (ar3 ha hp).mpr hu))).2 ?_
            show Steps p.tables e below (T14.setTop (mkF m 135 #[.val (.long q1), .second, .val (.long q2), .second, .val (.int p3), .val (.long mx), .second, .val (.int (p3 &&& (3 : Int32))), .val (.ref b8), .val (.long ((320 : Int64) * ((p3 &&& (3 : Int32)).toInt64))), .second, .val (.int (1 : Int32))] [])) _
            refine XS.iconst X14.here hx rfl (hb hby at_135) ?_
            show Steps p.tables e below (T14.setTop (mkF m 136 #[.val (.long q1), .second, .val (.long q2), .second, .val (.int p3), .val (.long mx), .second, .val (.int (p3 &&& (3 : Int32))), .val (.ref b8), .val (.long ((320 : Int64) * ((p3 &&& (3 : Int32)).toInt64))), .second, .val (.int (1 : Int32))] [(.int (1 : Int32))])) _
            refine XS.goto X14.here hx rfl (pc0 := 136) (pc' := 140) rfl (hb hby at_136) (by decide) (by decide) ?_
            exact kt
          obtain ⟨fs, hr, hrun, hended, hW, hsame⟩ := X14.leave (v := some (.int (1 : Int32))) (fun h => by rw [Bd.returns] at h; cases h)
          exact ⟨_, _, retN X14 hx (t := .boolean) Bd.returns (by simp) (hb hby at_140) hr, hrun, hended, _, _, rfl, ⟨rfl, N14⟩, ⟨_, rfl⟩, hW, hsame.mono (by decide) (by decide)⟩
  by_cases hk1 : (p3 &&& (3 : Int32)) < (1 : Int32)
  · refine Ends.of (F' := T9.setTop (mkF m 59 #[.val (.long q1), .second, .val (.long q2), .second, .val (.int p3), .val (.long mx), .second, .val (.int (p3 &&& (3 : Int32))), .val (.ref b8), .unset, .unset, .unset] [])) (fun _ kt => ?_) ?_
    · show Steps p.tables e below (T9.setTop (mkF m 29 #[.val (.long q1), .second, .val (.long q2), .second, .val (.int p3), .val (.long mx), .second, .val (.int (p3 &&& (3 : Int32))), .val (.ref b8), .unset, .unset, .unset] [(.int (1 : Int32)), (.int (p3 &&& (3 : Int32)))])) _
      refine XS.icmpYes X9.here hx rfl (pc0 := 29) (pc' := 37) rfl (hb hby at_29) rfl (tlt hk1).1 (by decide) (by decide) ?_
      show Steps p.tables e below (T9.setTop (mkF m 37 #[.val (.long q1), .second, .val (.long q2), .second, .val (.int p3), .val (.long mx), .second, .val (.int (p3 &&& (3 : Int32))), .val (.ref b8), .unset, .unset, .unset] [])) _
      refine XS.iload X9.here hx rfl (hb hby at_37) rfl ?_
      show Steps p.tables e below (T9.setTop (mkF m 39 #[.val (.long q1), .second, .val (.long q2), .second, .val (.int p3), .val (.long mx), .second, .val (.int (p3 &&& (3 : Int32))), .val (.ref b8), .unset, .unset, .unset] [(.int (p3 &&& (3 : Int32)))])) _
      refine XS.iconst X9.here hx rfl (hb hby at_39) ?_
      show Steps p.tables e below (T9.setTop (mkF m 40 #[.val (.long q1), .second, .val (.long q2), .second, .val (.int p3), .val (.long mx), .second, .val (.int (p3 &&& (3 : Int32))), .val (.ref b8), .unset, .unset, .unset] [(.int (2 : Int32)), (.int (p3 &&& (3 : Int32)))])) _
      refine XS.icmpYes X9.here hx rfl (pc0 := 40) (pc' := 48) rfl (hb hby at_40) rfl (tlt (Int32.lt_trans hk1 (by decide))).1 (by decide) (by decide) ?_
      show Steps p.tables e below (T9.setTop (mkF m 48 #[.val (.long q1), .second, .val (.long q2), .second, .val (.int p3), .val (.long mx), .second, .val (.int (p3 &&& (3 : Int32))), .val (.ref b8), .unset, .unset, .unset] [])) _
      refine XS.iload X9.here hx rfl (hb hby at_48) rfl ?_
      show Steps p.tables e below (T9.setTop (mkF m 50 #[.val (.long q1), .second, .val (.long q2), .second, .val (.int p3), .val (.long mx), .second, .val (.int (p3 &&& (3 : Int32))), .val (.ref b8), .unset, .unset, .unset] [(.int (p3 &&& (3 : Int32)))])) _
      refine XS.iconst X9.here hx rfl (hb hby at_50) ?_
      show Steps p.tables e below (T9.setTop (mkF m 51 #[.val (.long q1), .second, .val (.long q2), .second, .val (.int p3), .val (.long mx), .second, .val (.int (p3 &&& (3 : Int32))), .val (.ref b8), .unset, .unset, .unset] [(.int (3 : Int32)), (.int (p3 &&& (3 : Int32)))])) _
      refine XS.icmpYes X9.here hx rfl (pc0 := 51) (pc' := 59) rfl (hb hby at_51) rfl (tlt (Int32.lt_trans hk1 (by decide))).1 (by decide) (by decide) ?_
      exact kt
    exact blk _ _ _ X9 rfl N9 Z2 Ex9 Fm9 (by rw [← own_eq p3 (0 : Int64) 0 (by decide) (own_k0 p3 hk1)]; exact Fh9)
  · refine Ends.of (F' := T9.setTop (mkF m 34 #[.val (.long q1), .second, .val (.long q2), .second, .val (.int p3), .val (.long mx), .second, .val (.int (p3 &&& (3 : Int32))), .val (.ref b8), .unset, .unset, .unset] [(.ref b8)])) (fun _ kt => ?_) ?_
    · show Steps p.tables e below (T9.setTop (mkF m 29 #[.val (.long q1), .second, .val (.long q2), .second, .val (.int p3), .val (.long mx), .second, .val (.int (p3 &&& (3 : Int32))), .val (.ref b8), .unset, .unset, .unset] [(.int (1 : Int32)), (.int (p3 &&& (3 : Int32)))])) _
      refine XS.icmpNo X9.here hx rfl (hb hby at_29) rfl (flt hk1).1 ?_
      show Steps p.tables e below (T9.setTop (mkF m 32 #[.val (.long q1), .second, .val (.long q2), .second, .val (.int p3), .val (.long mx), .second, .val (.int (p3 &&& (3 : Int32))), .val (.ref b8), .unset, .unset, .unset] [])) _
      refine XS.aload X9.here hx rfl (hb hby at_32) rfl rfl ?_
      exact kt
    obtain ⟨cq15, kq15, q15a, q15b, q15c⟩ := isOf hZ rfl Ex9
    obtain ⟨_, _, ⟨T15, L15, k15, n15⟩, -, X15, ⟨Lc15, hQ15, l15, y15, z15⟩, st15⟩ := X9.virtualBack hx (y := (⟨"com/example/tardy_post/tardypost/HeldMessages", "holdAwaited", "()V"⟩ : MethodName)) (z := (⟨"com/example/tardy_post/tardypost/HeldMessages", "holdAwaited", "()V"⟩ : MethodName)) hown (mvT hZ (hw _ (List.mem_of_getElem? (i := 24) rfl))) (mvT hZ (hw _ (List.mem_of_getElem? (i := 25) rfl))) (notFace_of_selects (args := #[]) (mvT hZ (hw _ (List.mem_of_getElem? (i := 27) rfl)))) (mvT hZ (hw _ (List.mem_of_getElem? (i := 27) rfl))) (mvT hZ (hw _ (List.mem_of_getElem? (i := 26) rfl))) (by decide) (backOf (W := 0) (rm5 l Z a0 hw [] b8 mx (0 : Int64) T9.heap n0 Z2 Ex9 Fm9 Fh9 gb) hZ (hw _ (List.mem_of_getElem? (i := 28) rfl)) (hw _ (List.mem_of_getElem? (i := 7) rfl)) (by decide) (by decide)) q15a q15c (g := (mkF m 34 #[.val (.long q1), .second, .val (.long q2), .second, .val (.int p3), .val (.long mx), .second, .val (.int (p3 &&& (3 : Int32))), .val (.ref b8), .unset, .unset, .unset] [(.ref b8)])) rfl (by rw [hml]; rfl) (Steps.refl _) (argsL := []) (rest := []) (lenOf pd_2 rfl) rfl (by show 2 * 0 + _ ≤ _; exact Nat.le_of_eq rfl) (hb hby at_34) (fun _ _ => ⟨rfl, rfl, (by decide : 1 + 0 ≤ _), (by decide : 2 + 0 ≤ _)⟩)
    dsimp only [Pt.U, Pt.locs, Pt.cells, Pt.slots] at X15 l15 y15 z15 st15 hQ15
    subst l15 y15 z15
    obtain ⟨rfl, N15q, K15, Ex15, Fm15, Fh15⟩ := hQ15
    have N15 := Fr.app N9 N15q
    refine Ends.st st15 ?_
    have Zh15 : n0 ≤ T15.heap.size := Nat.le_trans Z2 K15.1
    refine Ends.of (F' := T15.setTop (mkF m 40 #[.val (.long q1), .second, .val (.long q2), .second, .val (.int p3), .val (.long mx), .second, .val (.int (p3 &&& (3 : Int32))), .val (.ref b8), .unset, .unset, .unset] [(.int (2 : Int32)), (.int (p3 &&& (3 : Int32)))])) (fun _ kt => ?_) ?_
    · show Steps p.tables e below (T15.setTop (mkF m 37 #[.val (.long q1), .second, .val (.long q2), .second, .val (.int p3), .val (.long mx), .second, .val (.int (p3 &&& (3 : Int32))), .val (.ref b8), .unset, .unset, .unset] [])) _
      refine XS.iload X15.here hx rfl (hb hby at_37) rfl ?_
      show Steps p.tables e below (T15.setTop (mkF m 39 #[.val (.long q1), .second, .val (.long q2), .second, .val (.int p3), .val (.long mx), .second, .val (.int (p3 &&& (3 : Int32))), .val (.ref b8), .unset, .unset, .unset] [(.int (p3 &&& (3 : Int32)))])) _
      refine XS.iconst X15.here hx rfl (hb hby at_39) ?_
      exact kt
    by_cases hk2 : (p3 &&& (3 : Int32)) < (2 : Int32)
    · refine Ends.of (F' := T15.setTop (mkF m 59 #[.val (.long q1), .second, .val (.long q2), .second, .val (.int p3), .val (.long mx), .second, .val (.int (p3 &&& (3 : Int32))), .val (.ref b8), .unset, .unset, .unset] [])) (fun _ kt => ?_) ?_
      · show Steps p.tables e below (T15.setTop (mkF m 40 #[.val (.long q1), .second, .val (.long q2), .second, .val (.int p3), .val (.long mx), .second, .val (.int (p3 &&& (3 : Int32))), .val (.ref b8), .unset, .unset, .unset] [(.int (2 : Int32)), (.int (p3 &&& (3 : Int32)))])) _
        refine XS.icmpYes X15.here hx rfl (pc0 := 40) (pc' := 48) rfl (hb hby at_40) rfl (tlt hk2).1 (by decide) (by decide) ?_
        show Steps p.tables e below (T15.setTop (mkF m 48 #[.val (.long q1), .second, .val (.long q2), .second, .val (.int p3), .val (.long mx), .second, .val (.int (p3 &&& (3 : Int32))), .val (.ref b8), .unset, .unset, .unset] [])) _
        refine XS.iload X15.here hx rfl (hb hby at_48) rfl ?_
        show Steps p.tables e below (T15.setTop (mkF m 50 #[.val (.long q1), .second, .val (.long q2), .second, .val (.int p3), .val (.long mx), .second, .val (.int (p3 &&& (3 : Int32))), .val (.ref b8), .unset, .unset, .unset] [(.int (p3 &&& (3 : Int32)))])) _
        refine XS.iconst X15.here hx rfl (hb hby at_50) ?_
        show Steps p.tables e below (T15.setTop (mkF m 51 #[.val (.long q1), .second, .val (.long q2), .second, .val (.int p3), .val (.long mx), .second, .val (.int (p3 &&& (3 : Int32))), .val (.ref b8), .unset, .unset, .unset] [(.int (3 : Int32)), (.int (p3 &&& (3 : Int32)))])) _
        refine XS.icmpYes X15.here hx rfl (pc0 := 51) (pc' := 59) rfl (hb hby at_51) rfl (tlt (Int32.lt_trans hk2 (by decide))).1 (by decide) (by decide) ?_
        exact kt
      exact blk _ _ _ X15 rfl N15 Zh15 Ex15 Fm15 (by rw [← own_eq p3 ((0 : Int64) + (320 : Int64)) 1 (by decide) (own_k1 p3 hk1 hk2)]; exact Fh15)
    · refine Ends.of (F' := T15.setTop (mkF m 45 #[.val (.long q1), .second, .val (.long q2), .second, .val (.int p3), .val (.long mx), .second, .val (.int (p3 &&& (3 : Int32))), .val (.ref b8), .unset, .unset, .unset] [(.ref b8)])) (fun _ kt => ?_) ?_
      · show Steps p.tables e below (T15.setTop (mkF m 40 #[.val (.long q1), .second, .val (.long q2), .second, .val (.int p3), .val (.long mx), .second, .val (.int (p3 &&& (3 : Int32))), .val (.ref b8), .unset, .unset, .unset] [(.int (2 : Int32)), (.int (p3 &&& (3 : Int32)))])) _
        refine XS.icmpNo X15.here hx rfl (hb hby at_40) rfl (flt hk2).1 ?_
        show Steps p.tables e below (T15.setTop (mkF m 43 #[.val (.long q1), .second, .val (.long q2), .second, .val (.int p3), .val (.long mx), .second, .val (.int (p3 &&& (3 : Int32))), .val (.ref b8), .unset, .unset, .unset] [])) _
        refine XS.aload X15.here hx rfl (hb hby at_43) rfl rfl ?_
        exact kt
      obtain ⟨cq16, kq16, q16a, q16b, q16c⟩ := isOf hZ rfl Ex15
      obtain ⟨_, _, ⟨T16, L16, k16, n16⟩, -, X16, ⟨Lc16, hQ16, l16, y16, z16⟩, st16⟩ := X15.virtualBack hx (y := (⟨"com/example/tardy_post/tardypost/HeldMessages", "holdAwaited", "()V"⟩ : MethodName)) (z := (⟨"com/example/tardy_post/tardypost/HeldMessages", "holdAwaited", "()V"⟩ : MethodName)) hown (mvT hZ (hw _ (List.mem_of_getElem? (i := 24) rfl))) (mvT hZ (hw _ (List.mem_of_getElem? (i := 25) rfl))) (notFace_of_selects (args := #[]) (mvT hZ (hw _ (List.mem_of_getElem? (i := 27) rfl)))) (mvT hZ (hw _ (List.mem_of_getElem? (i := 27) rfl))) (mvT hZ (hw _ (List.mem_of_getElem? (i := 26) rfl))) (by decide) (backOf (W := 0) (rm5 l Z a0 hw [] b8 mx ((0 : Int64) + (320 : Int64)) T15.heap n0 Zh15 Ex15 Fm15 Fh15 gb) hZ (hw _ (List.mem_of_getElem? (i := 28) rfl)) (hw _ (List.mem_of_getElem? (i := 7) rfl)) (by decide) (by decide)) q16a q16c (g := (mkF m 45 #[.val (.long q1), .second, .val (.long q2), .second, .val (.int p3), .val (.long mx), .second, .val (.int (p3 &&& (3 : Int32))), .val (.ref b8), .unset, .unset, .unset] [(.ref b8)])) rfl (by rw [hml]; rfl) (Steps.refl _) (argsL := []) (rest := []) (lenOf pd_2 rfl) rfl (by show 2 * 0 + _ ≤ _; exact Nat.le_of_eq rfl) (hb hby at_45) (fun _ _ => ⟨rfl, rfl, (by decide : 1 + 0 ≤ _), (by decide : 2 + 0 ≤ _)⟩)
      dsimp only [Pt.U, Pt.locs, Pt.cells, Pt.slots] at X16 l16 y16 z16 st16 hQ16
      subst l16 y16 z16
      obtain ⟨rfl, N16q, K16, Ex16, Fm16, Fh16⟩ := hQ16
      have N16 := Fr.app N15 N16q
      refine Ends.st st16 ?_
      have Zh16 : n0 ≤ T16.heap.size := Nat.le_trans Zh15 K16.1
      refine Ends.of (F' := T16.setTop (mkF m 51 #[.val (.long q1), .second, .val (.long q2), .second, .val (.int p3), .val (.long mx), .second, .val (.int (p3 &&& (3 : Int32))), .val (.ref b8), .unset, .unset, .unset] [(.int (3 : Int32)), (.int (p3 &&& (3 : Int32)))])) (fun _ kt => ?_) ?_
      · show Steps p.tables e below (T16.setTop (mkF m 48 #[.val (.long q1), .second, .val (.long q2), .second, .val (.int p3), .val (.long mx), .second, .val (.int (p3 &&& (3 : Int32))), .val (.ref b8), .unset, .unset, .unset] [])) _
        refine XS.iload X16.here hx rfl (hb hby at_48) rfl ?_
        show Steps p.tables e below (T16.setTop (mkF m 50 #[.val (.long q1), .second, .val (.long q2), .second, .val (.int p3), .val (.long mx), .second, .val (.int (p3 &&& (3 : Int32))), .val (.ref b8), .unset, .unset, .unset] [(.int (p3 &&& (3 : Int32)))])) _
        refine XS.iconst X16.here hx rfl (hb hby at_50) ?_
        exact kt
      by_cases hk3 : (p3 &&& (3 : Int32)) < (3 : Int32)
      · refine Ends.of (F' := T16.setTop (mkF m 59 #[.val (.long q1), .second, .val (.long q2), .second, .val (.int p3), .val (.long mx), .second, .val (.int (p3 &&& (3 : Int32))), .val (.ref b8), .unset, .unset, .unset] [])) (fun _ kt => ?_) ?_
        · show Steps p.tables e below (T16.setTop (mkF m 51 #[.val (.long q1), .second, .val (.long q2), .second, .val (.int p3), .val (.long mx), .second, .val (.int (p3 &&& (3 : Int32))), .val (.ref b8), .unset, .unset, .unset] [(.int (3 : Int32)), (.int (p3 &&& (3 : Int32)))])) _
          refine XS.icmpYes X16.here hx rfl (pc0 := 51) (pc' := 59) rfl (hb hby at_51) rfl (tlt hk3).1 (by decide) (by decide) ?_
          exact kt
        exact blk _ _ _ X16 rfl N16 Zh16 Ex16 Fm16 (by rw [← own_eq p3 (((0 : Int64) + (320 : Int64)) + (320 : Int64)) 2 (by decide) (own_k2 p3 hk2 hk3)]; exact Fh16)
      · refine Ends.of (F' := T16.setTop (mkF m 56 #[.val (.long q1), .second, .val (.long q2), .second, .val (.int p3), .val (.long mx), .second, .val (.int (p3 &&& (3 : Int32))), .val (.ref b8), .unset, .unset, .unset] [(.ref b8)])) (fun _ kt => ?_) ?_
        · show Steps p.tables e below (T16.setTop (mkF m 51 #[.val (.long q1), .second, .val (.long q2), .second, .val (.int p3), .val (.long mx), .second, .val (.int (p3 &&& (3 : Int32))), .val (.ref b8), .unset, .unset, .unset] [(.int (3 : Int32)), (.int (p3 &&& (3 : Int32)))])) _
          refine XS.icmpNo X16.here hx rfl (hb hby at_51) rfl (flt hk3).1 ?_
          show Steps p.tables e below (T16.setTop (mkF m 54 #[.val (.long q1), .second, .val (.long q2), .second, .val (.int p3), .val (.long mx), .second, .val (.int (p3 &&& (3 : Int32))), .val (.ref b8), .unset, .unset, .unset] [])) _
          refine XS.aload X16.here hx rfl (hb hby at_54) rfl rfl ?_
          exact kt
        obtain ⟨cq17, kq17, q17a, q17b, q17c⟩ := isOf hZ rfl Ex16
        obtain ⟨_, _, ⟨T17, L17, k17, n17⟩, -, X17, ⟨Lc17, hQ17, l17, y17, z17⟩, st17⟩ := X16.virtualBack hx (y := (⟨"com/example/tardy_post/tardypost/HeldMessages", "holdAwaited", "()V"⟩ : MethodName)) (z := (⟨"com/example/tardy_post/tardypost/HeldMessages", "holdAwaited", "()V"⟩ : MethodName)) hown (mvT hZ (hw _ (List.mem_of_getElem? (i := 24) rfl))) (mvT hZ (hw _ (List.mem_of_getElem? (i := 25) rfl))) (notFace_of_selects (args := #[]) (mvT hZ (hw _ (List.mem_of_getElem? (i := 27) rfl)))) (mvT hZ (hw _ (List.mem_of_getElem? (i := 27) rfl))) (mvT hZ (hw _ (List.mem_of_getElem? (i := 26) rfl))) (by decide) (backOf (W := 0) (rm5 l Z a0 hw [] b8 mx (((0 : Int64) + (320 : Int64)) + (320 : Int64)) T16.heap n0 Zh16 Ex16 Fm16 Fh16 gb) hZ (hw _ (List.mem_of_getElem? (i := 28) rfl)) (hw _ (List.mem_of_getElem? (i := 7) rfl)) (by decide) (by decide)) q17a q17c (g := (mkF m 56 #[.val (.long q1), .second, .val (.long q2), .second, .val (.int p3), .val (.long mx), .second, .val (.int (p3 &&& (3 : Int32))), .val (.ref b8), .unset, .unset, .unset] [(.ref b8)])) rfl (by rw [hml]; rfl) (Steps.refl _) (argsL := []) (rest := []) (lenOf pd_2 rfl) rfl (by show 2 * 0 + _ ≤ _; exact Nat.le_of_eq rfl) (hb hby at_56) (fun _ _ => ⟨rfl, rfl, (by decide : 1 + 0 ≤ _), (by decide : 2 + 0 ≤ _)⟩)
        dsimp only [Pt.U, Pt.locs, Pt.cells, Pt.slots] at X17 l17 y17 z17 st17 hQ17
        subst l17 y17 z17
        obtain ⟨rfl, N17q, K17, Ex17, Fm17, Fh17⟩ := hQ17
        have N17 := Fr.app N16 N17q
        refine Ends.st st17 ?_
        have Zh17 : n0 ≤ T17.heap.size := Nat.le_trans Zh16 K17.1
        exact blk _ _ _ X17 rfl N17 Zh17 Ex17 Fm17 (by rw [← own_eq p3 ((((0 : Int64) + (320 : Int64)) + (320 : Int64)) + (320 : Int64)) 3 (by decide) (own_k3 p3 hk3)]; exact Fh17)
set_option maxRecDepth 65536 in
set_option maxHeartbeats 40000000 in
theorem comes_1 {Post : Tables → Env → Array Value → State → Outcome → State → Prop} (hpost : ∀ tb e args s v u, (limb_1_1.after args s (.returned v) u = true ∧ limb_1_2.after args s (.returned v) u = true ∧ True) → FrameEnd s (.returned v) u (Jvm.fieldLocs frame_1_writes args s ++ Jvm.arrayLocs frame_1_arrays args s ++ Jvm.staticLocs frame_1_statics s) 16 128 → Post tb e args s (.returned v) u) :
    ArmFor flags0 classFile x code maxLocals ret World_1 tables_1 room_1 Calls_1 rest_1 Pre_1 Post := by
  intro l hfl _ _ p e ha hc hk s m args below hf hA hF happ hP
  obtain ⟨hcalls, hrest, hpre⟩ := hP
  obtain ⟨-, -, -, hnamed, -, -, -, hat⟩ := (Spec.applies_iff hf).mp happ
  obtain ⟨hg, hn⟩ := and_e (Cond.before_iff.mp (show (Jvm.Cond.and given_1 narrow_1).before args s = true from hpre))
  obtain ⟨g0, gt0⟩ := and_e hg
  obtain ⟨gv0, gt1⟩ := and_e gt0
  obtain ⟨gv1, gt2⟩ := and_e gt1
  obtain ⟨w0, w1, w2, rfl⟩ : ∃ w0 w1 w2 : Value, args = #[w0, w1, w2] := by
    have hs : args.size = 3 := by simpa [Cond.value, given_1] using g0
    obtain ⟨L⟩ := args
    match L, hs with
    | [w0, w1, w2], _ => exact ⟨w0, w1, w2, rfl⟩
  have hw := fun d (hd : d ∈ tables_1) => atoms_spec (ws := Jvm.Cond.code x code maxLocals ret :: tables_1) hat d (List.mem_cons_of_mem _ hd)
  have hfit : Fit s := fun {y c} hc i hi => by
    obtain ⟨ha, rfl⟩ := Array.getElem?_eq_some_iff.mp hc
    have q := List.all_eq_true.mp ((Array.all_eq_true_iff_forall_mem.mp hF) _ (Array.getElem_mem ha)) i (List.mem_range.mpr hi)
    simpa [Array.getElem?_eq_getElem hi] using q
  obtain ⟨i0, ei0⟩ := isL_v gv0
  obtain rfl : w0 = (.long i0) := Option.some.inj ei0
  obtain ⟨i1, ei1⟩ := isL_v gv1
  obtain rfl : w1 = (.long i1) := Option.some.inj ei1
  obtain ⟨i2, ei2⟩ := is_v gt2
  obtain rfl : w2 = (.int i2) := Option.some.inj ei2
  obtain ⟨n, o, h1, h2, h3, _, L, rfl, ⟨rfl, N⟩, hq⟩ := rm0 l s _ hw tables_1 i0 i1 i2  s.heap s.heap.size (Nat.le_refl _)  p e ha hc hk s m _ below hf ((Spec.applies_iff_loose hf).mp happ).1 ⟨rfl, State.Warmed39.refl s, rfl⟩ trivial
  refine ⟨n, _, h1, h2, h3, hpost _ _ _ _ _ _ ⟨Cond.after_iff.mpr rfl, Cond.after_iff.mpr (eq_i res_at (Term.int_eval (1)) rfl), trivial⟩ ⟨hq.1, hq.2.1, (hq.2.2.sift fun y hy => Or.inr (N y hy)).mono (by decide) (by decide)⟩⟩
theorem main_1_1 : Claimed_1_1 := comes_1 fun _ _ _ _ _ _ h hF => ⟨h.1, hF⟩
theorem main_1_2 : Claimed_1_2 := comes_1 fun _ _ _ _ _ _ h hF => ⟨h.2.1, hF⟩
end Jvm.Pilot.@@N@@
namespace Jvm.Pilot.@@N@@
open Jvm Jvm.ClassFile Sem Op Lib Jvm.Free Jvm.Stand Jvm.Pilot.@@N@@.Jvm.D
/-! MADE BY PROGRAM (witnessworld.py) out of the Statement's table words and the real class files: 8 classes; the members and pool entries that the words name. The judged class is class 1, her method 1. -/
namespace start1
open Jvm.ClassFile
def u (s : String) : CpInfo := .utf8 (stringToUtf16 s)
/-- a pool by its gaps: so many unusable entries, then the entry; so many at the end -/
def gap : Nat → List CpInfo → List CpInfo
  | 0, r => r
  | n + 1, r => .unusable :: gap n r
def poolList (es : List (Nat × CpInfo)) (last : Nat) : List CpInfo := es.foldr (fun e r => gap e.1 (e.2 :: r)) (gap last [])
def pool (es : List (Nat × CpInfo)) (last : Nat) : Array CpInfo := ⟨poolList es last⟩
def fileOf (pool : Array CpInfo) (this : Nat) (attrs : Array Attribute := #[]) (ms : Array MethodInfo := #[]) (fl : Nat := 33) (sup : Nat := 0) (ifs : Array Nat := #[]) (fds : Array FieldInfo := #[]) : ClassFile where
  minorVersion := 0
  majorVersion := 65
  constantPool := pool
  accessFlags := fl
  thisClass := this
  superClass := sup
  interfaces := ifs
  fields := fds
  methods := ms
  attributes := attrs
def plain (name : String) (sup : Option ClassId) : Class where
  name := name
  kind := .ordinary
  loader := none
  accessFlags := 33
  super := sup
  interfaces := #[]
  cf := none
  fields := #[]
  methods := #[]
  instanceTypes := #[]
  staticTypes := #[]
  resolved := #[]
  callSites := []
  init := .initialized
  statics := none
  mirror := none

def pool0 : Array CpInfo := pool [(5, u "<init>"), (0, u "()V"), (1, .class_ 10), (1, u "java/lang/Object")] 113

def k0c0 : Code := { maxStack := 0, maxLocals := 1, code := object_method_1_code, exceptionTable := #[], attributes := #[] }
def k0m0 : Method := { name := "<init>", desc := "()V", sig := { parameters := [], returnType := none }, accessFlags := 1, code := some k0c0 }
/-- java/lang/Object -/
def k0 : Class := { plain "java/lang/Object" none with
  accessFlags := 33
  interfaces := #[]
  cf := some (fileOf pool0 8 #[] #[{ accessFlags := 1, nameIndex := 5, descriptorIndex := 6, attributes := #[] }] 33 0 #[] #[])
  fields := #[]
  methods := #[k0m0]
  instanceTypes := #[]
  staticTypes := #[]
  resolved := Array.replicate 124 none
  statics := none }

def pool1 : Array CpInfo := pool [(2, .class_ 4), (1, u "java/lang/Object"), (0, u "<init>"), (0, u "()V"), (2, .long 9223372036854776832), (1, .methodref 12 13), (0, .class_ 14), (0, .nameAndType 15 16), (0, u "java/lang/Math"), (0, u "max"), (0, u "(JJ)J"), (0, .class_ 18), (0, u "com/example/tardy_post/tardypost/HeldMessages"), (0, .methodref 17 20), (0, .nameAndType 5 21), (0, u "(J)V"), (0, .methodref 17 23), (0, .nameAndType 24 6), (0, u "holdAwaited"), (0, .long 320), (1, .methodref 17 28), (0, .nameAndType 29 30), (0, u "hasRoomFor"), (0, u "(J)Z"), (0, .class_ 32), (0, u "com/example/tardy_post/tardypost/HeldMessagesHasRoomForPinLaw"), (2, u "law"), (0, u "(JJI)Z")] 3

def k1m0 : Method := { name := "<init>", desc := "()V", sig := { parameters := [], returnType := none }, accessFlags := 2, code := none }
def k1c1 : Code := { maxStack := 6, maxLocals := 12, code := code, exceptionTable := #[], attributes := #[] }
def k1m1 : Method := { name := "law", desc := "(JJI)Z", sig := { parameters := [.long, .long, .int], returnType := some .boolean }, accessFlags := 9, code := some k1c1 }
/-- com/example/tardy_post/tardypost/HeldMessagesHasRoomForPinLaw -/
def k1 : Class := { plain "com/example/tardy_post/tardypost/HeldMessagesHasRoomForPinLaw" (some 0) with
  accessFlags := 49
  interfaces := #[]
  cf := some (fileOf pool1 31 #[] #[{ accessFlags := 2, nameIndex := 5, descriptorIndex := 6, attributes := #[] }, { accessFlags := 9, nameIndex := 35, descriptorIndex := 36, attributes := #[] }] 49 2 #[] #[])
  fields := #[]
  methods := #[k1m0, k1m1]
  instanceTypes := #[]
  staticTypes := #[]
  resolved := Array.replicate 40 none
  statics := none }

def pool2 : Array CpInfo := pool [(1, .class_ 2), (0, u "java/lang/Math"), (1, .class_ 6), (1, u "java/lang/Object"), (0, u "<init>"), (0, u "()V"), (89, .class_ 100), (1, u "java/lang/Math$RandomNumberGeneratorHolder"), (20, u "(JJ)J"), (50, u "negativeZeroFloatBits"), (0, u "J"), (2, u "negativeZeroDoubleBits"), (21, u "max"), (46, u "$assertionsDisabled"), (0, u "Z"), (91, u "twoToTheDoubleScaleDown"), (0, u "D"), (4, u "twoToTheDoubleScaleUp"), (9, u "E"), (3, u "PI"), (2, u "TAU"), (2, u "DEGREES_TO_RADIANS"), (0, u "RADIANS_TO_DEGREES")] 94

def k2m0 : Method := { name := "<init>", desc := "()V", sig := { parameters := [], returnType := none }, accessFlags := 2, code := none }
def k2c1 : Code := { maxStack := 4, maxLocals := 4, code := jdk_29_method_66_code, exceptionTable := #[], attributes := #[] }
def k2m1 : Method := { name := "max", desc := "(JJ)J", sig := { parameters := [.long, .long], returnType := some .long }, accessFlags := 9, code := some k2c1 }
/-- java/lang/Math -/
def k2 : Class := { plain "java/lang/Math" (some 0) with
  accessFlags := 49
  interfaces := #[]
  cf := some (fileOf pool2 1 #[.nestMembers #[98]] #[{ accessFlags := 2, nameIndex := 7, descriptorIndex := 8, attributes := #[] }, { accessFlags := 9, nameIndex := 198, descriptorIndex := 121, attributes := #[] }] 49 4 #[] #[{ accessFlags := 25, nameIndex := 354, descriptorIndex := 339, attributes := #[] }, { accessFlags := 25, nameIndex := 358, descriptorIndex := 339, attributes := #[] }, { accessFlags := 25, nameIndex := 361, descriptorIndex := 339, attributes := #[] }, { accessFlags := 26, nameIndex := 364, descriptorIndex := 339, attributes := #[] }, { accessFlags := 26, nameIndex := 365, descriptorIndex := 339, attributes := #[] }, { accessFlags := 26, nameIndex := 172, descriptorIndex := 173, attributes := #[] }, { accessFlags := 26, nameIndex := 176, descriptorIndex := 173, attributes := #[] }, { accessFlags := 8, nameIndex := 344, descriptorIndex := 339, attributes := #[] }, { accessFlags := 8, nameIndex := 338, descriptorIndex := 339, attributes := #[] }, { accessFlags := 4120, nameIndex := 245, descriptorIndex := 246, attributes := #[] }])
  fields := #[{ name := "E", type := .double, accessFlags := 25, slot := 0, constantValue := 0 }, { name := "PI", type := .double, accessFlags := 25, slot := 1, constantValue := 0 }, { name := "TAU", type := .double, accessFlags := 25, slot := 2, constantValue := 0 }, { name := "DEGREES_TO_RADIANS", type := .double, accessFlags := 26, slot := 3, constantValue := 0 }, { name := "RADIANS_TO_DEGREES", type := .double, accessFlags := 26, slot := 4, constantValue := 0 }, { name := "negativeZeroFloatBits", type := .long, accessFlags := 26, slot := 5, constantValue := 0 }, { name := "negativeZeroDoubleBits", type := .long, accessFlags := 26, slot := 6, constantValue := 0 }, { name := "twoToTheDoubleScaleUp", type := .double, accessFlags := 8, slot := 7, constantValue := 0 }, { name := "twoToTheDoubleScaleDown", type := .double, accessFlags := 8, slot := 8, constantValue := 0 }, { name := "$assertionsDisabled", type := .boolean, accessFlags := 4120, slot := 9, constantValue := 0 }]
  methods := #[k2m0, k2m1]
  instanceTypes := #[]
  staticTypes := #[.double, .double, .double, .double, .double, .long, .long, .double, .double, .boolean]
  resolved := Array.replicate 460 none
  statics := none }

def pool3 : Array CpInfo := pool [(1, .methodref 2 3), (0, .class_ 4), (0, .nameAndType 5 6), (0, u "java/lang/Object"), (0, u "<init>"), (0, u "()V"), (0, .fieldref 8 9), (0, .class_ 10), (0, .nameAndType 11 12), (0, u "com/example/tardy_post/tardypost/HeldMessages"), (0, u "maxBytes"), (0, u "J"), (70, .fieldref 8 84), (0, .nameAndType 85 12), (0, u "heldBytes"), (3, .long 320), (11, u "MESSAGE_BYTES"), (0, u "I"), (2, u "HEADER_BYTES"), (1, u "KEPT_IN_JOURNAL_BYTES"), (0, u "AWAITED_BYTES"), (1, u "(J)V"), (5, u "hasRoomFor"), (0, u "(J)Z"), (4, u "holdAwaited")] 7

def k3c0 : Code := { maxStack := 3, maxLocals := 3, code := prog_27_method_1_code, exceptionTable := #[], attributes := #[] }
def k3m0 : Method := { name := "<init>", desc := "(J)V", sig := { parameters := [.long], returnType := none }, accessFlags := 0, code := some k3c0 }
def k3c1 : Code := { maxStack := 6, maxLocals := 3, code := prog_27_method_4_code, exceptionTable := #[], attributes := #[] }
def k3m1 : Method := { name := "hasRoomFor", desc := "(J)Z", sig := { parameters := [.long], returnType := some .boolean }, accessFlags := 0, code := some k3c1 }
def k3c2 : Code := { maxStack := 5, maxLocals := 1, code := prog_27_method_9_code, exceptionTable := #[], attributes := #[] }
def k3m2 : Method := { name := "holdAwaited", desc := "()V", sig := { parameters := [], returnType := none }, accessFlags := 0, code := some k3c2 }
/-- com/example/tardy_post/tardypost/HeldMessages -/
def k3 : Class := { plain "com/example/tardy_post/tardypost/HeldMessages" (some 0) with
  accessFlags := 48
  interfaces := #[]
  cf := some (fileOf pool3 8 #[] #[{ accessFlags := 0, nameIndex := 5, descriptorIndex := 110, attributes := #[] }, { accessFlags := 0, nameIndex := 116, descriptorIndex := 117, attributes := #[] }, { accessFlags := 0, nameIndex := 122, descriptorIndex := 6, attributes := #[] }] 48 2 #[] #[{ accessFlags := 24, nameIndex := 101, descriptorIndex := 102, attributes := #[] }, { accessFlags := 24, nameIndex := 105, descriptorIndex := 102, attributes := #[] }, { accessFlags := 24, nameIndex := 107, descriptorIndex := 102, attributes := #[] }, { accessFlags := 24, nameIndex := 108, descriptorIndex := 102, attributes := #[] }, { accessFlags := 18, nameIndex := 11, descriptorIndex := 12, attributes := #[] }, { accessFlags := 2, nameIndex := 85, descriptorIndex := 12, attributes := #[] }])
  fields := #[{ name := "MESSAGE_BYTES", type := .int, accessFlags := 24, slot := 0, constantValue := 0 }, { name := "HEADER_BYTES", type := .int, accessFlags := 24, slot := 1, constantValue := 0 }, { name := "KEPT_IN_JOURNAL_BYTES", type := .int, accessFlags := 24, slot := 2, constantValue := 0 }, { name := "AWAITED_BYTES", type := .int, accessFlags := 24, slot := 3, constantValue := 0 }, { name := "maxBytes", type := .long, accessFlags := 18, slot := 0, constantValue := 0 }, { name := "heldBytes", type := .long, accessFlags := 2, slot := 1, constantValue := 0 }]
  methods := #[k3m0, k3m1, k3m2]
  instanceTypes := #[.long, .long]
  staticTypes := #[.int, .int, .int, .int]
  resolved := Array.replicate 130 none
  statics := none }

def pool4 : Array CpInfo := pool [(1, u "java/lang/Cloneable"), (0, .class_ 1), (0, u "java/lang/Object"), (0, .class_ 3)] 3

/-- java/lang/Cloneable -/
def k4 : Class := { plain "java/lang/Cloneable" (some 0) with
  accessFlags := 1537
  interfaces := #[]
  cf := some (fileOf pool4 2 #[] #[] 1537 4 #[] #[])
  fields := #[]
  methods := #[]
  instanceTypes := #[]
  staticTypes := #[]
  resolved := Array.replicate 8 none
  statics := none }

def pool5 : Array CpInfo := pool [(1, u "java/io/Serializable"), (0, .class_ 1), (0, u "java/lang/Object"), (0, .class_ 3)] 3

/-- java/io/Serializable -/
def k5 : Class := { plain "java/io/Serializable" (some 0) with
  accessFlags := 1537
  interfaces := #[]
  cf := some (fileOf pool5 2 #[] #[] 1537 4 #[] #[])
  fields := #[]
  methods := #[]
  instanceTypes := #[]
  staticTypes := #[]
  resolved := Array.replicate 8 none
  statics := none }

/-- the primitive byte -/
def k6 : Class := { plain "byte" none with kind := .primitive 'B', accessFlags := 0x411 }
/-- [B -/
def k7 : Class := { plain "[B" (some 0) with kind := .array 6 .byte, interfaces := #[4, 5], accessFlags := 1041 }

def heap : Heap := #[]
def classes : Array Class := #[k0, k1, k2, k3, k4, k5, k6, k7]
def interned : List (Array UInt16 × Addr) := []
def slotsUsed : Nat := 0
def theMethod : MethodId := ⟨1, 1⟩
def args0 : Array Value := #[.long 5000, .long 9, .int 2]
def aboutOver (below : List Frame) : State where
  vm := { classes := classes, interned := interned.toArray }
  heap := heap
  slotsUsed := slotsUsed
  threads := #[{ frames := .invoking theMethod args0 :: below }]
def below0 : List Frame := [.native { method := ⟨0, 0⟩, args := #[] }]
def about1 : State := aboutOver below0
def p0 : Program := .bare "" "" ""
def e0 : Env := launch0.env 0 0 0
theorem w_frames : about1.frames = Frame.invoking theMethod args0 :: below0 := rfl
set_option maxRecDepth 65536 in
theorem w_args : argsFit about1.vm theMethod args0 = true := by decide +kernel
set_option maxRecDepth 65536 in
theorem w_heap : heapFits about1 = true := by decide +kernel
set_option maxRecDepth 65536 in
theorem w_runnable : about1.curStatus? = some .runnable := by decide +kernel
set_option maxRecDepth 65536 in
theorem w_alone : about1.alone = true := by decide +kernel
set_option maxRecDepth 65536 in
theorem w_named : about1.methodNamed? x = some theMethod := by decide +kernel
set_option maxRecDepth 65536 in
theorem w_hears : about1.hears theMethod below0 = true := by decide +kernel
set_option maxRecDepth 65536 in
theorem w_ripe : about1.ripe theMethod args0 below0 = true := by decide +kernel
theorem w_running : about1.status = .running := rfl
set_option maxRecDepth 65536 in
theorem w_room : about1.hasRoom e0.platform room_1 = true :=
  launch0.hasRoom_least _ room_1 (by decide +kernel) (by decide +kernel) (by decide +kernel) (by decide +kernel) (by decide +kernel) (by decide +kernel)
theorem allAtoms_all (ts : List Jvm.Cond) (a : Array Jvm.Value) (st : Jvm.State) : (allAtoms ts).before a st = ts.all (fun c => c.before a st) := by
  induction ts with
  | nil => rfl
  | cons c t ih =>
    show (Jvm.Cond.and c (allAtoms t)).before a st = _
    rw [Jvm.Cond.before_and, ih, List.all_cons]
def words1 : List Jvm.Cond := Jvm.Cond.code x code maxLocals ret :: tables_1
/-- a 'code' word, met by the world's own term for the bytes: nothing is compared byte by byte -/
theorem code_word {y : MethodName} {bytes : ByteArray} {mx : Nat} {rt : Option FieldType} {a : Array Value} {s : State} {m : MethodId} {meth : Method} {c : Code} (h1 : s.methodNamed? y = some m) (h2 : s.vm.method? m = some meth) (h3 : meth.code = some c) (h4 : c.code = bytes)
    (h5 : (c.maxLocals == mx && c.exceptionTable.isEmpty && decide (c.maxStack ≤ mostOperands) && decide (meth.sig.returnType = rt) && !meth.locks && decide (parseMethodDescriptor y.desc = some meth.sig)) = true) : (Jvm.Cond.code y bytes mx rt).before a s = true := by
  simp only [Bool.and_eq_true, beq_iff_eq, Bool.not_eq_true', decide_eq_true_eq] at h5
  obtain ⟨⟨⟨⟨⟨g1, g2⟩, g3⟩, g4⟩, g5⟩, g6⟩ := h5
  simp [Cond.before, Cond.holds, Cond.value, h1, h2, h3, h4, g1, g2, g3, g4, g5, g6]
def isCode : Jvm.Cond → Bool
  | .code _ _ _ _ => true
  | _ => false
theorem all_split {L : List Jvm.Cond} {P : Jvm.Cond → Bool} (h1 : L.all (fun c => isCode c || P c) = true) (h2 : ∀ c ∈ L.filter isCode, P c = true) : L.all P = true := by
  refine List.all_eq_true.mpr fun c hc => ?_
  have h := List.all_eq_true.mp h1 c hc
  rcases Bool.eq_false_or_eq_true (isCode c) with hi | hi
  · exact h2 c (List.mem_filter.mpr ⟨hc, hi⟩)
  · simpa [hi] using h
set_option maxRecDepth 65536 in
theorem w_c0 : (Jvm.Cond.code x code maxLocals ret).before args0 about1 = true := code_word (m := ⟨1, 1⟩) (meth := k1m1) (c := k1c1) (by decide +kernel) rfl rfl rfl (by decide +kernel)
set_option maxRecDepth 65536 in
theorem w_c1 : (Jvm.Cond.code ({ cls := "java/lang/Math", name := "max", desc := "(JJ)J" } : Jvm.MethodName) jdk_29_method_66_code (4 : Nat) (Option.some Jvm.ClassFile.FieldType.long)).before args0 about1 = true := code_word (m := ⟨2, 1⟩) (meth := k2m1) (c := k2c1) (by decide +kernel) rfl rfl rfl (by decide +kernel)
set_option maxRecDepth 65536 in
theorem w_c2 : (Jvm.Cond.code ({ cls := "com/example/tardy_post/tardypost/HeldMessages", name := "<init>", desc := "(J)V" } : Jvm.MethodName) prog_27_method_1_code (3 : Nat) (Option.none : Option Jvm.ClassFile.FieldType)).before args0 about1 = true := code_word (m := ⟨3, 0⟩) (meth := k3m0) (c := k3c0) (by decide +kernel) rfl rfl rfl (by decide +kernel)
set_option maxRecDepth 65536 in
theorem w_c3 : (Jvm.Cond.code ({ cls := "java/lang/Object", name := "<init>", desc := "()V" } : Jvm.MethodName) object_method_1_code (1 : Nat) (Option.none : Option Jvm.ClassFile.FieldType)).before args0 about1 = true := code_word (m := ⟨0, 0⟩) (meth := k0m0) (c := k0c0) (by decide +kernel) rfl rfl rfl (by decide +kernel)
set_option maxRecDepth 65536 in
theorem w_c4 : (Jvm.Cond.code ({ cls := "com/example/tardy_post/tardypost/HeldMessages", name := "hasRoomFor", desc := "(J)Z" } : Jvm.MethodName) prog_27_method_4_code (3 : Nat) (Option.some Jvm.ClassFile.FieldType.boolean)).before args0 about1 = true := code_word (m := ⟨3, 1⟩) (meth := k3m1) (c := k3c1) (by decide +kernel) rfl rfl rfl (by decide +kernel)
set_option maxRecDepth 65536 in
theorem w_c5 : (Jvm.Cond.code ({ cls := "com/example/tardy_post/tardypost/HeldMessages", name := "holdAwaited", desc := "()V" } : Jvm.MethodName) prog_27_method_9_code (1 : Nat) (Option.none : Option Jvm.ClassFile.FieldType)).before args0 about1 = true := code_word (m := ⟨3, 2⟩) (meth := k3m2) (c := k3c2) (by decide +kernel) rfl rfl rfl (by decide +kernel)
def codes1 : List Jvm.Cond := [Jvm.Cond.code x code maxLocals ret, Jvm.Cond.code ({ cls := "java/lang/Math", name := "max", desc := "(JJ)J" } : Jvm.MethodName) jdk_29_method_66_code (4 : Nat) (Option.some Jvm.ClassFile.FieldType.long), Jvm.Cond.code ({ cls := "com/example/tardy_post/tardypost/HeldMessages", name := "<init>", desc := "(J)V" } : Jvm.MethodName) prog_27_method_1_code (3 : Nat) (Option.none : Option Jvm.ClassFile.FieldType), Jvm.Cond.code ({ cls := "java/lang/Object", name := "<init>", desc := "()V" } : Jvm.MethodName) object_method_1_code (1 : Nat) (Option.none : Option Jvm.ClassFile.FieldType), Jvm.Cond.code ({ cls := "com/example/tardy_post/tardypost/HeldMessages", name := "hasRoomFor", desc := "(J)Z" } : Jvm.MethodName) prog_27_method_4_code (3 : Nat) (Option.some Jvm.ClassFile.FieldType.boolean), Jvm.Cond.code ({ cls := "com/example/tardy_post/tardypost/HeldMessages", name := "holdAwaited", desc := "()V" } : Jvm.MethodName) prog_27_method_9_code (1 : Nat) (Option.none : Option Jvm.ClassFile.FieldType)]
set_option maxRecDepth 65536 in
theorem codes_eq : words1.filter isCode = codes1 := rfl
theorem w_codes : ∀ c ∈ words1.filter isCode, c.before args0 about1 = true := by
  rw [codes_eq]
  intro c hc
  simp only [codes1, List.mem_cons, List.not_mem_nil, or_false] at hc
  rcases hc with rfl | rfl | rfl | rfl | rfl | rfl
  · exact w_c0
  · exact w_c1
  · exact w_c2
  · exact w_c3
  · exact w_c4
  · exact w_c5
set_option maxRecDepth 65536 in
theorem w_t1 : (words1.take 24).all (fun c => isCode c || c.before args0 about1) = true := by decide +kernel
set_option maxRecDepth 65536 in
theorem w_t2 : (words1.drop 24).all (fun c => isCode c || c.before args0 about1) = true := by decide +kernel
theorem w_tables : (allAtoms (Jvm.Cond.code x code maxLocals ret :: tables_1)).before args0 about1 = true := by
  rw [allAtoms_all]
  show words1.all (fun c => c.before args0 about1) = true
  refine all_split ?_ w_codes
  rw [← List.take_append_drop 24 words1, List.all_append, w_t1, w_t2]
  rfl
set_option maxRecDepth 65536 in
theorem w_case : (Jvm.Cond.and given_1 narrow_1).before args0 about1 = true := by decide +kernel
theorem w_applies : (headSpec (Jvm.Cond.code x code maxLocals ret :: tables_1) room_1).applies x e0.platform about1 = true :=
  (Spec.applies_iff w_frames).mpr ⟨w_running, w_runnable, w_alone, w_named, w_hears, w_ripe, w_room, w_tables⟩
theorem atStart : AtStart classFile x code maxLocals ret World_1 tables_1 room_1 Calls_1 rest_1 Pre_1 launch0 p0 e0 about1 theMethod args0 below0 :=
  ⟨lists_1, trivial, launch0.admits_env _ _ _, launch0.least_env, fairChoices_fair.cas, fairChoices_fair.clock, w_frames, w_args, w_heap, w_applies, trivial, trivial, w_case⟩
end start1
theorem witness_1 : WitnessClaimed_1 := ⟨start1.p0, start1.e0, start1.about1, start1.theMethod, start1.args0, start1.below0, start1.atStart⟩
end Jvm.Pilot.@@N@@
