import JvmDerived
import JvmDerived.Pilot.@@N@@Statement
import JvmDerived.Pilot.@@N@@Code
set_option linter.unusedVariables false
set_option linter.unusedSimpArgs false
namespace Jvm.RoadKit
open Sem ClassFile Op Lib Jvm.Stand Jvm.Free Jvm.LawKit
section New
variable {p : Program} {l : Launch} {e : Env} {R : Room} {s : State} {m : MethodId} {args : Array Value} {below : List Frame} {meth : Method} {c : Code} {T : State} {locs : List Loc} {cells slots : Nat}
theorem retI (X : Stand p l e R s m args below meth c T locs cells slots) (hx : p.tables.exec = Jvm.exec) {pc : Nat} {Ls : Array Slot} {z : Int32} {rest : List Value} (hret : meth.sig.returnType = some .int) (hd : decode c.code pc = .ok (.ireturn, 1)) {fs : List Frame}
    (hl : ∀ (f : JFrame) (acts : List Action), f.method = m → f.locked = none → f.entered = [] → (doReturn e (T.setTop f) acts (some (.int z))).1 = T.setFrames fs) : Steps p.tables e below (T.setTop (mkF m pc Ls (.int z :: rest))) (T.setFrames fs) := by
  have hm' : T.vm.method? m = some meth := X.method'
  have hn : narrow .int (.int z) = .int z := rfl
  show Steps p.tables e below (T.setTop { method := m, pc := pc, locals := Ls, stack := _ :: rest, locked := none }) _
  jvm_step X.here [X.here.top, hx, hd, hm', hret, hn]
  first | (intro acts; rw [hl _ acts rfl rfl rfl]) | rw [hl _ _ rfl rfl rfl]
  exact Steps.refl _
end New
end Jvm.RoadKit
namespace Jvm.Pilot.@@N@@
open Jvm Jvm.ClassFile Sem Op Lib Jvm.Free Jvm.Stand Jvm.LawKit Jvm.RoadKit Bundle Jvm.Pilot.@@N@@.Jvm.D
/-- from the state F the walk ends as Q says (what it returns, the heap, the places written) -/
def Ends (p : Program) (e : Env) (below : List Frame) (s : State) (R : Room) (Q : Option Value → Heap → List Loc → Prop) (F : State) : Prop :=
  ∃ t o, Steps p.tables e below F t ∧ t.status = .running ∧ Ended t below o ∧ ∃ v L, o = .returned v ∧ Q v t.heap L ∧ FrameEnd s o t L R.cells R.slots
theorem Ends.of {p : Program} {e : Env} {below : List Frame} {s : State} {R : Room} {Q : Option Value → Heap → List Loc → Prop} {F F' : State} (h : ∀ t, Steps p.tables e below F' t → Steps p.tables e below F t) (k : Ends p e below s R Q F') : Ends p e below s R Q F := by
  obtain ⟨t, o, h1, r⟩ := k
  exact ⟨t, o, h t h1, r⟩
theorem Ends.st {p : Program} {e : Env} {below : List Frame} {s : State} {R : Room} {Q : Option Value → Heap → List Loc → Prop} {F F' : State} (h : Steps p.tables e below F F') (k : Ends p e below s R Q F') : Ends p e below s R Q F := Ends.of (fun _ q => h.trans q) k
theorem own_eqi {args : Array Value} {first s : State} {o : Option Outcome} {idx : List Nat} {t : Term} {k : Int32} (h : (Jvm.Cond.eq t (Term.int k)).value args first o s idx = some true) : t.eval args first o idx s = some (.int k) := by
  simp only [Cond.value, Term.eval] at h
  cases ht : t.eval args first o idx s with
  | none => simp [ht] at h
  | some x => cases x <;> simp [ht] at h ⊢; exact h
theorem own_eqr {args : Array Value} {first s : State} {o : Option Outcome} {idx : List Nat} {t u : Term} {b : Addr} (h : (Jvm.Cond.eq t u).value args first o s idx = some true) (hu : u.eval args first o idx s = some (.ref b)) : t.eval args first o idx s = some (.ref b) := by
  simp only [Cond.value, hu] at h
  cases ht : t.eval args first o idx s with
  | none => simp [ht] at h
  | some x => cases x <;> simp [ht] at h ⊢; exact h

def own_ac (di dl rt dq dj sa : Addr) (k : Int32) : Addr :=
  if k = (0 : Int32) then di else if k = (1 : Int32) then dl else if k = (2 : Int32) then rt else if k = (3 : Int32) then dq else if k = (4 : Int32) then dj else sa
def own_ex (ds ls rs rf qs qf : Addr) (k b : Int32) : Value :=
  if k = (0 : Int32) then (if b = (0 : Int32) then .null else .ref ds) else if k = (1 : Int32) then (if b = (0 : Int32) then .null else .ref ls) else if k = (2 : Int32) then (if b = (0 : Int32) then .ref rf else .ref rs) else if k = (3 : Int32) then (if b = (0 : Int32) then .ref qf else .ref qs) else .null
theorem pd_0 : parseMethodDescriptor "(I)Lcom/example/tardy_post/tardypost/UndeliverableAction;" = some ⟨[.int], some (.object "com/example/tardy_post/tardypost/UndeliverableAction")⟩ := by decide +kernel
theorem pd_1 : parseMethodDescriptor "(IZ)Lcom/example/tardy_post/tardypost/UmaStatus;" = some ⟨[.int, .boolean], some (.object "com/example/tardy_post/tardypost/UmaStatus")⟩ := by decide +kernel
theorem pd_2 : parseMethodDescriptor "(Z)Lcom/example/tardy_post/tardypost/UmaStatus;" = some ⟨[.boolean], some (.object "com/example/tardy_post/tardypost/UmaStatus")⟩ := by decide +kernel
theorem pd_3 : parseMethodDescriptor "()Z" = some ⟨[], some .boolean⟩ := by decide +kernel
theorem d1_0 : decode method_3_code 0 = .ok (.iload_n 0, 1) := by decide +kernel
theorem d1_1 : decode method_3_code 1 = .ok (.ifCond .ne 7, 3) := by decide +kernel
theorem d1_4 : decode method_3_code 4 = .ok (.getstatic 28, 3) := by decide +kernel
theorem d1_7 : decode method_3_code 7 = .ok (.areturn, 1) := by decide +kernel
theorem d1_8 : decode method_3_code 8 = .ok (.iload_n 0, 1) := by decide +kernel
theorem d1_9 : decode method_3_code 9 = .ok (.iconst 1, 1) := by decide +kernel
theorem d1_10 : decode method_3_code 10 = .ok (.if_icmp .ne 7, 3) := by decide +kernel
theorem d1_13 : decode method_3_code 13 = .ok (.getstatic 32, 3) := by decide +kernel
theorem d1_16 : decode method_3_code 16 = .ok (.areturn, 1) := by decide +kernel
theorem d1_17 : decode method_3_code 17 = .ok (.iload_n 0, 1) := by decide +kernel
theorem d1_18 : decode method_3_code 18 = .ok (.iconst 2, 1) := by decide +kernel
theorem d1_19 : decode method_3_code 19 = .ok (.if_icmp .ne 7, 3) := by decide +kernel
theorem d1_22 : decode method_3_code 22 = .ok (.getstatic 35, 3) := by decide +kernel
theorem d1_25 : decode method_3_code 25 = .ok (.areturn, 1) := by decide +kernel
theorem d1_26 : decode method_3_code 26 = .ok (.iload_n 0, 1) := by decide +kernel
theorem d1_27 : decode method_3_code 27 = .ok (.iconst 3, 1) := by decide +kernel
theorem d1_28 : decode method_3_code 28 = .ok (.if_icmp .ne 7, 3) := by decide +kernel
theorem d1_31 : decode method_3_code 31 = .ok (.getstatic 38, 3) := by decide +kernel
theorem d1_34 : decode method_3_code 34 = .ok (.areturn, 1) := by decide +kernel
theorem d1_35 : decode method_3_code 35 = .ok (.iload_n 0, 1) := by decide +kernel
theorem d1_36 : decode method_3_code 36 = .ok (.iconst 4, 1) := by decide +kernel
theorem d1_37 : decode method_3_code 37 = .ok (.if_icmp .ne 7, 3) := by decide +kernel
theorem d1_40 : decode method_3_code 40 = .ok (.getstatic 41, 3) := by decide +kernel
theorem d1_43 : decode method_3_code 43 = .ok (.areturn, 1) := by decide +kernel
theorem d1_44 : decode method_3_code 44 = .ok (.getstatic 44, 3) := by decide +kernel
theorem d1_47 : decode method_3_code 47 = .ok (.areturn, 1) := by decide +kernel
theorem pn_0 : plainName "com/example/tardy_post/tardypost/UndeliverableActionUmaStatusPinLaw" = true := by first | (simp [plainName, overriddenIn]; done) | decide +kernel
def Q1 (Z : State) (p1 : Int32) (di : Addr) (dl : Addr) (rt : Addr) (dq : Addr) (dj : Addr) (sa : Addr) (h0 : Heap) (n0 : Nat) (v : Option Value) (h : Heap) (L : List Loc) : Prop := v = some (.ref (own_ac di dl rt dq dj sa p1)) ∧ Fr n0 L ∧ h = h0
set_option maxRecDepth 65536 in
set_option maxHeartbeats 40000000 in
theorem rm1 (l : Launch) (Z : State) (a0 : Array Value) (hw : ∀ d ∈ tables_1, d.before a0 Z = true) (ws : List Jvm.Cond) (p1 : Int32) (di : Addr) (dl : Addr) (rt : Addr) (dq : Addr) (dj : Addr) (sa : Addr) (h0 : Heap) (n0 : Nat) (Z0 : n0 ≤ h0.size) (S_DISC : Sta Z h0 "com/example/tardy_post/tardypost/UndeliverableAction" "DISC" "Lcom/example/tardy_post/tardypost/UndeliverableAction;" (.ref di)) (S_DISCL : Sta Z h0 "com/example/tardy_post/tardypost/UndeliverableAction" "DISCL" "Lcom/example/tardy_post/tardypost/UndeliverableAction;" (.ref dl)) (S_RTS : Sta Z h0 "com/example/tardy_post/tardypost/UndeliverableAction" "RTS" "Lcom/example/tardy_post/tardypost/UndeliverableAction;" (.ref rt)) (S_DLQ : Sta Z h0 "com/example/tardy_post/tardypost/UndeliverableAction" "DLQ" "Lcom/example/tardy_post/tardypost/UndeliverableAction;" (.ref dq)) (S_DLJ : Sta Z h0 "com/example/tardy_post/tardypost/UndeliverableAction" "DLJ" "Lcom/example/tardy_post/tardypost/UndeliverableAction;" (.ref dj)) (S_SAF : Sta Z h0 "com/example/tardy_post/tardypost/UndeliverableAction" "SAF" "Lcom/example/tardy_post/tardypost/UndeliverableAction;" (.ref sa)) :
    MetFree l (⟨"com/example/tardy_post/tardypost/UndeliverableActionUmaStatusPinLaw", "action", "(I)Lcom/example/tardy_post/tardypost/UndeliverableAction;"⟩ : MethodName) (head1 (Jvm.Cond.code (⟨"com/example/tardy_post/tardypost/UndeliverableActionUmaStatusPinLaw", "action", "(I)Lcom/example/tardy_post/tardypost/UndeliverableAction;"⟩ : MethodName) method_3_code 1 (some (.object "com/example/tardy_post/tardypost/UndeliverableAction")) :: ws) ({ frames := 0, cells := 0, slots := 0, locals := 0 } : Room)) (fun a U => a = #[(.int p1)] ∧ Z.Warmed39 U.vm ∧ U.heap = h0) (fun _ _ _ _ _ => True) (fun _ U o U' => ∃ v L, o = .returned v ∧ Q1 Z p1 di dl rt dq dj sa h0 n0 v U'.heap L ∧ FrameEnd U o U' L ({ frames := 0, cells := 0, slots := 0, locals := 0 } : Room).cells ({ frames := 0, cells := 0, slots := 0, locals := 0 } : Room).slots) := by
  refine MetFree.of_bodySF (plainFor_of_name pn_0) hisR ?_
  intro p e s m args below meth c s₁ Bd hml0 hP hK
  obtain ⟨rfl, hZ, hh⟩ := hP
  have hx := Bd.exec
  have hby := Bd.bytes
  have hml : c.maxLocals = 1 := hml0
  have hown : s.vm.findClass "com/example/tardy_post/tardypost/UndeliverableActionUmaStatusPinLaw" = some m.cls := findClass_of_methodNamed Bd.named
  have hnm := (name_of_methodNamed Bd.named Bd.method).1
  have X0 : Stand p l e ({ frames := 0, cells := 0, slots := 0, locals := 0 } : Room) s m #[(.int p1)] below meth c s₁ [] 0 0 := Stand.of_body Bd
  have e0 : s₁.heap = h0 := by rw [← hh, Bd.state]; rfl
  have N0 := Fr.nil n0
  have eF : entryFrame m #[(.int p1)] 1 = mkF m 0 #[.val (.int p1)] [] := by first | (simp [entryFrame, mkF, argsToLocals, Value.category]; done) | rfl
  show Ends p e below s ({ frames := 0, cells := 0, slots := 0, locals := 0 } : Room) (Q1 Z p1 di dl rt dq dj sa h0 n0) (s₁.setTop (entryFrame m #[(.int p1)] 1))
  rw [eF]
  refine Ends.of (F' := s₁.setTop (mkF m 1 #[.val (.int p1)] [(.int p1)])) (fun _ kt => ?_) ?_
  · show Steps p.tables e below (s₁.setTop (mkF m 0 #[.val (.int p1)] [])) _
    refine XS.iloadN X0.here hx rfl (hb hby d1_0) rfl ?_
    exact kt
  by_cases hc1 : p1 = (0 : Int32)
  · refine Ends.of (F' := s₁.setTop (mkF m 4 #[.val (.int p1)] [])) (fun _ kt => ?_) ?_
    · show Steps p.tables e below (s₁.setTop (mkF m 1 #[.val (.int p1)] [(.int p1)])) _
      refine XS.ifNo X0.here hx rfl (hb hby d1_1) rfl ((if0 _ _).trans (teq hc1).2) ?_
      exact kt
    obtain ⟨T1, X1, e1, st1⟩ := getS2 X0 hx hZ hown (host := "") (Or.inl (hw _ (List.mem_of_getElem? (i := 5) rfl))) Via.refl e0 S_DISC (g := (mkF m 4 #[.val (.int p1)] [])) rfl (hb hby d1_4)
    refine Ends.of st1 ?_
    obtain ⟨fs, hr, hrun, hended, hW, hsame⟩ := X1.leave (v := some (.ref di)) (fun h => by rw [Bd.returns] at h; cases h)
    refine ⟨_, _, ?_, hrun, hended, _, _, rfl, ⟨by rw [own_ac, if_pos hc1], N0, e1⟩, ⟨_, rfl⟩, hW, hsame.mono (by decide) (by decide)⟩
    show Steps p.tables e below (T1.setTop (mkF m 7 #[.val (.int p1)] [(.ref di)])) _
    jvm_step X1.here [X1.here.top, hx, (hb hby d1_7), X1.method', Bd.returns, Value.isRef, FieldType.isReference]
    first | (intro acts; rw [hr _ acts rfl rfl rfl]) | rw [hr _ _ rfl rfl rfl]
    exact Steps.refl _
  · refine Ends.of (F' := s₁.setTop (mkF m 10 #[.val (.int p1)] [(.int (1 : Int32)), (.int p1)])) (fun _ kt => ?_) ?_
    · show Steps p.tables e below (s₁.setTop (mkF m 1 #[.val (.int p1)] [(.int p1)])) _
      refine XS.ifYes X0.here hx rfl (pc0 := 1) (pc' := 8) rfl (hb hby d1_1) rfl ((if0 _ _).trans (feq hc1).2) (by decide) (by decide) ?_
      show Steps p.tables e below (s₁.setTop (mkF m 8 #[.val (.int p1)] [])) _
      refine XS.iloadN X0.here hx rfl (hb hby d1_8) rfl ?_
      show Steps p.tables e below (s₁.setTop (mkF m 9 #[.val (.int p1)] [(.int p1)])) _
      refine XS.iconst X0.here hx rfl (hb hby d1_9) ?_
      exact kt
    by_cases hc10 : p1 = (1 : Int32)
    · refine Ends.of (F' := s₁.setTop (mkF m 13 #[.val (.int p1)] [])) (fun _ kt => ?_) ?_
      · show Steps p.tables e below (s₁.setTop (mkF m 10 #[.val (.int p1)] [(.int (1 : Int32)), (.int p1)])) _
        refine XS.icmpNo X0.here hx rfl (hb hby d1_10) rfl (teq hc10).2 ?_
        exact kt
      obtain ⟨T2, X2, e2, st2⟩ := getS2 X0 hx hZ hown (host := "") (Or.inl (hw _ (List.mem_of_getElem? (i := 36) rfl))) Via.refl e0 S_DISCL (g := (mkF m 13 #[.val (.int p1)] [])) rfl (hb hby d1_13)
      refine Ends.of st2 ?_
      obtain ⟨fs, hr, hrun, hended, hW, hsame⟩ := X2.leave (v := some (.ref dl)) (fun h => by rw [Bd.returns] at h; cases h)
      refine ⟨_, _, ?_, hrun, hended, _, _, rfl, ⟨by rw [own_ac, if_neg hc1, if_pos hc10], N0, e2⟩, ⟨_, rfl⟩, hW, hsame.mono (by decide) (by decide)⟩
      show Steps p.tables e below (T2.setTop (mkF m 16 #[.val (.int p1)] [(.ref dl)])) _
      jvm_step X2.here [X2.here.top, hx, (hb hby d1_16), X2.method', Bd.returns, Value.isRef, FieldType.isReference]
      first | (intro acts; rw [hr _ acts rfl rfl rfl]) | rw [hr _ _ rfl rfl rfl]
      exact Steps.refl _
    · refine Ends.of (F' := s₁.setTop (mkF m 19 #[.val (.int p1)] [(.int (2 : Int32)), (.int p1)])) (fun _ kt => ?_) ?_
      · show Steps p.tables e below (s₁.setTop (mkF m 10 #[.val (.int p1)] [(.int (1 : Int32)), (.int p1)])) _
        refine XS.icmpYes X0.here hx rfl (pc0 := 10) (pc' := 17) rfl (hb hby d1_10) rfl (feq hc10).2 (by decide) (by decide) ?_
        show Steps p.tables e below (s₁.setTop (mkF m 17 #[.val (.int p1)] [])) _
        refine XS.iloadN X0.here hx rfl (hb hby d1_17) rfl ?_
        show Steps p.tables e below (s₁.setTop (mkF m 18 #[.val (.int p1)] [(.int p1)])) _
        refine XS.iconst X0.here hx rfl (hb hby d1_18) ?_
        exact kt
      by_cases hc19 : p1 = (2 : Int32)
      · refine Ends.of (F' := s₁.setTop (mkF m 22 #[.val (.int p1)] [])) (fun _ kt => ?_) ?_
        · show Steps p.tables e below (s₁.setTop (mkF m 19 #[.val (.int p1)] [(.int (2 : Int32)), (.int p1)])) _
          refine XS.icmpNo X0.here hx rfl (hb hby d1_19) rfl (teq hc19).2 ?_
          exact kt
        obtain ⟨T3, X3, e3, st3⟩ := getS2 X0 hx hZ hown (host := "") (Or.inl (hw _ (List.mem_of_getElem? (i := 26) rfl))) Via.refl e0 S_RTS (g := (mkF m 22 #[.val (.int p1)] [])) rfl (hb hby d1_22)
        refine Ends.of st3 ?_
        obtain ⟨fs, hr, hrun, hended, hW, hsame⟩ := X3.leave (v := some (.ref rt)) (fun h => by rw [Bd.returns] at h; cases h)
        refine ⟨_, _, ?_, hrun, hended, _, _, rfl, ⟨by rw [own_ac, if_neg hc1, if_neg hc10, if_pos hc19], N0, e3⟩, ⟨_, rfl⟩, hW, hsame.mono (by decide) (by decide)⟩
        show Steps p.tables e below (T3.setTop (mkF m 25 #[.val (.int p1)] [(.ref rt)])) _
        jvm_step X3.here [X3.here.top, hx, (hb hby d1_25), X3.method', Bd.returns, Value.isRef, FieldType.isReference]
        first | (intro acts; rw [hr _ acts rfl rfl rfl]) | rw [hr _ _ rfl rfl rfl]
        exact Steps.refl _
      · refine Ends.of (F' := s₁.setTop (mkF m 28 #[.val (.int p1)] [(.int (3 : Int32)), (.int p1)])) (fun _ kt => ?_) ?_
        · show Steps p.tables e below (s₁.setTop (mkF m 19 #[.val (.int p1)] [(.int (2 : Int32)), (.int p1)])) _
          refine XS.icmpYes X0.here hx rfl (pc0 := 19) (pc' := 26) rfl (hb hby d1_19) rfl (feq hc19).2 (by decide) (by decide) ?_
          show Steps p.tables e below (s₁.setTop (mkF m 26 #[.val (.int p1)] [])) _
          refine XS.iloadN X0.here hx rfl (hb hby d1_26) rfl ?_
          show Steps p.tables e below (s₁.setTop (mkF m 27 #[.val (.int p1)] [(.int p1)])) _
          refine XS.iconst X0.here hx rfl (hb hby d1_27) ?_
          exact kt
        by_cases hc28 : p1 = (3 : Int32)
        · refine Ends.of (F' := s₁.setTop (mkF m 31 #[.val (.int p1)] [])) (fun _ kt => ?_) ?_
          · show Steps p.tables e below (s₁.setTop (mkF m 28 #[.val (.int p1)] [(.int (3 : Int32)), (.int p1)])) _
            refine XS.icmpNo X0.here hx rfl (hb hby d1_28) rfl (teq hc28).2 ?_
            exact kt
          obtain ⟨T4, X4, e4, st4⟩ := getS2 X0 hx hZ hown (host := "") (Or.inl (hw _ (List.mem_of_getElem? (i := 42) rfl))) Via.refl e0 S_DLQ (g := (mkF m 31 #[.val (.int p1)] [])) rfl (hb hby d1_31)
          refine Ends.of st4 ?_
          obtain ⟨fs, hr, hrun, hended, hW, hsame⟩ := X4.leave (v := some (.ref dq)) (fun h => by rw [Bd.returns] at h; cases h)
          refine ⟨_, _, ?_, hrun, hended, _, _, rfl, ⟨by rw [own_ac, if_neg hc1, if_neg hc10, if_neg hc19, if_pos hc28], N0, e4⟩, ⟨_, rfl⟩, hW, hsame.mono (by decide) (by decide)⟩
          show Steps p.tables e below (T4.setTop (mkF m 34 #[.val (.int p1)] [(.ref dq)])) _
          jvm_step X4.here [X4.here.top, hx, (hb hby d1_34), X4.method', Bd.returns, Value.isRef, FieldType.isReference]
          first | (intro acts; rw [hr _ acts rfl rfl rfl]) | rw [hr _ _ rfl rfl rfl]
          exact Steps.refl _
        · refine Ends.of (F' := s₁.setTop (mkF m 37 #[.val (.int p1)] [(.int (4 : Int32)), (.int p1)])) (fun _ kt => ?_) ?_
          · show Steps p.tables e below (s₁.setTop (mkF m 28 #[.val (.int p1)] [(.int (3 : Int32)), (.int p1)])) _
            refine XS.icmpYes X0.here hx rfl (pc0 := 28) (pc' := 35) rfl (hb hby d1_28) rfl (feq hc28).2 (by decide) (by decide) ?_
            show Steps p.tables e below (s₁.setTop (mkF m 35 #[.val (.int p1)] [])) _
            refine XS.iloadN X0.here hx rfl (hb hby d1_35) rfl ?_
            show Steps p.tables e below (s₁.setTop (mkF m 36 #[.val (.int p1)] [(.int p1)])) _
            refine XS.iconst X0.here hx rfl (hb hby d1_36) ?_
            exact kt
          by_cases hc37 : p1 = (4 : Int32)
          · refine Ends.of (F' := s₁.setTop (mkF m 40 #[.val (.int p1)] [])) (fun _ kt => ?_) ?_
            · show Steps p.tables e below (s₁.setTop (mkF m 37 #[.val (.int p1)] [(.int (4 : Int32)), (.int p1)])) _
              refine XS.icmpNo X0.here hx rfl (hb hby d1_37) rfl (teq hc37).2 ?_
              exact kt
            obtain ⟨T5, X5, e5, st5⟩ := getS2 X0 hx hZ hown (host := "") (Or.inl (hw _ (List.mem_of_getElem? (i := 34) rfl))) Via.refl e0 S_DLJ (g := (mkF m 40 #[.val (.int p1)] [])) rfl (hb hby d1_40)
            refine Ends.of st5 ?_
            obtain ⟨fs, hr, hrun, hended, hW, hsame⟩ := X5.leave (v := some (.ref dj)) (fun h => by rw [Bd.returns] at h; cases h)
            refine ⟨_, _, ?_, hrun, hended, _, _, rfl, ⟨by rw [own_ac, if_neg hc1, if_neg hc10, if_neg hc19, if_neg hc28, if_pos hc37], N0, e5⟩, ⟨_, rfl⟩, hW, hsame.mono (by decide) (by decide)⟩
            show Steps p.tables e below (T5.setTop (mkF m 43 #[.val (.int p1)] [(.ref dj)])) _
            jvm_step X5.here [X5.here.top, hx, (hb hby d1_43), X5.method', Bd.returns, Value.isRef, FieldType.isReference]
            first | (intro acts; rw [hr _ acts rfl rfl rfl]) | rw [hr _ _ rfl rfl rfl]
            exact Steps.refl _
          · refine Ends.of (F' := s₁.setTop (mkF m 44 #[.val (.int p1)] [])) (fun _ kt => ?_) ?_
            · show Steps p.tables e below (s₁.setTop (mkF m 37 #[.val (.int p1)] [(.int (4 : Int32)), (.int p1)])) _
              refine XS.icmpYes X0.here hx rfl (pc0 := 37) (pc' := 44) rfl (hb hby d1_37) rfl (feq hc37).2 (by decide) (by decide) ?_
              exact kt
            obtain ⟨T6, X6, e6, st6⟩ := getS2 X0 hx hZ hown (host := "") (Or.inl (hw _ (List.mem_of_getElem? (i := 40) rfl))) Via.refl e0 S_SAF (g := (mkF m 44 #[.val (.int p1)] [])) rfl (hb hby d1_44)
            refine Ends.of st6 ?_
            obtain ⟨fs, hr, hrun, hended, hW, hsame⟩ := X6.leave (v := some (.ref sa)) (fun h => by rw [Bd.returns] at h; cases h)
            refine ⟨_, _, ?_, hrun, hended, _, _, rfl, ⟨by rw [own_ac, if_neg hc1, if_neg hc10, if_neg hc19, if_neg hc28, if_neg hc37], N0, e6⟩, ⟨_, rfl⟩, hW, hsame.mono (by decide) (by decide)⟩
            show Steps p.tables e below (T6.setTop (mkF m 47 #[.val (.int p1)] [(.ref sa)])) _
            jvm_step X6.here [X6.here.top, hx, (hb hby d1_47), X6.method', Bd.returns, Value.isRef, FieldType.isReference]
            first | (intro acts; rw [hr _ acts rfl rfl rfl]) | rw [hr _ _ rfl rfl rfl]
            exact Steps.refl _
theorem d2_0 : decode method_4_code 0 = .ok (.iload_n 0, 1) := by decide +kernel
theorem d2_1 : decode method_4_code 1 = .ok (.ifCond .ne 15, 3) := by decide +kernel
theorem d2_4 : decode method_4_code 4 = .ok (.iload_n 1, 1) := by decide +kernel
theorem d2_5 : decode method_4_code 5 = .ok (.ifCond .eq 9, 3) := by decide +kernel
theorem d2_8 : decode method_4_code 8 = .ok (.getstatic 47, 3) := by decide +kernel
theorem d2_11 : decode method_4_code 11 = .ok (.goto 4, 3) := by decide +kernel
theorem d2_14 : decode method_4_code 14 = .ok (.aconst_null, 1) := by decide +kernel
theorem d2_15 : decode method_4_code 15 = .ok (.areturn, 1) := by decide +kernel
theorem d2_16 : decode method_4_code 16 = .ok (.iload_n 0, 1) := by decide +kernel
theorem d2_17 : decode method_4_code 17 = .ok (.iconst 1, 1) := by decide +kernel
theorem d2_18 : decode method_4_code 18 = .ok (.if_icmp .ne 15, 3) := by decide +kernel
theorem d2_21 : decode method_4_code 21 = .ok (.iload_n 1, 1) := by decide +kernel
theorem d2_22 : decode method_4_code 22 = .ok (.ifCond .eq 9, 3) := by decide +kernel
theorem d2_25 : decode method_4_code 25 = .ok (.getstatic 53, 3) := by decide +kernel
theorem d2_28 : decode method_4_code 28 = .ok (.goto 4, 3) := by decide +kernel
theorem d2_31 : decode method_4_code 31 = .ok (.aconst_null, 1) := by decide +kernel
theorem d2_32 : decode method_4_code 32 = .ok (.areturn, 1) := by decide +kernel
theorem d2_33 : decode method_4_code 33 = .ok (.iload_n 0, 1) := by decide +kernel
theorem d2_34 : decode method_4_code 34 = .ok (.iconst 2, 1) := by decide +kernel
theorem d2_35 : decode method_4_code 35 = .ok (.if_icmp .ne 17, 3) := by decide +kernel
theorem d2_38 : decode method_4_code 38 = .ok (.iload_n 1, 1) := by decide +kernel
theorem d2_39 : decode method_4_code 39 = .ok (.ifCond .eq 9, 3) := by decide +kernel
theorem d2_42 : decode method_4_code 42 = .ok (.getstatic 56, 3) := by decide +kernel
theorem d2_45 : decode method_4_code 45 = .ok (.goto 6, 3) := by decide +kernel
theorem d2_48 : decode method_4_code 48 = .ok (.getstatic 59, 3) := by decide +kernel
theorem d2_51 : decode method_4_code 51 = .ok (.areturn, 1) := by decide +kernel
theorem d2_52 : decode method_4_code 52 = .ok (.iload_n 0, 1) := by decide +kernel
theorem d2_53 : decode method_4_code 53 = .ok (.iconst 3, 1) := by decide +kernel
theorem d2_54 : decode method_4_code 54 = .ok (.if_icmp .ne 17, 3) := by decide +kernel
theorem d2_57 : decode method_4_code 57 = .ok (.iload_n 1, 1) := by decide +kernel
theorem d2_58 : decode method_4_code 58 = .ok (.ifCond .eq 9, 3) := by decide +kernel
theorem d2_61 : decode method_4_code 61 = .ok (.getstatic 62, 3) := by decide +kernel
theorem d2_64 : decode method_4_code 64 = .ok (.goto 6, 3) := by decide +kernel
theorem d2_67 : decode method_4_code 67 = .ok (.getstatic 65, 3) := by decide +kernel
theorem d2_70 : decode method_4_code 70 = .ok (.areturn, 1) := by decide +kernel
theorem d2_71 : decode method_4_code 71 = .ok (.aconst_null, 1) := by decide +kernel
theorem d2_72 : decode method_4_code 72 = .ok (.areturn, 1) := by decide +kernel
def Q2 (Z : State) (p1 : Int32) (p2 : Int32) (ds : Addr) (ls : Addr) (rs : Addr) (rf : Addr) (qs : Addr) (qf : Addr) (r : Value) (h0 : Heap) (n0 : Nat) (v : Option Value) (h : Heap) (L : List Loc) : Prop := v = some r ∧ Fr n0 L ∧ h = h0
set_option maxRecDepth 65536 in
set_option maxHeartbeats 40000000 in
theorem rm2 (l : Launch) (Z : State) (a0 : Array Value) (hw : ∀ d ∈ tables_1, d.before a0 Z = true) (ws : List Jvm.Cond) (p1 : Int32) (p2 : Int32) (ds : Addr) (ls : Addr) (rs : Addr) (rf : Addr) (qs : Addr) (qf : Addr) (r : Value) (h0 : Heap) (n0 : Nat) (Z0 : n0 ≤ h0.size) (S_DISC_SUCCESS : Sta Z h0 "com/example/tardy_post/tardypost/UmaStatus" "DISC_SUCCESS" "Lcom/example/tardy_post/tardypost/UmaStatus;" (.ref ds)) (S_DISCL_SUCCESS : Sta Z h0 "com/example/tardy_post/tardypost/UmaStatus" "DISCL_SUCCESS" "Lcom/example/tardy_post/tardypost/UmaStatus;" (.ref ls)) (S_RTS_SUCCESS : Sta Z h0 "com/example/tardy_post/tardypost/UmaStatus" "RTS_SUCCESS" "Lcom/example/tardy_post/tardypost/UmaStatus;" (.ref rs)) (S_RTS_FAIL : Sta Z h0 "com/example/tardy_post/tardypost/UmaStatus" "RTS_FAIL" "Lcom/example/tardy_post/tardypost/UmaStatus;" (.ref rf)) (S_DLQ_SUCCESS : Sta Z h0 "com/example/tardy_post/tardypost/UmaStatus" "DLQ_SUCCESS" "Lcom/example/tardy_post/tardypost/UmaStatus;" (.ref qs)) (S_DLQ_FAILED : Sta Z h0 "com/example/tardy_post/tardypost/UmaStatus" "DLQ_FAILED" "Lcom/example/tardy_post/tardypost/UmaStatus;" (.ref qf)) (hre : r = own_ex ds ls rs rf qs qf p1 p2) :
    MetFree l (⟨"com/example/tardy_post/tardypost/UndeliverableActionUmaStatusPinLaw", "expected", "(IZ)Lcom/example/tardy_post/tardypost/UmaStatus;"⟩ : MethodName) (head1 (Jvm.Cond.code (⟨"com/example/tardy_post/tardypost/UndeliverableActionUmaStatusPinLaw", "expected", "(IZ)Lcom/example/tardy_post/tardypost/UmaStatus;"⟩ : MethodName) method_4_code 2 (some (.object "com/example/tardy_post/tardypost/UmaStatus")) :: ws) ({ frames := 0, cells := 0, slots := 0, locals := 0 } : Room)) (fun a U => a = #[(.int p1), (.int p2)] ∧ Z.Warmed39 U.vm ∧ U.heap = h0) (fun _ _ _ _ _ => True) (fun _ U o U' => ∃ v L, o = .returned v ∧ Q2 Z p1 p2 ds ls rs rf qs qf r h0 n0 v U'.heap L ∧ FrameEnd U o U' L ({ frames := 0, cells := 0, slots := 0, locals := 0 } : Room).cells ({ frames := 0, cells := 0, slots := 0, locals := 0 } : Room).slots) := by
  refine MetFree.of_bodySF (plainFor_of_name pn_0) hisR ?_
  intro p e s m args below meth c s₁ Bd hml0 hP hK
  obtain ⟨rfl, hZ, hh⟩ := hP
  have hx := Bd.exec
  have hby := Bd.bytes
  have hml : c.maxLocals = 2 := hml0
  have hown : s.vm.findClass "com/example/tardy_post/tardypost/UndeliverableActionUmaStatusPinLaw" = some m.cls := findClass_of_methodNamed Bd.named
  have hnm := (name_of_methodNamed Bd.named Bd.method).1
  have X0 : Stand p l e ({ frames := 0, cells := 0, slots := 0, locals := 0 } : Room) s m #[(.int p1), (.int p2)] below meth c s₁ [] 0 0 := Stand.of_body Bd
  have e0 : s₁.heap = h0 := by rw [← hh, Bd.state]; rfl
  have N0 := Fr.nil n0
  have eF : entryFrame m #[(.int p1), (.int p2)] 2 = mkF m 0 #[.val (.int p1), .val (.int p2)] [] := by first | (simp [entryFrame, mkF, argsToLocals, Value.category]; done) | rfl
  show Ends p e below s ({ frames := 0, cells := 0, slots := 0, locals := 0 } : Room) (Q2 Z p1 p2 ds ls rs rf qs qf r h0 n0) (s₁.setTop (entryFrame m #[(.int p1), (.int p2)] 2))
  rw [eF]
  refine Ends.of (F' := s₁.setTop (mkF m 1 #[.val (.int p1), .val (.int p2)] [(.int p1)])) (fun _ kt => ?_) ?_
  · show Steps p.tables e below (s₁.setTop (mkF m 0 #[.val (.int p1), .val (.int p2)] [])) _
    refine XS.iloadN X0.here hx rfl (hb hby d2_0) rfl ?_
    exact kt
  by_cases hc1 : p1 = (0 : Int32)
  · refine Ends.of (F' := s₁.setTop (mkF m 5 #[.val (.int p1), .val (.int p2)] [(.int p2)])) (fun _ kt => ?_) ?_
    · show Steps p.tables e below (s₁.setTop (mkF m 1 #[.val (.int p1), .val (.int p2)] [(.int p1)])) _
      refine XS.ifNo X0.here hx rfl (hb hby d2_1) rfl ((if0 _ _).trans (teq hc1).2) ?_
      show Steps p.tables e below (s₁.setTop (mkF m 4 #[.val (.int p1), .val (.int p2)] [])) _
      refine XS.iloadN X0.here hx rfl (hb hby d2_4) rfl ?_
      exact kt
    by_cases hc5 : p2 = (0 : Int32)
    · refine Ends.of (F' := s₁.setTop (mkF m 15 #[.val (.int p1), .val (.int p2)] [.null])) (fun _ kt => ?_) ?_
      · show Steps p.tables e below (s₁.setTop (mkF m 5 #[.val (.int p1), .val (.int p2)] [(.int p2)])) _
        refine XS.ifYes X0.here hx rfl (pc0 := 5) (pc' := 14) rfl (hb hby d2_5) rfl ((if0 _ _).trans (teq hc5).1) (by decide) (by decide) ?_
        show Steps p.tables e below (s₁.setTop (mkF m 14 #[.val (.int p1), .val (.int p2)] [])) _
        refine XS.aconstNull X0.here hx rfl (hb hby d2_14) ?_
        exact kt
      obtain ⟨fs, hr, hrun, hended, hW, hsame⟩ := X0.leave (v := some .null) (fun h => by rw [Bd.returns] at h; cases h)
      refine ⟨_, _, ?_, hrun, hended, _, _, rfl, ⟨by rw [hre, own_ex, if_pos hc1, if_pos hc5], N0, e0⟩, ⟨_, rfl⟩, hW, hsame.mono (by decide) (by decide)⟩
      show Steps p.tables e below (s₁.setTop (mkF m 15 #[.val (.int p1), .val (.int p2)] [.null])) _
      jvm_step X0.here [X0.here.top, hx, (hb hby d2_15), X0.method', Bd.returns, Value.isRef, FieldType.isReference]
      first | (intro acts; rw [hr _ acts rfl rfl rfl]) | rw [hr _ _ rfl rfl rfl]
      exact Steps.refl _
    · refine Ends.of (F' := s₁.setTop (mkF m 8 #[.val (.int p1), .val (.int p2)] [])) (fun _ kt => ?_) ?_
      · show Steps p.tables e below (s₁.setTop (mkF m 5 #[.val (.int p1), .val (.int p2)] [(.int p2)])) _
        refine XS.ifNo X0.here hx rfl (hb hby d2_5) rfl ((if0 _ _).trans (feq hc5).1) ?_
        exact kt
      obtain ⟨T7, X7, e7, st7⟩ := getS2 X0 hx hZ hown (host := "") (Or.inl (hw _ (List.mem_of_getElem? (i := 11) rfl))) Via.refl e0 S_DISC_SUCCESS (g := (mkF m 8 #[.val (.int p1), .val (.int p2)] [])) rfl (hb hby d2_8)
      refine Ends.of st7 ?_
      refine Ends.of (F' := T7.setTop (mkF m 15 #[.val (.int p1), .val (.int p2)] [(.ref ds)])) (fun _ kt => ?_) ?_
      · show Steps p.tables e below (T7.setTop (mkF m 11 #[.val (.int p1), .val (.int p2)] [(.ref ds)])) _
        refine XS.goto X7.here hx rfl (pc0 := 11) (pc' := 15) rfl (hb hby d2_11) (by decide) (by decide) ?_
        exact kt
      obtain ⟨fs, hr, hrun, hended, hW, hsame⟩ := X7.leave (v := some (.ref ds)) (fun h => by rw [Bd.returns] at h; cases h)
      refine ⟨_, _, ?_, hrun, hended, _, _, rfl, ⟨by rw [hre, own_ex, if_pos hc1, if_neg hc5], N0, e7⟩, ⟨_, rfl⟩, hW, hsame.mono (by decide) (by decide)⟩
      show Steps p.tables e below (T7.setTop (mkF m 15 #[.val (.int p1), .val (.int p2)] [(.ref ds)])) _
      jvm_step X7.here [X7.here.top, hx, (hb hby d2_15), X7.method', Bd.returns, Value.isRef, FieldType.isReference]
      first | (intro acts; rw [hr _ acts rfl rfl rfl]) | rw [hr _ _ rfl rfl rfl]
      exact Steps.refl _
  · refine Ends.of (F' := s₁.setTop (mkF m 18 #[.val (.int p1), .val (.int p2)] [(.int (1 : Int32)), (.int p1)])) (fun _ kt => ?_) ?_
    · show Steps p.tables e below (s₁.setTop (mkF m 1 #[.val (.int p1), .val (.int p2)] [(.int p1)])) _
      refine XS.ifYes X0.here hx rfl (pc0 := 1) (pc' := 16) rfl (hb hby d2_1) rfl ((if0 _ _).trans (feq hc1).2) (by decide) (by decide) ?_
      show Steps p.tables e below (s₁.setTop (mkF m 16 #[.val (.int p1), .val (.int p2)] [])) _
      refine XS.iloadN X0.here hx rfl (hb hby d2_16) rfl ?_
      show Steps p.tables e below (s₁.setTop (mkF m 17 #[.val (.int p1), .val (.int p2)] [(.int p1)])) _
      refine XS.iconst X0.here hx rfl (hb hby d2_17) ?_
      exact kt
    by_cases hc18 : p1 = (1 : Int32)
    · refine Ends.of (F' := s₁.setTop (mkF m 22 #[.val (.int p1), .val (.int p2)] [(.int p2)])) (fun _ kt => ?_) ?_
      · show Steps p.tables e below (s₁.setTop (mkF m 18 #[.val (.int p1), .val (.int p2)] [(.int (1 : Int32)), (.int p1)])) _
        refine XS.icmpNo X0.here hx rfl (hb hby d2_18) rfl (teq hc18).2 ?_
        show Steps p.tables e below (s₁.setTop (mkF m 21 #[.val (.int p1), .val (.int p2)] [])) _
        refine XS.iloadN X0.here hx rfl (hb hby d2_21) rfl ?_
        exact kt
      by_cases hc22 : p2 = (0 : Int32)
      · refine Ends.of (F' := s₁.setTop (mkF m 32 #[.val (.int p1), .val (.int p2)] [.null])) (fun _ kt => ?_) ?_
        · show Steps p.tables e below (s₁.setTop (mkF m 22 #[.val (.int p1), .val (.int p2)] [(.int p2)])) _
          refine XS.ifYes X0.here hx rfl (pc0 := 22) (pc' := 31) rfl (hb hby d2_22) rfl ((if0 _ _).trans (teq hc22).1) (by decide) (by decide) ?_
          show Steps p.tables e below (s₁.setTop (mkF m 31 #[.val (.int p1), .val (.int p2)] [])) _
          refine XS.aconstNull X0.here hx rfl (hb hby d2_31) ?_
          exact kt
        obtain ⟨fs, hr, hrun, hended, hW, hsame⟩ := X0.leave (v := some .null) (fun h => by rw [Bd.returns] at h; cases h)
        refine ⟨_, _, ?_, hrun, hended, _, _, rfl, ⟨by rw [hre, own_ex, if_neg hc1, if_pos hc18, if_pos hc22], N0, e0⟩, ⟨_, rfl⟩, hW, hsame.mono (by decide) (by decide)⟩
        show Steps p.tables e below (s₁.setTop (mkF m 32 #[.val (.int p1), .val (.int p2)] [.null])) _
        jvm_step X0.here [X0.here.top, hx, (hb hby d2_32), X0.method', Bd.returns, Value.isRef, FieldType.isReference]
        first | (intro acts; rw [hr _ acts rfl rfl rfl]) | rw [hr _ _ rfl rfl rfl]
        exact Steps.refl _
      · refine Ends.of (F' := s₁.setTop (mkF m 25 #[.val (.int p1), .val (.int p2)] [])) (fun _ kt => ?_) ?_
        · show Steps p.tables e below (s₁.setTop (mkF m 22 #[.val (.int p1), .val (.int p2)] [(.int p2)])) _
          refine XS.ifNo X0.here hx rfl (hb hby d2_22) rfl ((if0 _ _).trans (feq hc22).1) ?_
          exact kt
        obtain ⟨T8, X8, e8, st8⟩ := getS2 X0 hx hZ hown (host := "") (Or.inl (hw _ (List.mem_of_getElem? (i := 38) rfl))) Via.refl e0 S_DISCL_SUCCESS (g := (mkF m 25 #[.val (.int p1), .val (.int p2)] [])) rfl (hb hby d2_25)
        refine Ends.of st8 ?_
        refine Ends.of (F' := T8.setTop (mkF m 32 #[.val (.int p1), .val (.int p2)] [(.ref ls)])) (fun _ kt => ?_) ?_
        · show Steps p.tables e below (T8.setTop (mkF m 28 #[.val (.int p1), .val (.int p2)] [(.ref ls)])) _
          refine XS.goto X8.here hx rfl (pc0 := 28) (pc' := 32) rfl (hb hby d2_28) (by decide) (by decide) ?_
          exact kt
        obtain ⟨fs, hr, hrun, hended, hW, hsame⟩ := X8.leave (v := some (.ref ls)) (fun h => by rw [Bd.returns] at h; cases h)
        refine ⟨_, _, ?_, hrun, hended, _, _, rfl, ⟨by rw [hre, own_ex, if_neg hc1, if_pos hc18, if_neg hc22], N0, e8⟩, ⟨_, rfl⟩, hW, hsame.mono (by decide) (by decide)⟩
        show Steps p.tables e below (T8.setTop (mkF m 32 #[.val (.int p1), .val (.int p2)] [(.ref ls)])) _
        jvm_step X8.here [X8.here.top, hx, (hb hby d2_32), X8.method', Bd.returns, Value.isRef, FieldType.isReference]
        first | (intro acts; rw [hr _ acts rfl rfl rfl]) | rw [hr _ _ rfl rfl rfl]
        exact Steps.refl _
    · refine Ends.of (F' := s₁.setTop (mkF m 35 #[.val (.int p1), .val (.int p2)] [(.int (2 : Int32)), (.int p1)])) (fun _ kt => ?_) ?_
      · show Steps p.tables e below (s₁.setTop (mkF m 18 #[.val (.int p1), .val (.int p2)] [(.int (1 : Int32)), (.int p1)])) _
        refine XS.icmpYes X0.here hx rfl (pc0 := 18) (pc' := 33) rfl (hb hby d2_18) rfl (feq hc18).2 (by decide) (by decide) ?_
        show Steps p.tables e below (s₁.setTop (mkF m 33 #[.val (.int p1), .val (.int p2)] [])) _
        refine XS.iloadN X0.here hx rfl (hb hby d2_33) rfl ?_
        show Steps p.tables e below (s₁.setTop (mkF m 34 #[.val (.int p1), .val (.int p2)] [(.int p1)])) _
        refine XS.iconst X0.here hx rfl (hb hby d2_34) ?_
        exact kt
      by_cases hc35 : p1 = (2 : Int32)
      · refine Ends.of (F' := s₁.setTop (mkF m 39 #[.val (.int p1), .val (.int p2)] [(.int p2)])) (fun _ kt => ?_) ?_
        · show Steps p.tables e below (s₁.setTop (mkF m 35 #[.val (.int p1), .val (.int p2)] [(.int (2 : Int32)), (.int p1)])) _
          refine XS.icmpNo X0.here hx rfl (hb hby d2_35) rfl (teq hc35).2 ?_
          show Steps p.tables e below (s₁.setTop (mkF m 38 #[.val (.int p1), .val (.int p2)] [])) _
          refine XS.iloadN X0.here hx rfl (hb hby d2_38) rfl ?_
          exact kt
        by_cases hc39 : p2 = (0 : Int32)
        · refine Ends.of (F' := s₁.setTop (mkF m 48 #[.val (.int p1), .val (.int p2)] [])) (fun _ kt => ?_) ?_
          · show Steps p.tables e below (s₁.setTop (mkF m 39 #[.val (.int p1), .val (.int p2)] [(.int p2)])) _
            refine XS.ifYes X0.here hx rfl (pc0 := 39) (pc' := 48) rfl (hb hby d2_39) rfl ((if0 _ _).trans (teq hc39).1) (by decide) (by decide) ?_
            exact kt
          obtain ⟨T9, X9, e9, st9⟩ := getS2 X0 hx hZ hown (host := "") (Or.inl (hw _ (List.mem_of_getElem? (i := 30) rfl))) Via.refl e0 S_RTS_FAIL (g := (mkF m 48 #[.val (.int p1), .val (.int p2)] [])) rfl (hb hby d2_48)
          refine Ends.of st9 ?_
          obtain ⟨fs, hr, hrun, hended, hW, hsame⟩ := X9.leave (v := some (.ref rf)) (fun h => by rw [Bd.returns] at h; cases h)
          refine ⟨_, _, ?_, hrun, hended, _, _, rfl, ⟨by rw [hre, own_ex, if_neg hc1, if_neg hc18, if_pos hc35, if_pos hc39], N0, e9⟩, ⟨_, rfl⟩, hW, hsame.mono (by decide) (by decide)⟩
          show Steps p.tables e below (T9.setTop (mkF m 51 #[.val (.int p1), .val (.int p2)] [(.ref rf)])) _
          jvm_step X9.here [X9.here.top, hx, (hb hby d2_51), X9.method', Bd.returns, Value.isRef, FieldType.isReference]
          first | (intro acts; rw [hr _ acts rfl rfl rfl]) | rw [hr _ _ rfl rfl rfl]
          exact Steps.refl _
        · refine Ends.of (F' := s₁.setTop (mkF m 42 #[.val (.int p1), .val (.int p2)] [])) (fun _ kt => ?_) ?_
          · show Steps p.tables e below (s₁.setTop (mkF m 39 #[.val (.int p1), .val (.int p2)] [(.int p2)])) _
            refine XS.ifNo X0.here hx rfl (hb hby d2_39) rfl ((if0 _ _).trans (feq hc39).1) ?_
            exact kt
          obtain ⟨T10, X10, e10, st10⟩ := getS2 X0 hx hZ hown (host := "") (Or.inl (hw _ (List.mem_of_getElem? (i := 28) rfl))) Via.refl e0 S_RTS_SUCCESS (g := (mkF m 42 #[.val (.int p1), .val (.int p2)] [])) rfl (hb hby d2_42)
          refine Ends.of st10 ?_
          refine Ends.of (F' := T10.setTop (mkF m 51 #[.val (.int p1), .val (.int p2)] [(.ref rs)])) (fun _ kt => ?_) ?_
          · show Steps p.tables e below (T10.setTop (mkF m 45 #[.val (.int p1), .val (.int p2)] [(.ref rs)])) _
            refine XS.goto X10.here hx rfl (pc0 := 45) (pc' := 51) rfl (hb hby d2_45) (by decide) (by decide) ?_
            exact kt
          obtain ⟨fs, hr, hrun, hended, hW, hsame⟩ := X10.leave (v := some (.ref rs)) (fun h => by rw [Bd.returns] at h; cases h)
          refine ⟨_, _, ?_, hrun, hended, _, _, rfl, ⟨by rw [hre, own_ex, if_neg hc1, if_neg hc18, if_pos hc35, if_neg hc39], N0, e10⟩, ⟨_, rfl⟩, hW, hsame.mono (by decide) (by decide)⟩
          show Steps p.tables e below (T10.setTop (mkF m 51 #[.val (.int p1), .val (.int p2)] [(.ref rs)])) _
          jvm_step X10.here [X10.here.top, hx, (hb hby d2_51), X10.method', Bd.returns, Value.isRef, FieldType.isReference]
          first | (intro acts; rw [hr _ acts rfl rfl rfl]) | rw [hr _ _ rfl rfl rfl]
          exact Steps.refl _
      · refine Ends.of (F' := s₁.setTop (mkF m 54 #[.val (.int p1), .val (.int p2)] [(.int (3 : Int32)), (.int p1)])) (fun _ kt => ?_) ?_
        · show Steps p.tables e below (s₁.setTop (mkF m 35 #[.val (.int p1), .val (.int p2)] [(.int (2 : Int32)), (.int p1)])) _
          refine XS.icmpYes X0.here hx rfl (pc0 := 35) (pc' := 52) rfl (hb hby d2_35) rfl (feq hc35).2 (by decide) (by decide) ?_
          show Steps p.tables e below (s₁.setTop (mkF m 52 #[.val (.int p1), .val (.int p2)] [])) _
          refine XS.iloadN X0.here hx rfl (hb hby d2_52) rfl ?_
          show Steps p.tables e below (s₁.setTop (mkF m 53 #[.val (.int p1), .val (.int p2)] [(.int p1)])) _
          refine XS.iconst X0.here hx rfl (hb hby d2_53) ?_
          exact kt
        by_cases hc54 : p1 = (3 : Int32)
        · refine Ends.of (F' := s₁.setTop (mkF m 58 #[.val (.int p1), .val (.int p2)] [(.int p2)])) (fun _ kt => ?_) ?_
          · show Steps p.tables e below (s₁.setTop (mkF m 54 #[.val (.int p1), .val (.int p2)] [(.int (3 : Int32)), (.int p1)])) _
            refine XS.icmpNo X0.here hx rfl (hb hby d2_54) rfl (teq hc54).2 ?_
            show Steps p.tables e below (s₁.setTop (mkF m 57 #[.val (.int p1), .val (.int p2)] [])) _
            refine XS.iloadN X0.here hx rfl (hb hby d2_57) rfl ?_
            exact kt
          by_cases hc58 : p2 = (0 : Int32)
          · refine Ends.of (F' := s₁.setTop (mkF m 67 #[.val (.int p1), .val (.int p2)] [])) (fun _ kt => ?_) ?_
            · show Steps p.tables e below (s₁.setTop (mkF m 58 #[.val (.int p1), .val (.int p2)] [(.int p2)])) _
              refine XS.ifYes X0.here hx rfl (pc0 := 58) (pc' := 67) rfl (hb hby d2_58) rfl ((if0 _ _).trans (teq hc58).1) (by decide) (by decide) ?_
              exact kt
            obtain ⟨T11, X11, e11, st11⟩ := getS2 X0 hx hZ hown (host := "") (Or.inl (hw _ (List.mem_of_getElem? (i := 46) rfl))) Via.refl e0 S_DLQ_FAILED (g := (mkF m 67 #[.val (.int p1), .val (.int p2)] [])) rfl (hb hby d2_67)
            refine Ends.of st11 ?_
            obtain ⟨fs, hr, hrun, hended, hW, hsame⟩ := X11.leave (v := some (.ref qf)) (fun h => by rw [Bd.returns] at h; cases h)
            refine ⟨_, _, ?_, hrun, hended, _, _, rfl, ⟨by rw [hre, own_ex, if_neg hc1, if_neg hc18, if_neg hc35, if_pos hc54, if_pos hc58], N0, e11⟩, ⟨_, rfl⟩, hW, hsame.mono (by decide) (by decide)⟩
            show Steps p.tables e below (T11.setTop (mkF m 70 #[.val (.int p1), .val (.int p2)] [(.ref qf)])) _
            jvm_step X11.here [X11.here.top, hx, (hb hby d2_70), X11.method', Bd.returns, Value.isRef, FieldType.isReference]
            first | (intro acts; rw [hr _ acts rfl rfl rfl]) | rw [hr _ _ rfl rfl rfl]
            exact Steps.refl _
          · refine Ends.of (F' := s₁.setTop (mkF m 61 #[.val (.int p1), .val (.int p2)] [])) (fun _ kt => ?_) ?_
            · show Steps p.tables e below (s₁.setTop (mkF m 58 #[.val (.int p1), .val (.int p2)] [(.int p2)])) _
              refine XS.ifNo X0.here hx rfl (hb hby d2_58) rfl ((if0 _ _).trans (feq hc58).1) ?_
              exact kt
            obtain ⟨T12, X12, e12, st12⟩ := getS2 X0 hx hZ hown (host := "") (Or.inl (hw _ (List.mem_of_getElem? (i := 44) rfl))) Via.refl e0 S_DLQ_SUCCESS (g := (mkF m 61 #[.val (.int p1), .val (.int p2)] [])) rfl (hb hby d2_61)
            refine Ends.of st12 ?_
            refine Ends.of (F' := T12.setTop (mkF m 70 #[.val (.int p1), .val (.int p2)] [(.ref qs)])) (fun _ kt => ?_) ?_
            · show Steps p.tables e below (T12.setTop (mkF m 64 #[.val (.int p1), .val (.int p2)] [(.ref qs)])) _
              refine XS.goto X12.here hx rfl (pc0 := 64) (pc' := 70) rfl (hb hby d2_64) (by decide) (by decide) ?_
              exact kt
            obtain ⟨fs, hr, hrun, hended, hW, hsame⟩ := X12.leave (v := some (.ref qs)) (fun h => by rw [Bd.returns] at h; cases h)
            refine ⟨_, _, ?_, hrun, hended, _, _, rfl, ⟨by rw [hre, own_ex, if_neg hc1, if_neg hc18, if_neg hc35, if_pos hc54, if_neg hc58], N0, e12⟩, ⟨_, rfl⟩, hW, hsame.mono (by decide) (by decide)⟩
            show Steps p.tables e below (T12.setTop (mkF m 70 #[.val (.int p1), .val (.int p2)] [(.ref qs)])) _
            jvm_step X12.here [X12.here.top, hx, (hb hby d2_70), X12.method', Bd.returns, Value.isRef, FieldType.isReference]
            first | (intro acts; rw [hr _ acts rfl rfl rfl]) | rw [hr _ _ rfl rfl rfl]
            exact Steps.refl _
        · refine Ends.of (F' := s₁.setTop (mkF m 72 #[.val (.int p1), .val (.int p2)] [.null])) (fun _ kt => ?_) ?_
          · show Steps p.tables e below (s₁.setTop (mkF m 54 #[.val (.int p1), .val (.int p2)] [(.int (3 : Int32)), (.int p1)])) _
            refine XS.icmpYes X0.here hx rfl (pc0 := 54) (pc' := 71) rfl (hb hby d2_54) rfl (feq hc54).2 (by decide) (by decide) ?_
            show Steps p.tables e below (s₁.setTop (mkF m 71 #[.val (.int p1), .val (.int p2)] [])) _
            refine XS.aconstNull X0.here hx rfl (hb hby d2_71) ?_
            exact kt
          obtain ⟨fs, hr, hrun, hended, hW, hsame⟩ := X0.leave (v := some .null) (fun h => by rw [Bd.returns] at h; cases h)
          refine ⟨_, _, ?_, hrun, hended, _, _, rfl, ⟨by rw [hre, own_ex, if_neg hc1, if_neg hc18, if_neg hc35, if_neg hc54], N0, e0⟩, ⟨_, rfl⟩, hW, hsame.mono (by decide) (by decide)⟩
          show Steps p.tables e below (s₁.setTop (mkF m 72 #[.val (.int p1), .val (.int p2)] [.null])) _
          jvm_step X0.here [X0.here.top, hx, (hb hby d2_72), X0.method', Bd.returns, Value.isRef, FieldType.isReference]
          first | (intro acts; rw [hr _ acts rfl rfl rfl]) | rw [hr _ _ rfl rfl rfl]
          exact Steps.refl _
theorem d3_0 : decode prog_102_method_6_code 0 = .ok (.iload_n 1, 1) := by decide +kernel
theorem d3_1 : decode prog_102_method_6_code 1 = .ok (.ifCond .eq 10, 3) := by decide +kernel
theorem d3_4 : decode prog_102_method_6_code 4 = .ok (.aload_n 0, 1) := by decide +kernel
theorem d3_5 : decode prog_102_method_6_code 5 = .ok (.getfield 41, 3) := by decide +kernel
theorem d3_8 : decode prog_102_method_6_code 8 = .ok (.goto 7, 3) := by decide +kernel
theorem d3_11 : decode prog_102_method_6_code 11 = .ok (.aload_n 0, 1) := by decide +kernel
theorem d3_12 : decode prog_102_method_6_code 12 = .ok (.getfield 45, 3) := by decide +kernel
theorem d3_15 : decode prog_102_method_6_code 15 = .ok (.areturn, 1) := by decide +kernel
theorem pn_1 : plainName "com/example/tardy_post/tardypost/UndeliverableAction" = true := by first | (simp [plainName, overriddenIn]; done) | decide +kernel
def Q_uma_00 (Z : State) (a1 : Addr) (r : Addr) (h0 : Heap) (n0 : Nat) (v : Option Value) (h : Heap) (L : List Loc) : Prop := v = some (.ref r) ∧ Fr n0 L ∧ h = h0
set_option maxRecDepth 65536 in
set_option maxHeartbeats 40000000 in
theorem uma_00 (l : Launch) (Z : State) (a0 : Array Value) (hw : ∀ d ∈ tables_1, d.before a0 Z = true) (ws : List Jvm.Cond) (a1 : Addr) (r : Addr) (h0 : Heap) (n0 : Nat) (Z0 : n0 ≤ h0.size) (F_f : Fld Z h0 a1 "com/example/tardy_post/tardypost/UndeliverableAction" "failed" "Lcom/example/tardy_post/tardypost/UmaStatus;" (.ref r)) :
    MetFree l (⟨"com/example/tardy_post/tardypost/UndeliverableAction", "umaStatus", "(Z)Lcom/example/tardy_post/tardypost/UmaStatus;"⟩ : MethodName) (head1 (Jvm.Cond.code (⟨"com/example/tardy_post/tardypost/UndeliverableAction", "umaStatus", "(Z)Lcom/example/tardy_post/tardypost/UmaStatus;"⟩ : MethodName) prog_102_method_6_code 2 (some (.object "com/example/tardy_post/tardypost/UmaStatus")) :: ws) ({ frames := 0, cells := 0, slots := 0, locals := 0 } : Room)) (fun a U => a = #[(.ref a1), (.int (0 : Int32))] ∧ Z.Warmed39 U.vm ∧ U.heap = h0) (fun _ _ _ _ _ => True) (fun _ U o U' => ∃ v L, o = .returned v ∧ Q_uma_00 Z a1 r h0 n0 v U'.heap L ∧ FrameEnd U o U' L ({ frames := 0, cells := 0, slots := 0, locals := 0 } : Room).cells ({ frames := 0, cells := 0, slots := 0, locals := 0 } : Room).slots) := by
  refine MetFree.of_bodySF (plainFor_of_name pn_1) hisR ?_
  intro p e s m args below meth c s₁ Bd hml0 hP hK
  obtain ⟨rfl, hZ, hh⟩ := hP
  have hx := Bd.exec
  have hby := Bd.bytes
  have hml : c.maxLocals = 2 := hml0
  have hown : s.vm.findClass "com/example/tardy_post/tardypost/UndeliverableAction" = some m.cls := findClass_of_methodNamed Bd.named
  have hnm := (name_of_methodNamed Bd.named Bd.method).1
  have X0 : Stand p l e ({ frames := 0, cells := 0, slots := 0, locals := 0 } : Room) s m #[(.ref a1), (.int (0 : Int32))] below meth c s₁ [] 0 0 := Stand.of_body Bd
  have e0 : s₁.heap = h0 := by rw [← hh, Bd.state]; rfl
  have N0 := Fr.nil n0
  have eF : entryFrame m #[(.ref a1), (.int (0 : Int32))] 2 = mkF m 0 #[.val (.ref a1), .val (.int (0 : Int32))] [] := by first | (simp [entryFrame, mkF, argsToLocals, Value.category]; done) | rfl
  show Ends p e below s ({ frames := 0, cells := 0, slots := 0, locals := 0 } : Room) (Q_uma_00 Z a1 r h0 n0) (s₁.setTop (entryFrame m #[(.ref a1), (.int (0 : Int32))] 2))
  rw [eF]
  refine Ends.of (F' := s₁.setTop (mkF m 12 #[.val (.ref a1), .val (.int (0 : Int32))] [(.ref a1)])) (fun _ kt => ?_) ?_
  · show Steps p.tables e below (s₁.setTop (mkF m 0 #[.val (.ref a1), .val (.int (0 : Int32))] [])) _
    refine XS.iloadN X0.here hx rfl (hb hby d3_0) rfl ?_
    show Steps p.tables e below (s₁.setTop (mkF m 1 #[.val (.ref a1), .val (.int (0 : Int32))] [(.int (0 : Int32))])) _
    refine XS.ifYes X0.here hx rfl (pc0 := 1) (pc' := 11) rfl (hb hby d3_1) rfl ((if0 _ _).trans (teq rfl).1) (by decide) (by decide) ?_
    show Steps p.tables e below (s₁.setTop (mkF m 11 #[.val (.ref a1), .val (.int (0 : Int32))] [])) _
    refine XS.aloadN X0.here hx rfl (hb hby d3_11) rfl rfl ?_
    exact kt
  obtain ⟨T13, X13, e13, st13⟩ := getF X0 hx hZ hown (host := "") (Or.inl (hw _ (List.mem_of_getElem? (i := 32) rfl))) Via.refl e0 F_f (g := (mkF m 12 #[.val (.ref a1), .val (.int (0 : Int32))] [(.ref a1)])) rfl rfl (hb hby d3_12)
  refine Ends.of st13 ?_
  obtain ⟨fs, hr, hrun, hended, hW, hsame⟩ := X13.leave (v := some (.ref r)) (fun h => by rw [Bd.returns] at h; cases h)
  refine ⟨_, _, ?_, hrun, hended, _, _, rfl, ⟨rfl, N0, e13⟩, ⟨_, rfl⟩, hW, hsame.mono (by decide) (by decide)⟩
  show Steps p.tables e below (T13.setTop (mkF m 15 #[.val (.ref a1), .val (.int (0 : Int32))] [(.ref r)])) _
  jvm_step X13.here [X13.here.top, hx, (hb hby d3_15), X13.method', Bd.returns, Value.isRef, FieldType.isReference]
  first | (intro acts; rw [hr _ acts rfl rfl rfl]) | rw [hr _ _ rfl rfl rfl]
  exact Steps.refl _
def Q_uma_01 (Z : State) (a1 : Addr) (r : Addr) (h0 : Heap) (n0 : Nat) (v : Option Value) (h : Heap) (L : List Loc) : Prop := v = some .null ∧ Fr n0 L ∧ h = h0
set_option maxRecDepth 65536 in
set_option maxHeartbeats 40000000 in
theorem uma_01 (l : Launch) (Z : State) (a0 : Array Value) (hw : ∀ d ∈ tables_1, d.before a0 Z = true) (ws : List Jvm.Cond) (a1 : Addr) (r : Addr) (h0 : Heap) (n0 : Nat) (Z0 : n0 ≤ h0.size) (F_f : Fld Z h0 a1 "com/example/tardy_post/tardypost/UndeliverableAction" "failed" "Lcom/example/tardy_post/tardypost/UmaStatus;" .null) :
    MetFree l (⟨"com/example/tardy_post/tardypost/UndeliverableAction", "umaStatus", "(Z)Lcom/example/tardy_post/tardypost/UmaStatus;"⟩ : MethodName) (head1 (Jvm.Cond.code (⟨"com/example/tardy_post/tardypost/UndeliverableAction", "umaStatus", "(Z)Lcom/example/tardy_post/tardypost/UmaStatus;"⟩ : MethodName) prog_102_method_6_code 2 (some (.object "com/example/tardy_post/tardypost/UmaStatus")) :: ws) ({ frames := 0, cells := 0, slots := 0, locals := 0 } : Room)) (fun a U => a = #[(.ref a1), (.int (0 : Int32))] ∧ Z.Warmed39 U.vm ∧ U.heap = h0) (fun _ _ _ _ _ => True) (fun _ U o U' => ∃ v L, o = .returned v ∧ Q_uma_01 Z a1 r h0 n0 v U'.heap L ∧ FrameEnd U o U' L ({ frames := 0, cells := 0, slots := 0, locals := 0 } : Room).cells ({ frames := 0, cells := 0, slots := 0, locals := 0 } : Room).slots) := by
  refine MetFree.of_bodySF (plainFor_of_name pn_1) hisR ?_
  intro p e s m args below meth c s₁ Bd hml0 hP hK
  obtain ⟨rfl, hZ, hh⟩ := hP
  have hx := Bd.exec
  have hby := Bd.bytes
  have hml : c.maxLocals = 2 := hml0
  have hown : s.vm.findClass "com/example/tardy_post/tardypost/UndeliverableAction" = some m.cls := findClass_of_methodNamed Bd.named
  have hnm := (name_of_methodNamed Bd.named Bd.method).1
  have X0 : Stand p l e ({ frames := 0, cells := 0, slots := 0, locals := 0 } : Room) s m #[(.ref a1), (.int (0 : Int32))] below meth c s₁ [] 0 0 := Stand.of_body Bd
  have e0 : s₁.heap = h0 := by rw [← hh, Bd.state]; rfl
  have N0 := Fr.nil n0
  have eF : entryFrame m #[(.ref a1), (.int (0 : Int32))] 2 = mkF m 0 #[.val (.ref a1), .val (.int (0 : Int32))] [] := by first | (simp [entryFrame, mkF, argsToLocals, Value.category]; done) | rfl
  show Ends p e below s ({ frames := 0, cells := 0, slots := 0, locals := 0 } : Room) (Q_uma_01 Z a1 r h0 n0) (s₁.setTop (entryFrame m #[(.ref a1), (.int (0 : Int32))] 2))
  rw [eF]
  refine Ends.of (F' := s₁.setTop (mkF m 12 #[.val (.ref a1), .val (.int (0 : Int32))] [(.ref a1)])) (fun _ kt => ?_) ?_
  · show Steps p.tables e below (s₁.setTop (mkF m 0 #[.val (.ref a1), .val (.int (0 : Int32))] [])) _
    refine XS.iloadN X0.here hx rfl (hb hby d3_0) rfl ?_
    show Steps p.tables e below (s₁.setTop (mkF m 1 #[.val (.ref a1), .val (.int (0 : Int32))] [(.int (0 : Int32))])) _
    refine XS.ifYes X0.here hx rfl (pc0 := 1) (pc' := 11) rfl (hb hby d3_1) rfl ((if0 _ _).trans (teq rfl).1) (by decide) (by decide) ?_
    show Steps p.tables e below (s₁.setTop (mkF m 11 #[.val (.ref a1), .val (.int (0 : Int32))] [])) _
    refine XS.aloadN X0.here hx rfl (hb hby d3_11) rfl rfl ?_
    exact kt
  obtain ⟨T14, X14, e14, st14⟩ := getF X0 hx hZ hown (host := "") (Or.inl (hw _ (List.mem_of_getElem? (i := 32) rfl))) Via.refl e0 F_f (g := (mkF m 12 #[.val (.ref a1), .val (.int (0 : Int32))] [(.ref a1)])) rfl rfl (hb hby d3_12)
  refine Ends.of st14 ?_
  obtain ⟨fs, hr, hrun, hended, hW, hsame⟩ := X14.leave (v := some .null) (fun h => by rw [Bd.returns] at h; cases h)
  refine ⟨_, _, ?_, hrun, hended, _, _, rfl, ⟨rfl, N0, e14⟩, ⟨_, rfl⟩, hW, hsame.mono (by decide) (by decide)⟩
  show Steps p.tables e below (T14.setTop (mkF m 15 #[.val (.ref a1), .val (.int (0 : Int32))] [.null])) _
  jvm_step X14.here [X14.here.top, hx, (hb hby d3_15), X14.method', Bd.returns, Value.isRef, FieldType.isReference]
  first | (intro acts; rw [hr _ acts rfl rfl rfl]) | rw [hr _ _ rfl rfl rfl]
  exact Steps.refl _
def Q_uma_10 (Z : State) (a1 : Addr) (r : Addr) (h0 : Heap) (n0 : Nat) (v : Option Value) (h : Heap) (L : List Loc) : Prop := v = some (.ref r) ∧ Fr n0 L ∧ h = h0
set_option maxRecDepth 65536 in
set_option maxHeartbeats 40000000 in
theorem uma_10 (l : Launch) (Z : State) (a0 : Array Value) (hw : ∀ d ∈ tables_1, d.before a0 Z = true) (ws : List Jvm.Cond) (a1 : Addr) (r : Addr) (h0 : Heap) (n0 : Nat) (Z0 : n0 ≤ h0.size) (F_d : Fld Z h0 a1 "com/example/tardy_post/tardypost/UndeliverableAction" "done" "Lcom/example/tardy_post/tardypost/UmaStatus;" (.ref r)) :
    MetFree l (⟨"com/example/tardy_post/tardypost/UndeliverableAction", "umaStatus", "(Z)Lcom/example/tardy_post/tardypost/UmaStatus;"⟩ : MethodName) (head1 (Jvm.Cond.code (⟨"com/example/tardy_post/tardypost/UndeliverableAction", "umaStatus", "(Z)Lcom/example/tardy_post/tardypost/UmaStatus;"⟩ : MethodName) prog_102_method_6_code 2 (some (.object "com/example/tardy_post/tardypost/UmaStatus")) :: ws) ({ frames := 0, cells := 0, slots := 0, locals := 0 } : Room)) (fun a U => a = #[(.ref a1), (.int (1 : Int32))] ∧ Z.Warmed39 U.vm ∧ U.heap = h0) (fun _ _ _ _ _ => True) (fun _ U o U' => ∃ v L, o = .returned v ∧ Q_uma_10 Z a1 r h0 n0 v U'.heap L ∧ FrameEnd U o U' L ({ frames := 0, cells := 0, slots := 0, locals := 0 } : Room).cells ({ frames := 0, cells := 0, slots := 0, locals := 0 } : Room).slots) := by
  refine MetFree.of_bodySF (plainFor_of_name pn_1) hisR ?_
  intro p e s m args below meth c s₁ Bd hml0 hP hK
  obtain ⟨rfl, hZ, hh⟩ := hP
  have hx := Bd.exec
  have hby := Bd.bytes
  have hml : c.maxLocals = 2 := hml0
  have hown : s.vm.findClass "com/example/tardy_post/tardypost/UndeliverableAction" = some m.cls := findClass_of_methodNamed Bd.named
  have hnm := (name_of_methodNamed Bd.named Bd.method).1
  have X0 : Stand p l e ({ frames := 0, cells := 0, slots := 0, locals := 0 } : Room) s m #[(.ref a1), (.int (1 : Int32))] below meth c s₁ [] 0 0 := Stand.of_body Bd
  have e0 : s₁.heap = h0 := by rw [← hh, Bd.state]; rfl
  have N0 := Fr.nil n0
  have eF : entryFrame m #[(.ref a1), (.int (1 : Int32))] 2 = mkF m 0 #[.val (.ref a1), .val (.int (1 : Int32))] [] := by first | (simp [entryFrame, mkF, argsToLocals, Value.category]; done) | rfl
  show Ends p e below s ({ frames := 0, cells := 0, slots := 0, locals := 0 } : Room) (Q_uma_10 Z a1 r h0 n0) (s₁.setTop (entryFrame m #[(.ref a1), (.int (1 : Int32))] 2))
  rw [eF]
  refine Ends.of (F' := s₁.setTop (mkF m 5 #[.val (.ref a1), .val (.int (1 : Int32))] [(.ref a1)])) (fun _ kt => ?_) ?_
  · show Steps p.tables e below (s₁.setTop (mkF m 0 #[.val (.ref a1), .val (.int (1 : Int32))] [])) _
    refine XS.iloadN X0.here hx rfl (hb hby d3_0) rfl ?_
    show Steps p.tables e below (s₁.setTop (mkF m 1 #[.val (.ref a1), .val (.int (1 : Int32))] [(.int (1 : Int32))])) _
    refine XS.ifNo X0.here hx rfl (hb hby d3_1) rfl ((if0 _ _).trans (feq (by decide)).1) ?_
    show Steps p.tables e below (s₁.setTop (mkF m 4 #[.val (.ref a1), .val (.int (1 : Int32))] [])) _
    refine XS.aloadN X0.here hx rfl (hb hby d3_4) rfl rfl ?_
    exact kt
  obtain ⟨T15, X15, e15, st15⟩ := getF X0 hx hZ hown (host := "") (Or.inl (hw _ (List.mem_of_getElem? (i := 19) rfl))) Via.refl e0 F_d (g := (mkF m 5 #[.val (.ref a1), .val (.int (1 : Int32))] [(.ref a1)])) rfl rfl (hb hby d3_5)
  refine Ends.of st15 ?_
  refine Ends.of (F' := T15.setTop (mkF m 15 #[.val (.ref a1), .val (.int (1 : Int32))] [(.ref r)])) (fun _ kt => ?_) ?_
  · show Steps p.tables e below (T15.setTop (mkF m 8 #[.val (.ref a1), .val (.int (1 : Int32))] [(.ref r)])) _
    refine XS.goto X15.here hx rfl (pc0 := 8) (pc' := 15) rfl (hb hby d3_8) (by decide) (by decide) ?_
    exact kt
  obtain ⟨fs, hr, hrun, hended, hW, hsame⟩ := X15.leave (v := some (.ref r)) (fun h => by rw [Bd.returns] at h; cases h)
  refine ⟨_, _, ?_, hrun, hended, _, _, rfl, ⟨rfl, N0, e15⟩, ⟨_, rfl⟩, hW, hsame.mono (by decide) (by decide)⟩
  show Steps p.tables e below (T15.setTop (mkF m 15 #[.val (.ref a1), .val (.int (1 : Int32))] [(.ref r)])) _
  jvm_step X15.here [X15.here.top, hx, (hb hby d3_15), X15.method', Bd.returns, Value.isRef, FieldType.isReference]
  first | (intro acts; rw [hr _ acts rfl rfl rfl]) | rw [hr _ _ rfl rfl rfl]
  exact Steps.refl _
def Q_uma_11 (Z : State) (a1 : Addr) (r : Addr) (h0 : Heap) (n0 : Nat) (v : Option Value) (h : Heap) (L : List Loc) : Prop := v = some .null ∧ Fr n0 L ∧ h = h0
set_option maxRecDepth 65536 in
set_option maxHeartbeats 40000000 in
theorem uma_11 (l : Launch) (Z : State) (a0 : Array Value) (hw : ∀ d ∈ tables_1, d.before a0 Z = true) (ws : List Jvm.Cond) (a1 : Addr) (r : Addr) (h0 : Heap) (n0 : Nat) (Z0 : n0 ≤ h0.size) (F_d : Fld Z h0 a1 "com/example/tardy_post/tardypost/UndeliverableAction" "done" "Lcom/example/tardy_post/tardypost/UmaStatus;" .null) :
    MetFree l (⟨"com/example/tardy_post/tardypost/UndeliverableAction", "umaStatus", "(Z)Lcom/example/tardy_post/tardypost/UmaStatus;"⟩ : MethodName) (head1 (Jvm.Cond.code (⟨"com/example/tardy_post/tardypost/UndeliverableAction", "umaStatus", "(Z)Lcom/example/tardy_post/tardypost/UmaStatus;"⟩ : MethodName) prog_102_method_6_code 2 (some (.object "com/example/tardy_post/tardypost/UmaStatus")) :: ws) ({ frames := 0, cells := 0, slots := 0, locals := 0 } : Room)) (fun a U => a = #[(.ref a1), (.int (1 : Int32))] ∧ Z.Warmed39 U.vm ∧ U.heap = h0) (fun _ _ _ _ _ => True) (fun _ U o U' => ∃ v L, o = .returned v ∧ Q_uma_11 Z a1 r h0 n0 v U'.heap L ∧ FrameEnd U o U' L ({ frames := 0, cells := 0, slots := 0, locals := 0 } : Room).cells ({ frames := 0, cells := 0, slots := 0, locals := 0 } : Room).slots) := by
  refine MetFree.of_bodySF (plainFor_of_name pn_1) hisR ?_
  intro p e s m args below meth c s₁ Bd hml0 hP hK
  obtain ⟨rfl, hZ, hh⟩ := hP
  have hx := Bd.exec
  have hby := Bd.bytes
  have hml : c.maxLocals = 2 := hml0
  have hown : s.vm.findClass "com/example/tardy_post/tardypost/UndeliverableAction" = some m.cls := findClass_of_methodNamed Bd.named
  have hnm := (name_of_methodNamed Bd.named Bd.method).1
  have X0 : Stand p l e ({ frames := 0, cells := 0, slots := 0, locals := 0 } : Room) s m #[(.ref a1), (.int (1 : Int32))] below meth c s₁ [] 0 0 := Stand.of_body Bd
  have e0 : s₁.heap = h0 := by rw [← hh, Bd.state]; rfl
  have N0 := Fr.nil n0
  have eF : entryFrame m #[(.ref a1), (.int (1 : Int32))] 2 = mkF m 0 #[.val (.ref a1), .val (.int (1 : Int32))] [] := by first | (simp [entryFrame, mkF, argsToLocals, Value.category]; done) | rfl
  show Ends p e below s ({ frames := 0, cells := 0, slots := 0, locals := 0 } : Room) (Q_uma_11 Z a1 r h0 n0) (s₁.setTop (entryFrame m #[(.ref a1), (.int (1 : Int32))] 2))
  rw [eF]
  refine Ends.of (F' := s₁.setTop (mkF m 5 #[.val (.ref a1), .val (.int (1 : Int32))] [(.ref a1)])) (fun _ kt => ?_) ?_
  · show Steps p.tables e below (s₁.setTop (mkF m 0 #[.val (.ref a1), .val (.int (1 : Int32))] [])) _
    refine XS.iloadN X0.here hx rfl (hb hby d3_0) rfl ?_
    show Steps p.tables e below (s₁.setTop (mkF m 1 #[.val (.ref a1), .val (.int (1 : Int32))] [(.int (1 : Int32))])) _
    refine XS.ifNo X0.here hx rfl (hb hby d3_1) rfl ((if0 _ _).trans (feq (by decide)).1) ?_
    show Steps p.tables e below (s₁.setTop (mkF m 4 #[.val (.ref a1), .val (.int (1 : Int32))] [])) _
    refine XS.aloadN X0.here hx rfl (hb hby d3_4) rfl rfl ?_
    exact kt
  obtain ⟨T16, X16, e16, st16⟩ := getF X0 hx hZ hown (host := "") (Or.inl (hw _ (List.mem_of_getElem? (i := 19) rfl))) Via.refl e0 F_d (g := (mkF m 5 #[.val (.ref a1), .val (.int (1 : Int32))] [(.ref a1)])) rfl rfl (hb hby d3_5)
  refine Ends.of st16 ?_
  refine Ends.of (F' := T16.setTop (mkF m 15 #[.val (.ref a1), .val (.int (1 : Int32))] [.null])) (fun _ kt => ?_) ?_
  · show Steps p.tables e below (T16.setTop (mkF m 8 #[.val (.ref a1), .val (.int (1 : Int32))] [.null])) _
    refine XS.goto X16.here hx rfl (pc0 := 8) (pc' := 15) rfl (hb hby d3_8) (by decide) (by decide) ?_
    exact kt
  obtain ⟨fs, hr, hrun, hended, hW, hsame⟩ := X16.leave (v := some .null) (fun h => by rw [Bd.returns] at h; cases h)
  refine ⟨_, _, ?_, hrun, hended, _, _, rfl, ⟨rfl, N0, e16⟩, ⟨_, rfl⟩, hW, hsame.mono (by decide) (by decide)⟩
  show Steps p.tables e below (T16.setTop (mkF m 15 #[.val (.ref a1), .val (.int (1 : Int32))] [.null])) _
  jvm_step X16.here [X16.here.top, hx, (hb hby d3_15), X16.method', Bd.returns, Value.isRef, FieldType.isReference]
  first | (intro acts; rw [hr _ acts rfl rfl rfl]) | rw [hr _ _ rfl rfl rfl]
  exact Steps.refl _
theorem d4_0 : decode prog_102_method_4_code 0 = .ok (.aload_n 0, 1) := by decide +kernel
theorem d4_1 : decode prog_102_method_4_code 1 = .ok (.getfield 41, 3) := by decide +kernel
theorem d4_4 : decode prog_102_method_4_code 4 = .ok (.ifnull 7, 3) := by decide +kernel
theorem d4_7 : decode prog_102_method_4_code 7 = .ok (.iconst 1, 1) := by decide +kernel
theorem d4_8 : decode prog_102_method_4_code 8 = .ok (.goto 4, 3) := by decide +kernel
theorem d4_11 : decode prog_102_method_4_code 11 = .ok (.iconst 0, 1) := by decide +kernel
theorem d4_12 : decode prog_102_method_4_code 12 = .ok (.ireturn, 1) := by decide +kernel
def Q_off_0 (Z : State) (a1 : Addr) (r : Addr) (h0 : Heap) (n0 : Nat) (v : Option Value) (h : Heap) (L : List Loc) : Prop := v = some (.int (1 : Int32)) ∧ Fr n0 L ∧ h = h0
set_option maxRecDepth 65536 in
set_option maxHeartbeats 40000000 in
theorem off_0 (l : Launch) (Z : State) (a0 : Array Value) (hw : ∀ d ∈ tables_1, d.before a0 Z = true) (ws : List Jvm.Cond) (a1 : Addr) (r : Addr) (h0 : Heap) (n0 : Nat) (Z0 : n0 ≤ h0.size) (F_d : Fld Z h0 a1 "com/example/tardy_post/tardypost/UndeliverableAction" "done" "Lcom/example/tardy_post/tardypost/UmaStatus;" (.ref r)) :
    MetFree l (⟨"com/example/tardy_post/tardypost/UndeliverableAction", "isOffered", "()Z"⟩ : MethodName) (head1 (Jvm.Cond.code (⟨"com/example/tardy_post/tardypost/UndeliverableAction", "isOffered", "()Z"⟩ : MethodName) prog_102_method_4_code 1 (some .boolean) :: ws) ({ frames := 0, cells := 0, slots := 0, locals := 0 } : Room)) (fun a U => a = #[(.ref a1)] ∧ Z.Warmed39 U.vm ∧ U.heap = h0) (fun _ _ _ _ _ => True) (fun _ U o U' => ∃ v L, o = .returned v ∧ Q_off_0 Z a1 r h0 n0 v U'.heap L ∧ FrameEnd U o U' L ({ frames := 0, cells := 0, slots := 0, locals := 0 } : Room).cells ({ frames := 0, cells := 0, slots := 0, locals := 0 } : Room).slots) := by
  refine MetFree.of_bodySF (plainFor_of_name pn_1) hisR ?_
  intro p e s m args below meth c s₁ Bd hml0 hP hK
  obtain ⟨rfl, hZ, hh⟩ := hP
  have hx := Bd.exec
  have hby := Bd.bytes
  have hml : c.maxLocals = 1 := hml0
  have hown : s.vm.findClass "com/example/tardy_post/tardypost/UndeliverableAction" = some m.cls := findClass_of_methodNamed Bd.named
  have hnm := (name_of_methodNamed Bd.named Bd.method).1
  have X0 : Stand p l e ({ frames := 0, cells := 0, slots := 0, locals := 0 } : Room) s m #[(.ref a1)] below meth c s₁ [] 0 0 := Stand.of_body Bd
  have e0 : s₁.heap = h0 := by rw [← hh, Bd.state]; rfl
  have N0 := Fr.nil n0
  have eF : entryFrame m #[(.ref a1)] 1 = mkF m 0 #[.val (.ref a1)] [] := by first | (simp [entryFrame, mkF, argsToLocals, Value.category]; done) | rfl
  show Ends p e below s ({ frames := 0, cells := 0, slots := 0, locals := 0 } : Room) (Q_off_0 Z a1 r h0 n0) (s₁.setTop (entryFrame m #[(.ref a1)] 1))
  rw [eF]
  refine Ends.of (F' := s₁.setTop (mkF m 1 #[.val (.ref a1)] [(.ref a1)])) (fun _ kt => ?_) ?_
  · show Steps p.tables e below (s₁.setTop (mkF m 0 #[.val (.ref a1)] [])) _
    refine XS.aloadN X0.here hx rfl (hb hby d4_0) rfl rfl ?_
    exact kt
  obtain ⟨T17, X17, e17, st17⟩ := getF X0 hx hZ hown (host := "") (Or.inl (hw _ (List.mem_of_getElem? (i := 19) rfl))) Via.refl e0 F_d (g := (mkF m 1 #[.val (.ref a1)] [(.ref a1)])) rfl rfl (hb hby d4_1)
  refine Ends.of st17 ?_
  refine Ends.of (F' := T17.setTop (mkF m 12 #[.val (.ref a1)] [(.int (1 : Int32))])) (fun _ kt => ?_) ?_
  · show Steps p.tables e below (T17.setTop (mkF m 4 #[.val (.ref a1)] [(.ref r)])) _
    refine XS.ifnullNo X17.here hx rfl (hb hby d4_4) rfl ?_
    show Steps p.tables e below (T17.setTop (mkF m 7 #[.val (.ref a1)] [])) _
    refine XS.iconst X17.here hx rfl (hb hby d4_7) ?_
    show Steps p.tables e below (T17.setTop (mkF m 8 #[.val (.ref a1)] [(.int (1 : Int32))])) _
    refine XS.goto X17.here hx rfl (pc0 := 8) (pc' := 12) rfl (hb hby d4_8) (by decide) (by decide) ?_
    exact kt
  obtain ⟨fs, hr, hrun, hended, hW, hsame⟩ := X17.leave (v := some (.int (1 : Int32))) (fun h => by rw [Bd.returns] at h; cases h)
  exact ⟨_, _, retN X17 hx (t := .boolean) Bd.returns (by simp) (hb hby d4_12) hr, hrun, hended, _, _, rfl, ⟨rfl, N0, e17⟩, ⟨_, rfl⟩, hW, hsame.mono (by decide) (by decide)⟩
def Q_off_1 (Z : State) (a1 : Addr) (r : Addr) (h0 : Heap) (n0 : Nat) (v : Option Value) (h : Heap) (L : List Loc) : Prop := v = some (.int (0 : Int32)) ∧ Fr n0 L ∧ h = h0
set_option maxRecDepth 65536 in
set_option maxHeartbeats 40000000 in
theorem off_1 (l : Launch) (Z : State) (a0 : Array Value) (hw : ∀ d ∈ tables_1, d.before a0 Z = true) (ws : List Jvm.Cond) (a1 : Addr) (r : Addr) (h0 : Heap) (n0 : Nat) (Z0 : n0 ≤ h0.size) (F_d : Fld Z h0 a1 "com/example/tardy_post/tardypost/UndeliverableAction" "done" "Lcom/example/tardy_post/tardypost/UmaStatus;" .null) :
    MetFree l (⟨"com/example/tardy_post/tardypost/UndeliverableAction", "isOffered", "()Z"⟩ : MethodName) (head1 (Jvm.Cond.code (⟨"com/example/tardy_post/tardypost/UndeliverableAction", "isOffered", "()Z"⟩ : MethodName) prog_102_method_4_code 1 (some .boolean) :: ws) ({ frames := 0, cells := 0, slots := 0, locals := 0 } : Room)) (fun a U => a = #[(.ref a1)] ∧ Z.Warmed39 U.vm ∧ U.heap = h0) (fun _ _ _ _ _ => True) (fun _ U o U' => ∃ v L, o = .returned v ∧ Q_off_1 Z a1 r h0 n0 v U'.heap L ∧ FrameEnd U o U' L ({ frames := 0, cells := 0, slots := 0, locals := 0 } : Room).cells ({ frames := 0, cells := 0, slots := 0, locals := 0 } : Room).slots) := by
  refine MetFree.of_bodySF (plainFor_of_name pn_1) hisR ?_
  intro p e s m args below meth c s₁ Bd hml0 hP hK
  obtain ⟨rfl, hZ, hh⟩ := hP
  have hx := Bd.exec
  have hby := Bd.bytes
  have hml : c.maxLocals = 1 := hml0
  have hown : s.vm.findClass "com/example/tardy_post/tardypost/UndeliverableAction" = some m.cls := findClass_of_methodNamed Bd.named
  have hnm := (name_of_methodNamed Bd.named Bd.method).1
  have X0 : Stand p l e ({ frames := 0, cells := 0, slots := 0, locals := 0 } : Room) s m #[(.ref a1)] below meth c s₁ [] 0 0 := Stand.of_body Bd
  have e0 : s₁.heap = h0 := by rw [← hh, Bd.state]; rfl
  have N0 := Fr.nil n0
  have eF : entryFrame m #[(.ref a1)] 1 = mkF m 0 #[.val (.ref a1)] [] := by first | (simp [entryFrame, mkF, argsToLocals, Value.category]; done) | rfl
  show Ends p e below s ({ frames := 0, cells := 0, slots := 0, locals := 0 } : Room) (Q_off_1 Z a1 r h0 n0) (s₁.setTop (entryFrame m #[(.ref a1)] 1))
  rw [eF]
  refine Ends.of (F' := s₁.setTop (mkF m 1 #[.val (.ref a1)] [(.ref a1)])) (fun _ kt => ?_) ?_
  · show Steps p.tables e below (s₁.setTop (mkF m 0 #[.val (.ref a1)] [])) _
    refine XS.aloadN X0.here hx rfl (hb hby d4_0) rfl rfl ?_
    exact kt
  obtain ⟨T18, X18, e18, st18⟩ := getF X0 hx hZ hown (host := "") (Or.inl (hw _ (List.mem_of_getElem? (i := 19) rfl))) Via.refl e0 F_d (g := (mkF m 1 #[.val (.ref a1)] [(.ref a1)])) rfl rfl (hb hby d4_1)
  refine Ends.of st18 ?_
  refine Ends.of (F' := T18.setTop (mkF m 12 #[.val (.ref a1)] [(.int (0 : Int32))])) (fun _ kt => ?_) ?_
  · show Steps p.tables e below (T18.setTop (mkF m 4 #[.val (.ref a1)] [.null])) _
    refine XS.ifnullYes X18.here hx rfl (pc0 := 4) (pc' := 11) rfl (hb hby d4_4) rfl (by decide) (by decide) ?_
    show Steps p.tables e below (T18.setTop (mkF m 11 #[.val (.ref a1)] [])) _
    refine XS.iconst X18.here hx rfl (hb hby d4_11) ?_
    exact kt
  obtain ⟨fs, hr, hrun, hended, hW, hsame⟩ := X18.leave (v := some (.int (0 : Int32))) (fun h => by rw [Bd.returns] at h; cases h)
  exact ⟨_, _, retN X18 hx (t := .boolean) Bd.returns (by simp) (hb hby d4_12) hr, hrun, hended, _, _, rfl, ⟨rfl, N0, e18⟩, ⟨_, rfl⟩, hW, hsame.mono (by decide) (by decide)⟩
def Q0 (Z : State) (p1 : Int32) (p2 : Int32) (di : Addr) (dl : Addr) (rt : Addr) (dq : Addr) (dj : Addr) (sa : Addr) (ds : Addr) (ls : Addr) (rs : Addr) (rf : Addr) (qs : Addr) (qf : Addr) (h0 : Heap) (n0 : Nat) (v : Option Value) (h : Heap) (L : List Loc) : Prop := v = some (.int (1 : Int32)) ∧ Fr n0 L
set_option maxRecDepth 65536 in
set_option maxHeartbeats 40000000 in
theorem rm0 (l : Launch) (Z : State) (a0 : Array Value) (hw : ∀ d ∈ tables_1, d.before a0 Z = true) (ws : List Jvm.Cond) (p1 : Int32) (p2 : Int32) (di : Addr) (dl : Addr) (rt : Addr) (dq : Addr) (dj : Addr) (sa : Addr) (ds : Addr) (ls : Addr) (rs : Addr) (rf : Addr) (qs : Addr) (qf : Addr) (h0 : Heap) (n0 : Nat) (Z0 : n0 ≤ h0.size) (S_DISC : Sta Z h0 "com/example/tardy_post/tardypost/UndeliverableAction" "DISC" "Lcom/example/tardy_post/tardypost/UndeliverableAction;" (.ref di)) (S_DISCL : Sta Z h0 "com/example/tardy_post/tardypost/UndeliverableAction" "DISCL" "Lcom/example/tardy_post/tardypost/UndeliverableAction;" (.ref dl)) (S_RTS : Sta Z h0 "com/example/tardy_post/tardypost/UndeliverableAction" "RTS" "Lcom/example/tardy_post/tardypost/UndeliverableAction;" (.ref rt)) (S_DLQ : Sta Z h0 "com/example/tardy_post/tardypost/UndeliverableAction" "DLQ" "Lcom/example/tardy_post/tardypost/UndeliverableAction;" (.ref dq)) (S_DLJ : Sta Z h0 "com/example/tardy_post/tardypost/UndeliverableAction" "DLJ" "Lcom/example/tardy_post/tardypost/UndeliverableAction;" (.ref dj)) (S_SAF : Sta Z h0 "com/example/tardy_post/tardypost/UndeliverableAction" "SAF" "Lcom/example/tardy_post/tardypost/UndeliverableAction;" (.ref sa)) (S_DISC_SUCCESS : Sta Z h0 "com/example/tardy_post/tardypost/UmaStatus" "DISC_SUCCESS" "Lcom/example/tardy_post/tardypost/UmaStatus;" (.ref ds)) (S_DISCL_SUCCESS : Sta Z h0 "com/example/tardy_post/tardypost/UmaStatus" "DISCL_SUCCESS" "Lcom/example/tardy_post/tardypost/UmaStatus;" (.ref ls)) (S_RTS_SUCCESS : Sta Z h0 "com/example/tardy_post/tardypost/UmaStatus" "RTS_SUCCESS" "Lcom/example/tardy_post/tardypost/UmaStatus;" (.ref rs)) (S_RTS_FAIL : Sta Z h0 "com/example/tardy_post/tardypost/UmaStatus" "RTS_FAIL" "Lcom/example/tardy_post/tardypost/UmaStatus;" (.ref rf)) (S_DLQ_SUCCESS : Sta Z h0 "com/example/tardy_post/tardypost/UmaStatus" "DLQ_SUCCESS" "Lcom/example/tardy_post/tardypost/UmaStatus;" (.ref qs)) (S_DLQ_FAILED : Sta Z h0 "com/example/tardy_post/tardypost/UmaStatus" "DLQ_FAILED" "Lcom/example/tardy_post/tardypost/UmaStatus;" (.ref qf)) (E_DISC : Exa Z h0 di "com/example/tardy_post/tardypost/UndeliverableAction") (E_DISCL : Exa Z h0 dl "com/example/tardy_post/tardypost/UndeliverableAction") (E_RTS : Exa Z h0 rt "com/example/tardy_post/tardypost/UndeliverableAction") (E_DLQ : Exa Z h0 dq "com/example/tardy_post/tardypost/UndeliverableAction") (E_DLJ : Exa Z h0 dj "com/example/tardy_post/tardypost/UndeliverableAction") (E_SAF : Exa Z h0 sa "com/example/tardy_post/tardypost/UndeliverableAction") (D_DISC : Fld Z h0 di "com/example/tardy_post/tardypost/UndeliverableAction" "done" "Lcom/example/tardy_post/tardypost/UmaStatus;" (.ref ds)) (D_DISCL : Fld Z h0 dl "com/example/tardy_post/tardypost/UndeliverableAction" "done" "Lcom/example/tardy_post/tardypost/UmaStatus;" (.ref ls)) (D_RTS : Fld Z h0 rt "com/example/tardy_post/tardypost/UndeliverableAction" "done" "Lcom/example/tardy_post/tardypost/UmaStatus;" (.ref rs)) (D_DLQ : Fld Z h0 dq "com/example/tardy_post/tardypost/UndeliverableAction" "done" "Lcom/example/tardy_post/tardypost/UmaStatus;" (.ref qs)) (D_DLJ : Fld Z h0 dj "com/example/tardy_post/tardypost/UndeliverableAction" "done" "Lcom/example/tardy_post/tardypost/UmaStatus;" .null) (D_SAF : Fld Z h0 sa "com/example/tardy_post/tardypost/UndeliverableAction" "done" "Lcom/example/tardy_post/tardypost/UmaStatus;" .null) (G_DISC : Fld Z h0 di "com/example/tardy_post/tardypost/UndeliverableAction" "failed" "Lcom/example/tardy_post/tardypost/UmaStatus;" .null) (G_DISCL : Fld Z h0 dl "com/example/tardy_post/tardypost/UndeliverableAction" "failed" "Lcom/example/tardy_post/tardypost/UmaStatus;" .null) (G_RTS : Fld Z h0 rt "com/example/tardy_post/tardypost/UndeliverableAction" "failed" "Lcom/example/tardy_post/tardypost/UmaStatus;" (.ref rf)) (G_DLQ : Fld Z h0 dq "com/example/tardy_post/tardypost/UndeliverableAction" "failed" "Lcom/example/tardy_post/tardypost/UmaStatus;" (.ref qf)) (G_DLJ : Fld Z h0 dj "com/example/tardy_post/tardypost/UndeliverableAction" "failed" "Lcom/example/tardy_post/tardypost/UmaStatus;" .null) (G_SAF : Fld Z h0 sa "com/example/tardy_post/tardypost/UndeliverableAction" "failed" "Lcom/example/tardy_post/tardypost/UmaStatus;" .null) :
    MetFree l x (head1 (Jvm.Cond.code x code maxLocals ret :: ws) room_1) (fun a U => a = #[(.int p1), (.int p2)] ∧ Z.Warmed39 U.vm ∧ U.heap = h0) (fun _ _ _ _ _ => True) (fun _ U o U' => ∃ v L, o = .returned v ∧ Q0 Z p1 p2 di dl rt dq dj sa ds ls rs rf qs qf h0 n0 v U'.heap L ∧ FrameEnd U o U' L room_1.cells room_1.slots) := by
  refine MetFree.of_bodySF (plainFor_of_name pn_0) hisR ?_
  intro p e s m args below meth c s₁ Bd hml0 hP hK
  obtain ⟨rfl, hZ, hh⟩ := hP
  have hx := Bd.exec
  have hby := Bd.bytes
  have hml : c.maxLocals = 8 := hml0
  have hown : s.vm.findClass "com/example/tardy_post/tardypost/UndeliverableActionUmaStatusPinLaw" = some m.cls := findClass_of_methodNamed Bd.named
  have hnm := (name_of_methodNamed Bd.named Bd.method).1
  have X0 : Stand p l e room_1 s m #[(.int p1), (.int p2)] below meth c s₁ [] 0 0 := Stand.of_body Bd
  have e0 : s₁.heap = h0 := by rw [← hh, Bd.state]; rfl
  have N0 := Fr.nil n0
  have eF : entryFrame m #[(.int p1), (.int p2)] maxLocals = mkF m 0 #[.val (.int p1), .val (.int p2), .unset, .unset, .unset, .unset, .unset, .unset] [] := by first | (simp [entryFrame, mkF, argsToLocals, Value.category, maxLocals]; done) | rfl
  show Ends p e below s room_1 (Q0 Z p1 p2 di dl rt dq dj sa ds ls rs rf qs qf h0 n0) (s₁.setTop (entryFrame m #[(.int p1), (.int p2)] maxLocals))
  rw [eF]
  refine Ends.of (F' := s₁.setTop (mkF m 11 #[.val (.int p1), .val (.int p2), .val (.int ((p1 &&& (2147483647 : Int32)) % (6 : Int32))), .unset, .unset, .unset, .unset, .unset] [(.int (p2 &&& (1 : Int32)))])) (fun _ kt => ?_) ?_
  · show Steps p.tables e below (s₁.setTop (mkF m 0 #[.val (.int p1), .val (.int p2), .unset, .unset, .unset, .unset, .unset, .unset] [])) _
    refine XS.iloadN X0.here hx rfl (hb hby at_0) rfl ?_
    show Steps p.tables e below (s₁.setTop (mkF m 1 #[.val (.int p1), .val (.int p2), .unset, .unset, .unset, .unset, .unset, .unset] [(.int p1)])) _
    refine X0.ldcInt hx hown (mvT hZ (hw _ (List.mem_of_getElem? (i := 0) rfl))) (g := (mkF m 1 #[.val (.int p1), .val (.int p2), .unset, .unset, .unset, .unset, .unset, .unset] [(.int p1)])) rfl (hb hby at_1) _ ?_
    show Steps p.tables e below (s₁.setTop (mkF m 3 #[.val (.int p1), .val (.int p2), .unset, .unset, .unset, .unset, .unset, .unset] [(.int (2147483647 : Int32)), (.int p1)])) _
    refine XS.iand X0.here hx rfl (hb hby at_3) rfl ?_
    show Steps p.tables e below (s₁.setTop (mkF m 4 #[.val (.int p1), .val (.int p2), .unset, .unset, .unset, .unset, .unset, .unset] [(.int (p1 &&& (2147483647 : Int32)))])) _
    refine XS.bipush X0.here hx rfl (hb hby at_4) ?_
    show Steps p.tables e below (s₁.setTop (mkF m 6 #[.val (.int p1), .val (.int p2), .unset, .unset, .unset, .unset, .unset, .unset] [(.int (6 : Int32)), (.int (p1 &&& (2147483647 : Int32)))])) _
    refine iremM (g := (mkF m 6 #[.val (.int p1), .val (.int p2), .unset, .unset, .unset, .unset, .unset, .unset] [(.int (6 : Int32)), (.int (p1 &&& (2147483647 : Int32)))])) X0 hx rfl (hb hby at_6) rfl (by decide) ?_
    show Steps p.tables e below (s₁.setTop (mkF m 7 #[.val (.int p1), .val (.int p2), .unset, .unset, .unset, .unset, .unset, .unset] [(.int ((p1 &&& (2147483647 : Int32)) % (6 : Int32)))])) _
    refine XS.istoreN X0.here hx rfl (hb hby at_7) rfl (l' := #[.val (.int p1), .val (.int p2), .val (.int ((p1 &&& (2147483647 : Int32)) % (6 : Int32))), .unset, .unset, .unset, .unset, .unset]) rfl ?_
    show Steps p.tables e below (s₁.setTop (mkF m 8 #[.val (.int p1), .val (.int p2), .val (.int ((p1 &&& (2147483647 : Int32)) % (6 : Int32))), .unset, .unset, .unset, .unset, .unset] [])) _
    refine XS.iloadN X0.here hx rfl (hb hby at_8) rfl ?_
    show Steps p.tables e below (s₁.setTop (mkF m 9 #[.val (.int p1), .val (.int p2), .val (.int ((p1 &&& (2147483647 : Int32)) % (6 : Int32))), .unset, .unset, .unset, .unset, .unset] [(.int p2)])) _
    refine XS.iconst X0.here hx rfl (hb hby at_9) ?_
    show Steps p.tables e below (s₁.setTop (mkF m 10 #[.val (.int p1), .val (.int p2), .val (.int ((p1 &&& (2147483647 : Int32)) % (6 : Int32))), .unset, .unset, .unset, .unset, .unset] [(.int (1 : Int32)), (.int p2)])) _
    refine XS.iand X0.here hx rfl (hb hby at_10) rfl ?_
    exact kt
  by_cases hc11 : (p2 &&& (1 : Int32)) = (0 : Int32)
  · refine Ends.of (F' := s₁.setTop (mkF m 21 #[.val (.int p1), .val (.int p2), .val (.int ((p1 &&& (2147483647 : Int32)) % (6 : Int32))), .val (.int (0 : Int32)), .unset, .unset, .unset, .unset] [(.int ((p1 &&& (2147483647 : Int32)) % (6 : Int32)))])) (fun _ kt => ?_) ?_
    · show Steps p.tables e below (s₁.setTop (mkF m 11 #[.val (.int p1), .val (.int p2), .val (.int ((p1 &&& (2147483647 : Int32)) % (6 : Int32))), .unset, .unset, .unset, .unset, .unset] [(.int (p2 &&& (1 : Int32)))])) _
      refine XS.ifYes X0.here hx rfl (pc0 := 11) (pc' := 18) rfl (hb hby at_11) rfl ((if0 _ _).trans (teq hc11).1) (by decide) (by decide) ?_
      show Steps p.tables e below (s₁.setTop (mkF m 18 #[.val (.int p1), .val (.int p2), .val (.int ((p1 &&& (2147483647 : Int32)) % (6 : Int32))), .unset, .unset, .unset, .unset, .unset] [])) _
      refine XS.iconst X0.here hx rfl (hb hby at_18) ?_
      show Steps p.tables e below (s₁.setTop (mkF m 19 #[.val (.int p1), .val (.int p2), .val (.int ((p1 &&& (2147483647 : Int32)) % (6 : Int32))), .unset, .unset, .unset, .unset, .unset] [(.int (0 : Int32))])) _
      refine XS.istoreN X0.here hx rfl (hb hby at_19) rfl (l' := #[.val (.int p1), .val (.int p2), .val (.int ((p1 &&& (2147483647 : Int32)) % (6 : Int32))), .val (.int (0 : Int32)), .unset, .unset, .unset, .unset]) rfl ?_
      show Steps p.tables e below (s₁.setTop (mkF m 20 #[.val (.int p1), .val (.int p2), .val (.int ((p1 &&& (2147483647 : Int32)) % (6 : Int32))), .val (.int (0 : Int32)), .unset, .unset, .unset, .unset] [])) _
      refine XS.iloadN X0.here hx rfl (hb hby at_20) rfl ?_
      exact kt
    by_cases hk0 : ((p1 &&& (2147483647 : Int32)) % (6 : Int32)) = (0 : Int32)
    · obtain ⟨_, _, ⟨T19, L19, k19, n19⟩, -, X19, ⟨Lc19, hQ19, l19, y19, z19⟩, st19⟩ := Jvm.LawKit.callS X0 hx (y := (⟨"com/example/tardy_post/tardypost/UndeliverableActionUmaStatusPinLaw", "action", "(I)Lcom/example/tardy_post/tardypost/UndeliverableAction;"⟩ : MethodName)) hown (mvT hZ (hw _ (List.mem_of_getElem? (i := 1) rfl))) (mvT hZ (hw _ (List.mem_of_getElem? (i := 2) rfl))) (mvT hZ (hw _ (List.mem_of_getElem? (i := 3) rfl))) (mvT hZ (hw _ (List.mem_of_getElem? (i := 4) rfl))) (by decide) (backOf (W := 0) (rm1 l Z a0 hw [] ((p1 &&& (2147483647 : Int32)) % (6 : Int32)) di dl rt dq dj sa h0 n0 Z0 S_DISC S_DISCL S_RTS S_DLQ S_DLJ S_SAF) hZ (hw _ (List.mem_of_getElem? (i := 4) rfl)) (hw _ (List.mem_of_getElem? (i := 3) rfl)) (by decide) (by decide)) (g := (mkF m 21 #[.val (.int p1), .val (.int p2), .val (.int ((p1 &&& (2147483647 : Int32)) % (6 : Int32))), .val (.int (0 : Int32)), .unset, .unset, .unset, .unset] [(.int ((p1 &&& (2147483647 : Int32)) % (6 : Int32)))])) rfl (by rw [hml]; rfl) (argsL := [(.int ((p1 &&& (2147483647 : Int32)) % (6 : Int32)))]) (rest := []) (lenOf pd_0 rfl) rfl (by show 2 * 0 + _ ≤ _; exact Nat.le_of_eq rfl) (hb hby at_21) (fun _ _ => ⟨rfl, e0, (by decide : 0 + 0 ≤ _), (by decide : 0 + 0 ≤ _)⟩)
      dsimp only [Pt.U, Pt.locs, Pt.cells, Pt.slots] at X19 l19 y19 z19 st19 hQ19
      subst l19 y19 z19
      obtain ⟨rfl, N19q, e19⟩ := hQ19
      have N19 := Fr.app N0 N19q
      refine Ends.of st19 ?_
      refine Ends.of (F' := T19.setTop (mkF m 28 #[.val (.int p1), .val (.int p2), .val (.int ((p1 &&& (2147483647 : Int32)) % (6 : Int32))), .val (.int (0 : Int32)), .val (.ref (own_ac di dl rt dq dj sa ((p1 &&& (2147483647 : Int32)) % (6 : Int32)))), .unset, .unset, .unset] [(.int (0 : Int32)), (.int ((p1 &&& (2147483647 : Int32)) % (6 : Int32)))])) (fun _ kt => ?_) ?_
      · show Steps p.tables e below (T19.setTop (mkF m 24 #[.val (.int p1), .val (.int p2), .val (.int ((p1 &&& (2147483647 : Int32)) % (6 : Int32))), .val (.int (0 : Int32)), .unset, .unset, .unset, .unset] [(.ref (own_ac di dl rt dq dj sa ((p1 &&& (2147483647 : Int32)) % (6 : Int32))))])) _
        refine XS.astore X19.here hx rfl (hb hby at_24) rfl rfl (l' := #[.val (.int p1), .val (.int p2), .val (.int ((p1 &&& (2147483647 : Int32)) % (6 : Int32))), .val (.int (0 : Int32)), .val (.ref (own_ac di dl rt dq dj sa ((p1 &&& (2147483647 : Int32)) % (6 : Int32)))), .unset, .unset, .unset]) rfl ?_
        show Steps p.tables e below (T19.setTop (mkF m 26 #[.val (.int p1), .val (.int p2), .val (.int ((p1 &&& (2147483647 : Int32)) % (6 : Int32))), .val (.int (0 : Int32)), .val (.ref (own_ac di dl rt dq dj sa ((p1 &&& (2147483647 : Int32)) % (6 : Int32)))), .unset, .unset, .unset] [])) _
        refine XS.iloadN X19.here hx rfl (hb hby at_26) rfl ?_
        show Steps p.tables e below (T19.setTop (mkF m 27 #[.val (.int p1), .val (.int p2), .val (.int ((p1 &&& (2147483647 : Int32)) % (6 : Int32))), .val (.int (0 : Int32)), .val (.ref (own_ac di dl rt dq dj sa ((p1 &&& (2147483647 : Int32)) % (6 : Int32)))), .unset, .unset, .unset] [(.int ((p1 &&& (2147483647 : Int32)) % (6 : Int32)))])) _
        refine XS.iloadN X19.here hx rfl (hb hby at_27) rfl ?_
        exact kt
      obtain ⟨_, _, ⟨T20, L20, k20, n20⟩, -, X20, ⟨Lc20, hQ20, l20, y20, z20⟩, st20⟩ := Jvm.LawKit.callS X19 hx (y := (⟨"com/example/tardy_post/tardypost/UndeliverableActionUmaStatusPinLaw", "expected", "(IZ)Lcom/example/tardy_post/tardypost/UmaStatus;"⟩ : MethodName)) hown (mvT hZ (hw _ (List.mem_of_getElem? (i := 8) rfl))) (mvT hZ (hw _ (List.mem_of_getElem? (i := 9) rfl))) (mvT hZ (hw _ (List.mem_of_getElem? (i := 3) rfl))) (mvT hZ (hw _ (List.mem_of_getElem? (i := 10) rfl))) (by decide) (backOf (W := 0) (rm2 l Z a0 hw [] ((p1 &&& (2147483647 : Int32)) % (6 : Int32)) (0 : Int32) ds ls rs rf qs qf .null h0 n0 Z0 S_DISC_SUCCESS S_DISCL_SUCCESS S_RTS_SUCCESS S_RTS_FAIL S_DLQ_SUCCESS S_DLQ_FAILED (by rw [own_ex, if_pos hk0, if_pos (rfl : (0 : Int32) = (0 : Int32))])) hZ (hw _ (List.mem_of_getElem? (i := 10) rfl)) (hw _ (List.mem_of_getElem? (i := 3) rfl)) (by decide) (by decide)) (g := (mkF m 28 #[.val (.int p1), .val (.int p2), .val (.int ((p1 &&& (2147483647 : Int32)) % (6 : Int32))), .val (.int (0 : Int32)), .val (.ref (own_ac di dl rt dq dj sa ((p1 &&& (2147483647 : Int32)) % (6 : Int32)))), .unset, .unset, .unset] [(.int (0 : Int32)), (.int ((p1 &&& (2147483647 : Int32)) % (6 : Int32)))])) rfl (by rw [hml]; rfl) (argsL := [(.int ((p1 &&& (2147483647 : Int32)) % (6 : Int32))), (.int (0 : Int32))]) (rest := []) (lenOf pd_1 rfl) rfl (by show 2 * 0 + _ ≤ _; exact Nat.le_of_eq rfl) (hb hby at_28) (fun _ _ => ⟨rfl, e19, (by decide : 0 + 0 ≤ _), (by decide : 0 + 0 ≤ _)⟩)
      dsimp only [Pt.U, Pt.locs, Pt.cells, Pt.slots] at X20 l20 y20 z20 st20 hQ20
      subst l20 y20 z20
      obtain ⟨rfl, N20q, e20⟩ := hQ20
      have N20 := Fr.app N19 N20q
      refine Ends.of st20 ?_
      have hs : (own_ac di dl rt dq dj sa ((p1 &&& (2147483647 : Int32)) % (6 : Int32))) = di := by rw [own_ac, if_pos hk0]
      have Ex : Exa Z h0 (own_ac di dl rt dq dj sa ((p1 &&& (2147483647 : Int32)) % (6 : Int32))) "com/example/tardy_post/tardypost/UndeliverableAction" := by rw [hs]; exact E_DISC
      have Dx : Fld Z h0 (own_ac di dl rt dq dj sa ((p1 &&& (2147483647 : Int32)) % (6 : Int32))) "com/example/tardy_post/tardypost/UndeliverableAction" "done" "Lcom/example/tardy_post/tardypost/UmaStatus;" (.ref ds) := by rw [hs]; exact D_DISC
      have Gx : Fld Z h0 (own_ac di dl rt dq dj sa ((p1 &&& (2147483647 : Int32)) % (6 : Int32))) "com/example/tardy_post/tardypost/UndeliverableAction" "failed" "Lcom/example/tardy_post/tardypost/UmaStatus;" .null := by rw [hs]; exact G_DISC
      refine Ends.of (F' := T20.setTop (mkF m 36 #[.val (.int p1), .val (.int p2), .val (.int ((p1 &&& (2147483647 : Int32)) % (6 : Int32))), .val (.int (0 : Int32)), .val (.ref (own_ac di dl rt dq dj sa ((p1 &&& (2147483647 : Int32)) % (6 : Int32)))), .val .null, .unset, .unset] [(.int (0 : Int32)), (.ref (own_ac di dl rt dq dj sa ((p1 &&& (2147483647 : Int32)) % (6 : Int32))))])) (fun _ kt => ?_) ?_
      · show Steps p.tables e below (T20.setTop (mkF m 31 #[.val (.int p1), .val (.int p2), .val (.int ((p1 &&& (2147483647 : Int32)) % (6 : Int32))), .val (.int (0 : Int32)), .val (.ref (own_ac di dl rt dq dj sa ((p1 &&& (2147483647 : Int32)) % (6 : Int32)))), .unset, .unset, .unset] [.null])) _
        refine XS.astore X20.here hx rfl (hb hby at_31) rfl rfl (l' := #[.val (.int p1), .val (.int p2), .val (.int ((p1 &&& (2147483647 : Int32)) % (6 : Int32))), .val (.int (0 : Int32)), .val (.ref (own_ac di dl rt dq dj sa ((p1 &&& (2147483647 : Int32)) % (6 : Int32)))), .val .null, .unset, .unset]) rfl ?_
        show Steps p.tables e below (T20.setTop (mkF m 33 #[.val (.int p1), .val (.int p2), .val (.int ((p1 &&& (2147483647 : Int32)) % (6 : Int32))), .val (.int (0 : Int32)), .val (.ref (own_ac di dl rt dq dj sa ((p1 &&& (2147483647 : Int32)) % (6 : Int32)))), .val .null, .unset, .unset] [])) _
        refine XS.aload X20.here hx rfl (hb hby at_33) rfl rfl ?_
        show Steps p.tables e below (T20.setTop (mkF m 35 #[.val (.int p1), .val (.int p2), .val (.int ((p1 &&& (2147483647 : Int32)) % (6 : Int32))), .val (.int (0 : Int32)), .val (.ref (own_ac di dl rt dq dj sa ((p1 &&& (2147483647 : Int32)) % (6 : Int32)))), .val .null, .unset, .unset] [(.ref (own_ac di dl rt dq dj sa ((p1 &&& (2147483647 : Int32)) % (6 : Int32))))])) _
        refine XS.iloadN X20.here hx rfl (hb hby at_35) rfl ?_
        exact kt
      obtain ⟨cq21, kq21, q21a, q21b, q21c⟩ := isOf hZ e20 Ex
      obtain ⟨_, _, ⟨T21, L21, k21, n21⟩, -, X21, ⟨Lc21, hQ21, l21, y21, z21⟩, st21⟩ := X20.virtualBack hx (y := (⟨"com/example/tardy_post/tardypost/UndeliverableAction", "umaStatus", "(Z)Lcom/example/tardy_post/tardypost/UmaStatus;"⟩ : MethodName)) (z := (⟨"com/example/tardy_post/tardypost/UndeliverableAction", "umaStatus", "(Z)Lcom/example/tardy_post/tardypost/UmaStatus;"⟩ : MethodName)) hown (mvT hZ (hw _ (List.mem_of_getElem? (i := 14) rfl))) (mvT hZ (hw _ (List.mem_of_getElem? (i := 15) rfl))) (notFace_of_selects (args := #[]) (mvT hZ (hw _ (List.mem_of_getElem? (i := 17) rfl)))) (mvT hZ (hw _ (List.mem_of_getElem? (i := 17) rfl))) (mvT hZ (hw _ (List.mem_of_getElem? (i := 16) rfl))) (by decide) (backOf (W := 0) (uma_01 l Z a0 hw [] (own_ac di dl rt dq dj sa ((p1 &&& (2147483647 : Int32)) % (6 : Int32))) di h0 n0 Z0 Gx) hZ (hw _ (List.mem_of_getElem? (i := 18) rfl)) (hw _ (List.mem_of_getElem? (i := 6) rfl)) (by decide) (by decide)) q21a q21c (g := (mkF m 36 #[.val (.int p1), .val (.int p2), .val (.int ((p1 &&& (2147483647 : Int32)) % (6 : Int32))), .val (.int (0 : Int32)), .val (.ref (own_ac di dl rt dq dj sa ((p1 &&& (2147483647 : Int32)) % (6 : Int32)))), .val .null, .unset, .unset] [(.int (0 : Int32)), (.ref (own_ac di dl rt dq dj sa ((p1 &&& (2147483647 : Int32)) % (6 : Int32))))])) rfl (by rw [hml]; rfl) (Steps.refl _) (argsL := [(.int (0 : Int32))]) (rest := []) (lenOf pd_2 rfl) rfl (by show 2 * 0 + _ ≤ _; exact Nat.le_of_eq rfl) (hb hby at_36) (fun _ _ => ⟨rfl, e20, (by decide : 0 + 0 ≤ _), (by decide : 0 + 0 ≤ _)⟩)
      dsimp only [Pt.U, Pt.locs, Pt.cells, Pt.slots] at X21 l21 y21 z21 st21 hQ21
      subst l21 y21 z21
      obtain ⟨rfl, N21q, e21⟩ := hQ21
      have N21 := Fr.app N20 N21q
      refine Ends.st st21 ?_
      refine Ends.of (F' := T21.setTop (mkF m 87 #[.val (.int p1), .val (.int p2), .val (.int ((p1 &&& (2147483647 : Int32)) % (6 : Int32))), .val (.int (0 : Int32)), .val (.ref (own_ac di dl rt dq dj sa ((p1 &&& (2147483647 : Int32)) % (6 : Int32)))), .val .null, .val .null, .val (.int (1 : Int32))] [(.int (1 : Int32))])) (fun _ kt => ?_) ?_
      · show Steps p.tables e below (T21.setTop (mkF m 39 #[.val (.int p1), .val (.int p2), .val (.int ((p1 &&& (2147483647 : Int32)) % (6 : Int32))), .val (.int (0 : Int32)), .val (.ref (own_ac di dl rt dq dj sa ((p1 &&& (2147483647 : Int32)) % (6 : Int32)))), .val .null, .unset, .unset] [.null])) _
        refine XS.astore X21.here hx rfl (hb hby at_39) rfl rfl (l' := #[.val (.int p1), .val (.int p2), .val (.int ((p1 &&& (2147483647 : Int32)) % (6 : Int32))), .val (.int (0 : Int32)), .val (.ref (own_ac di dl rt dq dj sa ((p1 &&& (2147483647 : Int32)) % (6 : Int32)))), .val .null, .val .null, .unset]) rfl ?_
        show Steps p.tables e below (T21.setTop (mkF m 41 #[.val (.int p1), .val (.int p2), .val (.int ((p1 &&& (2147483647 : Int32)) % (6 : Int32))), .val (.int (0 : Int32)), .val (.ref (own_ac di dl rt dq dj sa ((p1 &&& (2147483647 : Int32)) % (6 : Int32)))), .val .null, .val .null, .unset] [])) _
        refine XS.iloadN X21.here hx rfl (hb hby at_41) rfl ?_
        show Steps p.tables e below (T21.setTop (mkF m 42 #[.val (.int p1), .val (.int p2), .val (.int ((p1 &&& (2147483647 : Int32)) % (6 : Int32))), .val (.int (0 : Int32)), .val (.ref (own_ac di dl rt dq dj sa ((p1 &&& (2147483647 : Int32)) % (6 : Int32)))), .val .null, .val .null, .unset] [(.int (0 : Int32))])) _
        refine XS.ifYes X21.here hx rfl (pc0 := 42) (pc' := 63) rfl (hb hby at_42) rfl ((if0 _ _).trans (teq rfl).1) (by decide) (by decide) ?_
        show Steps p.tables e below (T21.setTop (mkF m 63 #[.val (.int p1), .val (.int p2), .val (.int ((p1 &&& (2147483647 : Int32)) % (6 : Int32))), .val (.int (0 : Int32)), .val (.ref (own_ac di dl rt dq dj sa ((p1 &&& (2147483647 : Int32)) % (6 : Int32)))), .val .null, .val .null, .unset] [])) _
        refine XS.iconst X21.here hx rfl (hb hby at_63) ?_
        show Steps p.tables e below (T21.setTop (mkF m 64 #[.val (.int p1), .val (.int p2), .val (.int ((p1 &&& (2147483647 : Int32)) % (6 : Int32))), .val (.int (0 : Int32)), .val (.ref (own_ac di dl rt dq dj sa ((p1 &&& (2147483647 : Int32)) % (6 : Int32)))), .val .null, .val .null, .unset] [(.int (1 : Int32))])) _
        refine XS.goto X21.here hx rfl (pc0 := 64) (pc' := 68) rfl (hb hby at_64) (by decide) (by decide) ?_
        show Steps p.tables e below (T21.setTop (mkF m 68 #[.val (.int p1), .val (.int p2), .val (.int ((p1 &&& (2147483647 : Int32)) % (6 : Int32))), .val (.int (0 : Int32)), .val (.ref (own_ac di dl rt dq dj sa ((p1 &&& (2147483647 : Int32)) % (6 : Int32)))), .val .null, .val .null, .unset] [(.int (1 : Int32))])) _
        refine XS.istore X21.here hx rfl (hb hby at_68) rfl (l' := #[.val (.int p1), .val (.int p2), .val (.int ((p1 &&& (2147483647 : Int32)) % (6 : Int32))), .val (.int (0 : Int32)), .val (.ref (own_ac di dl rt dq dj sa ((p1 &&& (2147483647 : Int32)) % (6 : Int32)))), .val .null, .val .null, .val (.int (1 : Int32))]) rfl ?_
        show Steps p.tables e below (T21.setTop (mkF m 70 #[.val (.int p1), .val (.int p2), .val (.int ((p1 &&& (2147483647 : Int32)) % (6 : Int32))), .val (.int (0 : Int32)), .val (.ref (own_ac di dl rt dq dj sa ((p1 &&& (2147483647 : Int32)) % (6 : Int32)))), .val .null, .val .null, .val (.int (1 : Int32))] [])) _
        refine XS.aload X21.here hx rfl (hb hby at_70) rfl rfl ?_
        show Steps p.tables e below (T21.setTop (mkF m 72 #[.val (.int p1), .val (.int p2), .val (.int ((p1 &&& (2147483647 : Int32)) % (6 : Int32))), .val (.int (0 : Int32)), .val (.ref (own_ac di dl rt dq dj sa ((p1 &&& (2147483647 : Int32)) % (6 : Int32)))), .val .null, .val .null, .val (.int (1 : Int32))] [.null])) _
        refine XS.aload X21.here hx rfl (hb hby at_72) rfl rfl ?_
        show Steps p.tables e below (T21.setTop (mkF m 74 #[.val (.int p1), .val (.int p2), .val (.int ((p1 &&& (2147483647 : Int32)) % (6 : Int32))), .val (.int (0 : Int32)), .val (.ref (own_ac di dl rt dq dj sa ((p1 &&& (2147483647 : Int32)) % (6 : Int32)))), .val .null, .val .null, .val (.int (1 : Int32))] [.null, .null])) _
        refine Jvm.RoadKit.acmp (g := (mkF m 74 #[.val (.int p1), .val (.int p2), .val (.int ((p1 &&& (2147483647 : Int32)) % (6 : Int32))), .val (.int (0 : Int32)), .val (.ref (own_ac di dl rt dq dj sa ((p1 &&& (2147483647 : Int32)) % (6 : Int32)))), .val .null, .val .null, .val (.int (1 : Int32))] [.null, .null])) X21 hx rfl rfl rfl (pc0 := 74) (pc' := 77) (same := true) rfl (hb hby at_74) rfl (decide_eq_true rfl) (by decide) (by decide) ?_
        show Steps p.tables e below (T21.setTop (mkF m 77 #[.val (.int p1), .val (.int p2), .val (.int ((p1 &&& (2147483647 : Int32)) % (6 : Int32))), .val (.int (0 : Int32)), .val (.ref (own_ac di dl rt dq dj sa ((p1 &&& (2147483647 : Int32)) % (6 : Int32)))), .val .null, .val .null, .val (.int (1 : Int32))] [])) _
        refine XS.iload X21.here hx rfl (hb hby at_77) rfl ?_
        show Steps p.tables e below (T21.setTop (mkF m 79 #[.val (.int p1), .val (.int p2), .val (.int ((p1 &&& (2147483647 : Int32)) % (6 : Int32))), .val (.int (0 : Int32)), .val (.ref (own_ac di dl rt dq dj sa ((p1 &&& (2147483647 : Int32)) % (6 : Int32)))), .val .null, .val .null, .val (.int (1 : Int32))] [(.int (1 : Int32))])) _
        refine XS.ifNo X21.here hx rfl (hb hby at_79) rfl ((if0 _ _).trans (feq (by decide)).1) ?_
        show Steps p.tables e below (T21.setTop (mkF m 82 #[.val (.int p1), .val (.int p2), .val (.int ((p1 &&& (2147483647 : Int32)) % (6 : Int32))), .val (.int (0 : Int32)), .val (.ref (own_ac di dl rt dq dj sa ((p1 &&& (2147483647 : Int32)) % (6 : Int32)))), .val .null, .val .null, .val (.int (1 : Int32))] [])) _
        refine XS.iconst X21.here hx rfl (hb hby at_82) ?_
        show Steps p.tables e below (T21.setTop (mkF m 83 #[.val (.int p1), .val (.int p2), .val (.int ((p1 &&& (2147483647 : Int32)) % (6 : Int32))), .val (.int (0 : Int32)), .val (.ref (own_ac di dl rt dq dj sa ((p1 &&& (2147483647 : Int32)) % (6 : Int32)))), .val .null, .val .null, .val (.int (1 : Int32))] [(.int (1 : Int32))])) _
        refine XS.goto X21.here hx rfl (pc0 := 83) (pc' := 87) rfl (hb hby at_83) (by decide) (by decide) ?_
        exact kt
      obtain ⟨fs, hr, hrun, hended, hW, hsame⟩ := X21.leave (v := some (.int (1 : Int32))) (fun h => by rw [Bd.returns] at h; cases h)
      exact ⟨_, _, retN X21 hx (t := .boolean) Bd.returns (by simp) (hb hby at_87) hr, hrun, hended, _, _, rfl, ⟨rfl, N21⟩, ⟨_, rfl⟩, hW, hsame.mono (by decide) (by decide)⟩
    · by_cases hk1 : ((p1 &&& (2147483647 : Int32)) % (6 : Int32)) = (1 : Int32)
      · obtain ⟨_, _, ⟨T22, L22, k22, n22⟩, -, X22, ⟨Lc22, hQ22, l22, y22, z22⟩, st22⟩ := Jvm.LawKit.callS X0 hx (y := (⟨"com/example/tardy_post/tardypost/UndeliverableActionUmaStatusPinLaw", "action", "(I)Lcom/example/tardy_post/tardypost/UndeliverableAction;"⟩ : MethodName)) hown (mvT hZ (hw _ (List.mem_of_getElem? (i := 1) rfl))) (mvT hZ (hw _ (List.mem_of_getElem? (i := 2) rfl))) (mvT hZ (hw _ (List.mem_of_getElem? (i := 3) rfl))) (mvT hZ (hw _ (List.mem_of_getElem? (i := 4) rfl))) (by decide) (backOf (W := 0) (rm1 l Z a0 hw [] ((p1 &&& (2147483647 : Int32)) % (6 : Int32)) di dl rt dq dj sa h0 n0 Z0 S_DISC S_DISCL S_RTS S_DLQ S_DLJ S_SAF) hZ (hw _ (List.mem_of_getElem? (i := 4) rfl)) (hw _ (List.mem_of_getElem? (i := 3) rfl)) (by decide) (by decide)) (g := (mkF m 21 #[.val (.int p1), .val (.int p2), .val (.int ((p1 &&& (2147483647 : Int32)) % (6 : Int32))), .val (.int (0 : Int32)), .unset, .unset, .unset, .unset] [(.int ((p1 &&& (2147483647 : Int32)) % (6 : Int32)))])) rfl (by rw [hml]; rfl) (argsL := [(.int ((p1 &&& (2147483647 : Int32)) % (6 : Int32)))]) (rest := []) (lenOf pd_0 rfl) rfl (by show 2 * 0 + _ ≤ _; exact Nat.le_of_eq rfl) (hb hby at_21) (fun _ _ => ⟨rfl, e0, (by decide : 0 + 0 ≤ _), (by decide : 0 + 0 ≤ _)⟩)
        dsimp only [Pt.U, Pt.locs, Pt.cells, Pt.slots] at X22 l22 y22 z22 st22 hQ22
        subst l22 y22 z22
        obtain ⟨rfl, N22q, e22⟩ := hQ22
        have N22 := Fr.app N0 N22q
        refine Ends.of st22 ?_
        refine Ends.of (F' := T22.setTop (mkF m 28 #[.val (.int p1), .val (.int p2), .val (.int ((p1 &&& (2147483647 : Int32)) % (6 : Int32))), .val (.int (0 : Int32)), .val (.ref (own_ac di dl rt dq dj sa ((p1 &&& (2147483647 : Int32)) % (6 : Int32)))), .unset, .unset, .unset] [(.int (0 : Int32)), (.int ((p1 &&& (2147483647 : Int32)) % (6 : Int32)))])) (fun _ kt => ?_) ?_
        · show Steps p.tables e below (T22.setTop (mkF m 24 #[.val (.int p1), .val (.int p2), .val (.int ((p1 &&& (2147483647 : Int32)) % (6 : Int32))), .val (.int (0 : Int32)), .unset, .unset, .unset, .unset] [(.ref (own_ac di dl rt dq dj sa ((p1 &&& (2147483647 : Int32)) % (6 : Int32))))])) _
          refine XS.astore X22.here hx rfl (hb hby at_24) rfl rfl (l' := #[.val (.int p1), .val (.int p2), .val (.int ((p1 &&& (2147483647 : Int32)) % (6 : Int32))), .val (.int (0 : Int32)), .val (.ref (own_ac di dl rt dq dj sa ((p1 &&& (2147483647 : Int32)) % (6 : Int32)))), .unset, .unset, .unset]) rfl ?_
          show Steps p.tables e below (T22.setTop (mkF m 26 #[.val (.int p1), .val (.int p2), .val (.int ((p1 &&& (2147483647 : Int32)) % (6 : Int32))), .val (.int (0 : Int32)), .val (.ref (own_ac di dl rt dq dj sa ((p1 &&& (2147483647 : Int32)) % (6 : Int32)))), .unset, .unset, .unset] [])) _
          refine XS.iloadN X22.here hx rfl (hb hby at_26) rfl ?_
          show Steps p.tables e below (T22.setTop (mkF m 27 #[.val (.int p1), .val (.int p2), .val (.int ((p1 &&& (2147483647 : Int32)) % (6 : Int32))), .val (.int (0 : Int32)), .val (.ref (own_ac di dl rt dq dj sa ((p1 &&& (2147483647 : Int32)) % (6 : Int32)))), .unset, .unset, .unset] [(.int ((p1 &&& (2147483647 : Int32)) % (6 : Int32)))])) _
          refine XS.iloadN X22.here hx rfl (hb hby at_27) rfl ?_
          exact kt
        obtain ⟨_, _, ⟨T23, L23, k23, n23⟩, -, X23, ⟨Lc23, hQ23, l23, y23, z23⟩, st23⟩ := Jvm.LawKit.callS X22 hx (y := (⟨"com/example/tardy_post/tardypost/UndeliverableActionUmaStatusPinLaw", "expected", "(IZ)Lcom/example/tardy_post/tardypost/UmaStatus;"⟩ : MethodName)) hown (mvT hZ (hw _ (List.mem_of_getElem? (i := 8) rfl))) (mvT hZ (hw _ (List.mem_of_getElem? (i := 9) rfl))) (mvT hZ (hw _ (List.mem_of_getElem? (i := 3) rfl))) (mvT hZ (hw _ (List.mem_of_getElem? (i := 10) rfl))) (by decide) (backOf (W := 0) (rm2 l Z a0 hw [] ((p1 &&& (2147483647 : Int32)) % (6 : Int32)) (0 : Int32) ds ls rs rf qs qf .null h0 n0 Z0 S_DISC_SUCCESS S_DISCL_SUCCESS S_RTS_SUCCESS S_RTS_FAIL S_DLQ_SUCCESS S_DLQ_FAILED (by rw [own_ex, if_neg hk0, if_pos hk1, if_pos (rfl : (0 : Int32) = (0 : Int32))])) hZ (hw _ (List.mem_of_getElem? (i := 10) rfl)) (hw _ (List.mem_of_getElem? (i := 3) rfl)) (by decide) (by decide)) (g := (mkF m 28 #[.val (.int p1), .val (.int p2), .val (.int ((p1 &&& (2147483647 : Int32)) % (6 : Int32))), .val (.int (0 : Int32)), .val (.ref (own_ac di dl rt dq dj sa ((p1 &&& (2147483647 : Int32)) % (6 : Int32)))), .unset, .unset, .unset] [(.int (0 : Int32)), (.int ((p1 &&& (2147483647 : Int32)) % (6 : Int32)))])) rfl (by rw [hml]; rfl) (argsL := [(.int ((p1 &&& (2147483647 : Int32)) % (6 : Int32))), (.int (0 : Int32))]) (rest := []) (lenOf pd_1 rfl) rfl (by show 2 * 0 + _ ≤ _; exact Nat.le_of_eq rfl) (hb hby at_28) (fun _ _ => ⟨rfl, e22, (by decide : 0 + 0 ≤ _), (by decide : 0 + 0 ≤ _)⟩)
        dsimp only [Pt.U, Pt.locs, Pt.cells, Pt.slots] at X23 l23 y23 z23 st23 hQ23
        subst l23 y23 z23
        obtain ⟨rfl, N23q, e23⟩ := hQ23
        have N23 := Fr.app N22 N23q
        refine Ends.of st23 ?_
        have hs : (own_ac di dl rt dq dj sa ((p1 &&& (2147483647 : Int32)) % (6 : Int32))) = dl := by rw [own_ac, if_neg hk0, if_pos hk1]
        have Ex : Exa Z h0 (own_ac di dl rt dq dj sa ((p1 &&& (2147483647 : Int32)) % (6 : Int32))) "com/example/tardy_post/tardypost/UndeliverableAction" := by rw [hs]; exact E_DISCL
        have Dx : Fld Z h0 (own_ac di dl rt dq dj sa ((p1 &&& (2147483647 : Int32)) % (6 : Int32))) "com/example/tardy_post/tardypost/UndeliverableAction" "done" "Lcom/example/tardy_post/tardypost/UmaStatus;" (.ref ls) := by rw [hs]; exact D_DISCL
        have Gx : Fld Z h0 (own_ac di dl rt dq dj sa ((p1 &&& (2147483647 : Int32)) % (6 : Int32))) "com/example/tardy_post/tardypost/UndeliverableAction" "failed" "Lcom/example/tardy_post/tardypost/UmaStatus;" .null := by rw [hs]; exact G_DISCL
        refine Ends.of (F' := T23.setTop (mkF m 36 #[.val (.int p1), .val (.int p2), .val (.int ((p1 &&& (2147483647 : Int32)) % (6 : Int32))), .val (.int (0 : Int32)), .val (.ref (own_ac di dl rt dq dj sa ((p1 &&& (2147483647 : Int32)) % (6 : Int32)))), .val .null, .unset, .unset] [(.int (0 : Int32)), (.ref (own_ac di dl rt dq dj sa ((p1 &&& (2147483647 : Int32)) % (6 : Int32))))])) (fun _ kt => ?_) ?_
        · show Steps p.tables e below (T23.setTop (mkF m 31 #[.val (.int p1), .val (.int p2), .val (.int ((p1 &&& (2147483647 : Int32)) % (6 : Int32))), .val (.int (0 : Int32)), .val (.ref (own_ac di dl rt dq dj sa ((p1 &&& (2147483647 : Int32)) % (6 : Int32)))), .unset, .unset, .unset] [.null])) _
          refine XS.astore X23.here hx rfl (hb hby at_31) rfl rfl (l' := #[.val (.int p1), .val (.int p2), .val (.int ((p1 &&& (2147483647 : Int32)) % (6 : Int32))), .val (.int (0 : Int32)), .val (.ref (own_ac di dl rt dq dj sa ((p1 &&& (2147483647 : Int32)) % (6 : Int32)))), .val .null, .unset, .unset]) rfl ?_
          show Steps p.tables e below (T23.setTop (mkF m 33 #[.val (.int p1), .val (.int p2), .val (.int ((p1 &&& (2147483647 : Int32)) % (6 : Int32))), .val (.int (0 : Int32)), .val (.ref (own_ac di dl rt dq dj sa ((p1 &&& (2147483647 : Int32)) % (6 : Int32)))), .val .null, .unset, .unset] [])) _
          refine XS.aload X23.here hx rfl (hb hby at_33) rfl rfl ?_
          show Steps p.tables e below (T23.setTop (mkF m 35 #[.val (.int p1), .val (.int p2), .val (.int ((p1 &&& (2147483647 : Int32)) % (6 : Int32))), .val (.int (0 : Int32)), .val (.ref (own_ac di dl rt dq dj sa ((p1 &&& (2147483647 : Int32)) % (6 : Int32)))), .val .null, .unset, .unset] [(.ref (own_ac di dl rt dq dj sa ((p1 &&& (2147483647 : Int32)) % (6 : Int32))))])) _
          refine XS.iloadN X23.here hx rfl (hb hby at_35) rfl ?_
          exact kt
        obtain ⟨cq24, kq24, q24a, q24b, q24c⟩ := isOf hZ e23 Ex
        obtain ⟨_, _, ⟨T24, L24, k24, n24⟩, -, X24, ⟨Lc24, hQ24, l24, y24, z24⟩, st24⟩ := X23.virtualBack hx (y := (⟨"com/example/tardy_post/tardypost/UndeliverableAction", "umaStatus", "(Z)Lcom/example/tardy_post/tardypost/UmaStatus;"⟩ : MethodName)) (z := (⟨"com/example/tardy_post/tardypost/UndeliverableAction", "umaStatus", "(Z)Lcom/example/tardy_post/tardypost/UmaStatus;"⟩ : MethodName)) hown (mvT hZ (hw _ (List.mem_of_getElem? (i := 14) rfl))) (mvT hZ (hw _ (List.mem_of_getElem? (i := 15) rfl))) (notFace_of_selects (args := #[]) (mvT hZ (hw _ (List.mem_of_getElem? (i := 17) rfl)))) (mvT hZ (hw _ (List.mem_of_getElem? (i := 17) rfl))) (mvT hZ (hw _ (List.mem_of_getElem? (i := 16) rfl))) (by decide) (backOf (W := 0) (uma_01 l Z a0 hw [] (own_ac di dl rt dq dj sa ((p1 &&& (2147483647 : Int32)) % (6 : Int32))) di h0 n0 Z0 Gx) hZ (hw _ (List.mem_of_getElem? (i := 18) rfl)) (hw _ (List.mem_of_getElem? (i := 6) rfl)) (by decide) (by decide)) q24a q24c (g := (mkF m 36 #[.val (.int p1), .val (.int p2), .val (.int ((p1 &&& (2147483647 : Int32)) % (6 : Int32))), .val (.int (0 : Int32)), .val (.ref (own_ac di dl rt dq dj sa ((p1 &&& (2147483647 : Int32)) % (6 : Int32)))), .val .null, .unset, .unset] [(.int (0 : Int32)), (.ref (own_ac di dl rt dq dj sa ((p1 &&& (2147483647 : Int32)) % (6 : Int32))))])) rfl (by rw [hml]; rfl) (Steps.refl _) (argsL := [(.int (0 : Int32))]) (rest := []) (lenOf pd_2 rfl) rfl (by show 2 * 0 + _ ≤ _; exact Nat.le_of_eq rfl) (hb hby at_36) (fun _ _ => ⟨rfl, e23, (by decide : 0 + 0 ≤ _), (by decide : 0 + 0 ≤ _)⟩)
        dsimp only [Pt.U, Pt.locs, Pt.cells, Pt.slots] at X24 l24 y24 z24 st24 hQ24
        subst l24 y24 z24
        obtain ⟨rfl, N24q, e24⟩ := hQ24
        have N24 := Fr.app N23 N24q
        refine Ends.st st24 ?_
        refine Ends.of (F' := T24.setTop (mkF m 87 #[.val (.int p1), .val (.int p2), .val (.int ((p1 &&& (2147483647 : Int32)) % (6 : Int32))), .val (.int (0 : Int32)), .val (.ref (own_ac di dl rt dq dj sa ((p1 &&& (2147483647 : Int32)) % (6 : Int32)))), .val .null, .val .null, .val (.int (1 : Int32))] [(.int (1 : Int32))])) (fun _ kt => ?_) ?_
        · show Steps p.tables e below (T24.setTop (mkF m 39 #[.val (.int p1), .val (.int p2), .val (.int ((p1 &&& (2147483647 : Int32)) % (6 : Int32))), .val (.int (0 : Int32)), .val (.ref (own_ac di dl rt dq dj sa ((p1 &&& (2147483647 : Int32)) % (6 : Int32)))), .val .null, .unset, .unset] [.null])) _
          refine XS.astore X24.here hx rfl (hb hby at_39) rfl rfl (l' := #[.val (.int p1), .val (.int p2), .val (.int ((p1 &&& (2147483647 : Int32)) % (6 : Int32))), .val (.int (0 : Int32)), .val (.ref (own_ac di dl rt dq dj sa ((p1 &&& (2147483647 : Int32)) % (6 : Int32)))), .val .null, .val .null, .unset]) rfl ?_
          show Steps p.tables e below (T24.setTop (mkF m 41 #[.val (.int p1), .val (.int p2), .val (.int ((p1 &&& (2147483647 : Int32)) % (6 : Int32))), .val (.int (0 : Int32)), .val (.ref (own_ac di dl rt dq dj sa ((p1 &&& (2147483647 : Int32)) % (6 : Int32)))), .val .null, .val .null, .unset] [])) _
          refine XS.iloadN X24.here hx rfl (hb hby at_41) rfl ?_
          show Steps p.tables e below (T24.setTop (mkF m 42 #[.val (.int p1), .val (.int p2), .val (.int ((p1 &&& (2147483647 : Int32)) % (6 : Int32))), .val (.int (0 : Int32)), .val (.ref (own_ac di dl rt dq dj sa ((p1 &&& (2147483647 : Int32)) % (6 : Int32)))), .val .null, .val .null, .unset] [(.int (0 : Int32))])) _
          refine XS.ifYes X24.here hx rfl (pc0 := 42) (pc' := 63) rfl (hb hby at_42) rfl ((if0 _ _).trans (teq rfl).1) (by decide) (by decide) ?_
          show Steps p.tables e below (T24.setTop (mkF m 63 #[.val (.int p1), .val (.int p2), .val (.int ((p1 &&& (2147483647 : Int32)) % (6 : Int32))), .val (.int (0 : Int32)), .val (.ref (own_ac di dl rt dq dj sa ((p1 &&& (2147483647 : Int32)) % (6 : Int32)))), .val .null, .val .null, .unset] [])) _
          refine XS.iconst X24.here hx rfl (hb hby at_63) ?_
          show Steps p.tables e below (T24.setTop (mkF m 64 #[.val (.int p1), .val (.int p2), .val (.int ((p1 &&& (2147483647 : Int32)) % (6 : Int32))), .val (.int (0 : Int32)), .val (.ref (own_ac di dl rt dq dj sa ((p1 &&& (2147483647 : Int32)) % (6 : Int32)))), .val .null, .val .null, .unset] [(.int (1 : Int32))])) _
          refine XS.goto X24.here hx rfl (pc0 := 64) (pc' := 68) rfl (hb hby at_64) (by decide) (by decide) ?_
          show Steps p.tables e below (T24.setTop (mkF m 68 #[.val (.int p1), .val (.int p2), .val (.int ((p1 &&& (2147483647 : Int32)) % (6 : Int32))), .val (.int (0 : Int32)), .val (.ref (own_ac di dl rt dq dj sa ((p1 &&& (2147483647 : Int32)) % (6 : Int32)))), .val .null, .val .null, .unset] [(.int (1 : Int32))])) _
          refine XS.istore X24.here hx rfl (hb hby at_68) rfl (l' := #[.val (.int p1), .val (.int p2), .val (.int ((p1 &&& (2147483647 : Int32)) % (6 : Int32))), .val (.int (0 : Int32)), .val (.ref (own_ac di dl rt dq dj sa ((p1 &&& (2147483647 : Int32)) % (6 : Int32)))), .val .null, .val .null, .val (.int (1 : Int32))]) rfl ?_
          show Steps p.tables e below (T24.setTop (mkF m 70 #[.val (.int p1), .val (.int p2), .val (.int ((p1 &&& (2147483647 : Int32)) % (6 : Int32))), .val (.int (0 : Int32)), .val (.ref (own_ac di dl rt dq dj sa ((p1 &&& (2147483647 : Int32)) % (6 : Int32)))), .val .null, .val .null, .val (.int (1 : Int32))] [])) _
          refine XS.aload X24.here hx rfl (hb hby at_70) rfl rfl ?_
          show Steps p.tables e below (T24.setTop (mkF m 72 #[.val (.int p1), .val (.int p2), .val (.int ((p1 &&& (2147483647 : Int32)) % (6 : Int32))), .val (.int (0 : Int32)), .val (.ref (own_ac di dl rt dq dj sa ((p1 &&& (2147483647 : Int32)) % (6 : Int32)))), .val .null, .val .null, .val (.int (1 : Int32))] [.null])) _
          refine XS.aload X24.here hx rfl (hb hby at_72) rfl rfl ?_
          show Steps p.tables e below (T24.setTop (mkF m 74 #[.val (.int p1), .val (.int p2), .val (.int ((p1 &&& (2147483647 : Int32)) % (6 : Int32))), .val (.int (0 : Int32)), .val (.ref (own_ac di dl rt dq dj sa ((p1 &&& (2147483647 : Int32)) % (6 : Int32)))), .val .null, .val .null, .val (.int (1 : Int32))] [.null, .null])) _
          refine Jvm.RoadKit.acmp (g := (mkF m 74 #[.val (.int p1), .val (.int p2), .val (.int ((p1 &&& (2147483647 : Int32)) % (6 : Int32))), .val (.int (0 : Int32)), .val (.ref (own_ac di dl rt dq dj sa ((p1 &&& (2147483647 : Int32)) % (6 : Int32)))), .val .null, .val .null, .val (.int (1 : Int32))] [.null, .null])) X24 hx rfl rfl rfl (pc0 := 74) (pc' := 77) (same := true) rfl (hb hby at_74) rfl (decide_eq_true rfl) (by decide) (by decide) ?_
          show Steps p.tables e below (T24.setTop (mkF m 77 #[.val (.int p1), .val (.int p2), .val (.int ((p1 &&& (2147483647 : Int32)) % (6 : Int32))), .val (.int (0 : Int32)), .val (.ref (own_ac di dl rt dq dj sa ((p1 &&& (2147483647 : Int32)) % (6 : Int32)))), .val .null, .val .null, .val (.int (1 : Int32))] [])) _
          refine XS.iload X24.here hx rfl (hb hby at_77) rfl ?_
          show Steps p.tables e below (T24.setTop (mkF m 79 #[.val (.int p1), .val (.int p2), .val (.int ((p1 &&& (2147483647 : Int32)) % (6 : Int32))), .val (.int (0 : Int32)), .val (.ref (own_ac di dl rt dq dj sa ((p1 &&& (2147483647 : Int32)) % (6 : Int32)))), .val .null, .val .null, .val (.int (1 : Int32))] [(.int (1 : Int32))])) _
          refine XS.ifNo X24.here hx rfl (hb hby at_79) rfl ((if0 _ _).trans (feq (by decide)).1) ?_
          show Steps p.tables e below (T24.setTop (mkF m 82 #[.val (.int p1), .val (.int p2), .val (.int ((p1 &&& (2147483647 : Int32)) % (6 : Int32))), .val (.int (0 : Int32)), .val (.ref (own_ac di dl rt dq dj sa ((p1 &&& (2147483647 : Int32)) % (6 : Int32)))), .val .null, .val .null, .val (.int (1 : Int32))] [])) _
          refine XS.iconst X24.here hx rfl (hb hby at_82) ?_
          show Steps p.tables e below (T24.setTop (mkF m 83 #[.val (.int p1), .val (.int p2), .val (.int ((p1 &&& (2147483647 : Int32)) % (6 : Int32))), .val (.int (0 : Int32)), .val (.ref (own_ac di dl rt dq dj sa ((p1 &&& (2147483647 : Int32)) % (6 : Int32)))), .val .null, .val .null, .val (.int (1 : Int32))] [(.int (1 : Int32))])) _
          refine XS.goto X24.here hx rfl (pc0 := 83) (pc' := 87) rfl (hb hby at_83) (by decide) (by decide) ?_
          exact kt
        obtain ⟨fs, hr, hrun, hended, hW, hsame⟩ := X24.leave (v := some (.int (1 : Int32))) (fun h => by rw [Bd.returns] at h; cases h)
        exact ⟨_, _, retN X24 hx (t := .boolean) Bd.returns (by simp) (hb hby at_87) hr, hrun, hended, _, _, rfl, ⟨rfl, N24⟩, ⟨_, rfl⟩, hW, hsame.mono (by decide) (by decide)⟩
      · by_cases hk2 : ((p1 &&& (2147483647 : Int32)) % (6 : Int32)) = (2 : Int32)
        · obtain ⟨_, _, ⟨T25, L25, k25, n25⟩, -, X25, ⟨Lc25, hQ25, l25, y25, z25⟩, st25⟩ := Jvm.LawKit.callS X0 hx (y := (⟨"com/example/tardy_post/tardypost/UndeliverableActionUmaStatusPinLaw", "action", "(I)Lcom/example/tardy_post/tardypost/UndeliverableAction;"⟩ : MethodName)) hown (mvT hZ (hw _ (List.mem_of_getElem? (i := 1) rfl))) (mvT hZ (hw _ (List.mem_of_getElem? (i := 2) rfl))) (mvT hZ (hw _ (List.mem_of_getElem? (i := 3) rfl))) (mvT hZ (hw _ (List.mem_of_getElem? (i := 4) rfl))) (by decide) (backOf (W := 0) (rm1 l Z a0 hw [] ((p1 &&& (2147483647 : Int32)) % (6 : Int32)) di dl rt dq dj sa h0 n0 Z0 S_DISC S_DISCL S_RTS S_DLQ S_DLJ S_SAF) hZ (hw _ (List.mem_of_getElem? (i := 4) rfl)) (hw _ (List.mem_of_getElem? (i := 3) rfl)) (by decide) (by decide)) (g := (mkF m 21 #[.val (.int p1), .val (.int p2), .val (.int ((p1 &&& (2147483647 : Int32)) % (6 : Int32))), .val (.int (0 : Int32)), .unset, .unset, .unset, .unset] [(.int ((p1 &&& (2147483647 : Int32)) % (6 : Int32)))])) rfl (by rw [hml]; rfl) (argsL := [(.int ((p1 &&& (2147483647 : Int32)) % (6 : Int32)))]) (rest := []) (lenOf pd_0 rfl) rfl (by show 2 * 0 + _ ≤ _; exact Nat.le_of_eq rfl) (hb hby at_21) (fun _ _ => ⟨rfl, e0, (by decide : 0 + 0 ≤ _), (by decide : 0 + 0 ≤ _)⟩)
          dsimp only [Pt.U, Pt.locs, Pt.cells, Pt.slots] at X25 l25 y25 z25 st25 hQ25
          subst l25 y25 z25
          obtain ⟨rfl, N25q, e25⟩ := hQ25
          have N25 := Fr.app N0 N25q
          refine Ends.of st25 ?_
          refine Ends.of (F' := T25.setTop (mkF m 28 #[.val (.int p1), .val (.int p2), .val (.int ((p1 &&& (2147483647 : Int32)) % (6 : Int32))), .val (.int (0 : Int32)), .val (.ref (own_ac di dl rt dq dj sa ((p1 &&& (2147483647 : Int32)) % (6 : Int32)))), .unset, .unset, .unset] [(.int (0 : Int32)), (.int ((p1 &&& (2147483647 : Int32)) % (6 : Int32)))])) (fun _ kt => ?_) ?_
          · show Steps p.tables e below (T25.setTop (mkF m 24 #[.val (.int p1), .val (.int p2), .val (.int ((p1 &&& (2147483647 : Int32)) % (6 : Int32))), .val (.int (0 : Int32)), .unset, .unset, .unset, .unset] [(.ref (own_ac di dl rt dq dj sa ((p1 &&& (2147483647 : Int32)) % (6 : Int32))))])) _
            refine XS.astore X25.here hx rfl (hb hby at_24) rfl rfl (l' := #[.val (.int p1), .val (.int p2), .val (.int ((p1 &&& (2147483647 : Int32)) % (6 : Int32))), .val (.int (0 : Int32)), .val (.ref (own_ac di dl rt dq dj sa ((p1 &&& (2147483647 : Int32)) % (6 : Int32)))), .unset, .unset, .unset]) rfl ?_
            show Steps p.tables e below (T25.setTop (mkF m 26 #[.val (.int p1), .val (.int p2), .val (.int ((p1 &&& (2147483647 : Int32)) % (6 : Int32))), .val (.int (0 : Int32)), .val (.ref (own_ac di dl rt dq dj sa ((p1 &&& (2147483647 : Int32)) % (6 : Int32)))), .unset, .unset, .unset] [])) _
            refine XS.iloadN X25.here hx rfl (hb hby at_26) rfl ?_
            show Steps p.tables e below (T25.setTop (mkF m 27 #[.val (.int p1), .val (.int p2), .val (.int ((p1 &&& (2147483647 : Int32)) % (6 : Int32))), .val (.int (0 : Int32)), .val (.ref (own_ac di dl rt dq dj sa ((p1 &&& (2147483647 : Int32)) % (6 : Int32)))), .unset, .unset, .unset] [(.int ((p1 &&& (2147483647 : Int32)) % (6 : Int32)))])) _
            refine XS.iloadN X25.here hx rfl (hb hby at_27) rfl ?_
            exact kt
          obtain ⟨_, _, ⟨T26, L26, k26, n26⟩, -, X26, ⟨Lc26, hQ26, l26, y26, z26⟩, st26⟩ := Jvm.LawKit.callS X25 hx (y := (⟨"com/example/tardy_post/tardypost/UndeliverableActionUmaStatusPinLaw", "expected", "(IZ)Lcom/example/tardy_post/tardypost/UmaStatus;"⟩ : MethodName)) hown (mvT hZ (hw _ (List.mem_of_getElem? (i := 8) rfl))) (mvT hZ (hw _ (List.mem_of_getElem? (i := 9) rfl))) (mvT hZ (hw _ (List.mem_of_getElem? (i := 3) rfl))) (mvT hZ (hw _ (List.mem_of_getElem? (i := 10) rfl))) (by decide) (backOf (W := 0) (rm2 l Z a0 hw [] ((p1 &&& (2147483647 : Int32)) % (6 : Int32)) (0 : Int32) ds ls rs rf qs qf (.ref rf) h0 n0 Z0 S_DISC_SUCCESS S_DISCL_SUCCESS S_RTS_SUCCESS S_RTS_FAIL S_DLQ_SUCCESS S_DLQ_FAILED (by rw [own_ex, if_neg hk0, if_neg hk1, if_pos hk2, if_pos (rfl : (0 : Int32) = (0 : Int32))])) hZ (hw _ (List.mem_of_getElem? (i := 10) rfl)) (hw _ (List.mem_of_getElem? (i := 3) rfl)) (by decide) (by decide)) (g := (mkF m 28 #[.val (.int p1), .val (.int p2), .val (.int ((p1 &&& (2147483647 : Int32)) % (6 : Int32))), .val (.int (0 : Int32)), .val (.ref (own_ac di dl rt dq dj sa ((p1 &&& (2147483647 : Int32)) % (6 : Int32)))), .unset, .unset, .unset] [(.int (0 : Int32)), (.int ((p1 &&& (2147483647 : Int32)) % (6 : Int32)))])) rfl (by rw [hml]; rfl) (argsL := [(.int ((p1 &&& (2147483647 : Int32)) % (6 : Int32))), (.int (0 : Int32))]) (rest := []) (lenOf pd_1 rfl) rfl (by show 2 * 0 + _ ≤ _; exact Nat.le_of_eq rfl) (hb hby at_28) (fun _ _ => ⟨rfl, e25, (by decide : 0 + 0 ≤ _), (by decide : 0 + 0 ≤ _)⟩)
          dsimp only [Pt.U, Pt.locs, Pt.cells, Pt.slots] at X26 l26 y26 z26 st26 hQ26
          subst l26 y26 z26
          obtain ⟨rfl, N26q, e26⟩ := hQ26
          have N26 := Fr.app N25 N26q
          refine Ends.of st26 ?_
          have hs : (own_ac di dl rt dq dj sa ((p1 &&& (2147483647 : Int32)) % (6 : Int32))) = rt := by rw [own_ac, if_neg hk0, if_neg hk1, if_pos hk2]
          have Ex : Exa Z h0 (own_ac di dl rt dq dj sa ((p1 &&& (2147483647 : Int32)) % (6 : Int32))) "com/example/tardy_post/tardypost/UndeliverableAction" := by rw [hs]; exact E_RTS
          have Dx : Fld Z h0 (own_ac di dl rt dq dj sa ((p1 &&& (2147483647 : Int32)) % (6 : Int32))) "com/example/tardy_post/tardypost/UndeliverableAction" "done" "Lcom/example/tardy_post/tardypost/UmaStatus;" (.ref rs) := by rw [hs]; exact D_RTS
          have Gx : Fld Z h0 (own_ac di dl rt dq dj sa ((p1 &&& (2147483647 : Int32)) % (6 : Int32))) "com/example/tardy_post/tardypost/UndeliverableAction" "failed" "Lcom/example/tardy_post/tardypost/UmaStatus;" (.ref rf) := by rw [hs]; exact G_RTS
          refine Ends.of (F' := T26.setTop (mkF m 36 #[.val (.int p1), .val (.int p2), .val (.int ((p1 &&& (2147483647 : Int32)) % (6 : Int32))), .val (.int (0 : Int32)), .val (.ref (own_ac di dl rt dq dj sa ((p1 &&& (2147483647 : Int32)) % (6 : Int32)))), .val (.ref rf), .unset, .unset] [(.int (0 : Int32)), (.ref (own_ac di dl rt dq dj sa ((p1 &&& (2147483647 : Int32)) % (6 : Int32))))])) (fun _ kt => ?_) ?_
          · show Steps p.tables e below (T26.setTop (mkF m 31 #[.val (.int p1), .val (.int p2), .val (.int ((p1 &&& (2147483647 : Int32)) % (6 : Int32))), .val (.int (0 : Int32)), .val (.ref (own_ac di dl rt dq dj sa ((p1 &&& (2147483647 : Int32)) % (6 : Int32)))), .unset, .unset, .unset] [(.ref rf)])) _
            refine XS.astore X26.here hx rfl (hb hby at_31) rfl rfl (l' := #[.val (.int p1), .val (.int p2), .val (.int ((p1 &&& (2147483647 : Int32)) % (6 : Int32))), .val (.int (0 : Int32)), .val (.ref (own_ac di dl rt dq dj sa ((p1 &&& (2147483647 : Int32)) % (6 : Int32)))), .val (.ref rf), .unset, .unset]) rfl ?_
            show Steps p.tables e below (T26.setTop (mkF m 33 #[.val (.int p1), .val (.int p2), .val (.int ((p1 &&& (2147483647 : Int32)) % (6 : Int32))), .val (.int (0 : Int32)), .val (.ref (own_ac di dl rt dq dj sa ((p1 &&& (2147483647 : Int32)) % (6 : Int32)))), .val (.ref rf), .unset, .unset] [])) _
            refine XS.aload X26.here hx rfl (hb hby at_33) rfl rfl ?_
            show Steps p.tables e below (T26.setTop (mkF m 35 #[.val (.int p1), .val (.int p2), .val (.int ((p1 &&& (2147483647 : Int32)) % (6 : Int32))), .val (.int (0 : Int32)), .val (.ref (own_ac di dl rt dq dj sa ((p1 &&& (2147483647 : Int32)) % (6 : Int32)))), .val (.ref rf), .unset, .unset] [(.ref (own_ac di dl rt dq dj sa ((p1 &&& (2147483647 : Int32)) % (6 : Int32))))])) _
            refine XS.iloadN X26.here hx rfl (hb hby at_35) rfl ?_
            exact kt
          obtain ⟨cq27, kq27, q27a, q27b, q27c⟩ := isOf hZ e26 Ex
          obtain ⟨_, _, ⟨T27, L27, k27, n27⟩, -, X27, ⟨Lc27, hQ27, l27, y27, z27⟩, st27⟩ := X26.virtualBack hx (y := (⟨"com/example/tardy_post/tardypost/UndeliverableAction", "umaStatus", "(Z)Lcom/example/tardy_post/tardypost/UmaStatus;"⟩ : MethodName)) (z := (⟨"com/example/tardy_post/tardypost/UndeliverableAction", "umaStatus", "(Z)Lcom/example/tardy_post/tardypost/UmaStatus;"⟩ : MethodName)) hown (mvT hZ (hw _ (List.mem_of_getElem? (i := 14) rfl))) (mvT hZ (hw _ (List.mem_of_getElem? (i := 15) rfl))) (notFace_of_selects (args := #[]) (mvT hZ (hw _ (List.mem_of_getElem? (i := 17) rfl)))) (mvT hZ (hw _ (List.mem_of_getElem? (i := 17) rfl))) (mvT hZ (hw _ (List.mem_of_getElem? (i := 16) rfl))) (by decide) (backOf (W := 0) (uma_00 l Z a0 hw [] (own_ac di dl rt dq dj sa ((p1 &&& (2147483647 : Int32)) % (6 : Int32))) rf h0 n0 Z0 Gx) hZ (hw _ (List.mem_of_getElem? (i := 18) rfl)) (hw _ (List.mem_of_getElem? (i := 6) rfl)) (by decide) (by decide)) q27a q27c (g := (mkF m 36 #[.val (.int p1), .val (.int p2), .val (.int ((p1 &&& (2147483647 : Int32)) % (6 : Int32))), .val (.int (0 : Int32)), .val (.ref (own_ac di dl rt dq dj sa ((p1 &&& (2147483647 : Int32)) % (6 : Int32)))), .val (.ref rf), .unset, .unset] [(.int (0 : Int32)), (.ref (own_ac di dl rt dq dj sa ((p1 &&& (2147483647 : Int32)) % (6 : Int32))))])) rfl (by rw [hml]; rfl) (Steps.refl _) (argsL := [(.int (0 : Int32))]) (rest := []) (lenOf pd_2 rfl) rfl (by show 2 * 0 + _ ≤ _; exact Nat.le_of_eq rfl) (hb hby at_36) (fun _ _ => ⟨rfl, e26, (by decide : 0 + 0 ≤ _), (by decide : 0 + 0 ≤ _)⟩)
          dsimp only [Pt.U, Pt.locs, Pt.cells, Pt.slots] at X27 l27 y27 z27 st27 hQ27
          subst l27 y27 z27
          obtain ⟨rfl, N27q, e27⟩ := hQ27
          have N27 := Fr.app N26 N27q
          refine Ends.st st27 ?_
          refine Ends.of (F' := T27.setTop (mkF m 87 #[.val (.int p1), .val (.int p2), .val (.int ((p1 &&& (2147483647 : Int32)) % (6 : Int32))), .val (.int (0 : Int32)), .val (.ref (own_ac di dl rt dq dj sa ((p1 &&& (2147483647 : Int32)) % (6 : Int32)))), .val (.ref rf), .val (.ref rf), .val (.int (1 : Int32))] [(.int (1 : Int32))])) (fun _ kt => ?_) ?_
          · show Steps p.tables e below (T27.setTop (mkF m 39 #[.val (.int p1), .val (.int p2), .val (.int ((p1 &&& (2147483647 : Int32)) % (6 : Int32))), .val (.int (0 : Int32)), .val (.ref (own_ac di dl rt dq dj sa ((p1 &&& (2147483647 : Int32)) % (6 : Int32)))), .val (.ref rf), .unset, .unset] [(.ref rf)])) _
            refine XS.astore X27.here hx rfl (hb hby at_39) rfl rfl (l' := #[.val (.int p1), .val (.int p2), .val (.int ((p1 &&& (2147483647 : Int32)) % (6 : Int32))), .val (.int (0 : Int32)), .val (.ref (own_ac di dl rt dq dj sa ((p1 &&& (2147483647 : Int32)) % (6 : Int32)))), .val (.ref rf), .val (.ref rf), .unset]) rfl ?_
            show Steps p.tables e below (T27.setTop (mkF m 41 #[.val (.int p1), .val (.int p2), .val (.int ((p1 &&& (2147483647 : Int32)) % (6 : Int32))), .val (.int (0 : Int32)), .val (.ref (own_ac di dl rt dq dj sa ((p1 &&& (2147483647 : Int32)) % (6 : Int32)))), .val (.ref rf), .val (.ref rf), .unset] [])) _
            refine XS.iloadN X27.here hx rfl (hb hby at_41) rfl ?_
            show Steps p.tables e below (T27.setTop (mkF m 42 #[.val (.int p1), .val (.int p2), .val (.int ((p1 &&& (2147483647 : Int32)) % (6 : Int32))), .val (.int (0 : Int32)), .val (.ref (own_ac di dl rt dq dj sa ((p1 &&& (2147483647 : Int32)) % (6 : Int32)))), .val (.ref rf), .val (.ref rf), .unset] [(.int (0 : Int32))])) _
            refine XS.ifYes X27.here hx rfl (pc0 := 42) (pc' := 63) rfl (hb hby at_42) rfl ((if0 _ _).trans (teq rfl).1) (by decide) (by decide) ?_
            show Steps p.tables e below (T27.setTop (mkF m 63 #[.val (.int p1), .val (.int p2), .val (.int ((p1 &&& (2147483647 : Int32)) % (6 : Int32))), .val (.int (0 : Int32)), .val (.ref (own_ac di dl rt dq dj sa ((p1 &&& (2147483647 : Int32)) % (6 : Int32)))), .val (.ref rf), .val (.ref rf), .unset] [])) _
            refine XS.iconst X27.here hx rfl (hb hby at_63) ?_
            show Steps p.tables e below (T27.setTop (mkF m 64 #[.val (.int p1), .val (.int p2), .val (.int ((p1 &&& (2147483647 : Int32)) % (6 : Int32))), .val (.int (0 : Int32)), .val (.ref (own_ac di dl rt dq dj sa ((p1 &&& (2147483647 : Int32)) % (6 : Int32)))), .val (.ref rf), .val (.ref rf), .unset] [(.int (1 : Int32))])) _
            refine XS.goto X27.here hx rfl (pc0 := 64) (pc' := 68) rfl (hb hby at_64) (by decide) (by decide) ?_
            show Steps p.tables e below (T27.setTop (mkF m 68 #[.val (.int p1), .val (.int p2), .val (.int ((p1 &&& (2147483647 : Int32)) % (6 : Int32))), .val (.int (0 : Int32)), .val (.ref (own_ac di dl rt dq dj sa ((p1 &&& (2147483647 : Int32)) % (6 : Int32)))), .val (.ref rf), .val (.ref rf), .unset] [(.int (1 : Int32))])) _
            refine XS.istore X27.here hx rfl (hb hby at_68) rfl (l' := #[.val (.int p1), .val (.int p2), .val (.int ((p1 &&& (2147483647 : Int32)) % (6 : Int32))), .val (.int (0 : Int32)), .val (.ref (own_ac di dl rt dq dj sa ((p1 &&& (2147483647 : Int32)) % (6 : Int32)))), .val (.ref rf), .val (.ref rf), .val (.int (1 : Int32))]) rfl ?_
            show Steps p.tables e below (T27.setTop (mkF m 70 #[.val (.int p1), .val (.int p2), .val (.int ((p1 &&& (2147483647 : Int32)) % (6 : Int32))), .val (.int (0 : Int32)), .val (.ref (own_ac di dl rt dq dj sa ((p1 &&& (2147483647 : Int32)) % (6 : Int32)))), .val (.ref rf), .val (.ref rf), .val (.int (1 : Int32))] [])) _
            refine XS.aload X27.here hx rfl (hb hby at_70) rfl rfl ?_
            show Steps p.tables e below (T27.setTop (mkF m 72 #[.val (.int p1), .val (.int p2), .val (.int ((p1 &&& (2147483647 : Int32)) % (6 : Int32))), .val (.int (0 : Int32)), .val (.ref (own_ac di dl rt dq dj sa ((p1 &&& (2147483647 : Int32)) % (6 : Int32)))), .val (.ref rf), .val (.ref rf), .val (.int (1 : Int32))] [(.ref rf)])) _
            refine XS.aload X27.here hx rfl (hb hby at_72) rfl rfl ?_
            show Steps p.tables e below (T27.setTop (mkF m 74 #[.val (.int p1), .val (.int p2), .val (.int ((p1 &&& (2147483647 : Int32)) % (6 : Int32))), .val (.int (0 : Int32)), .val (.ref (own_ac di dl rt dq dj sa ((p1 &&& (2147483647 : Int32)) % (6 : Int32)))), .val (.ref rf), .val (.ref rf), .val (.int (1 : Int32))] [(.ref rf), (.ref rf)])) _
            refine Jvm.RoadKit.acmp (g := (mkF m 74 #[.val (.int p1), .val (.int p2), .val (.int ((p1 &&& (2147483647 : Int32)) % (6 : Int32))), .val (.int (0 : Int32)), .val (.ref (own_ac di dl rt dq dj sa ((p1 &&& (2147483647 : Int32)) % (6 : Int32)))), .val (.ref rf), .val (.ref rf), .val (.int (1 : Int32))] [(.ref rf), (.ref rf)])) X27 hx rfl rfl rfl (pc0 := 74) (pc' := 77) (same := true) rfl (hb hby at_74) rfl (decide_eq_true (congrArg Value.ref rfl)) (by decide) (by decide) ?_
            show Steps p.tables e below (T27.setTop (mkF m 77 #[.val (.int p1), .val (.int p2), .val (.int ((p1 &&& (2147483647 : Int32)) % (6 : Int32))), .val (.int (0 : Int32)), .val (.ref (own_ac di dl rt dq dj sa ((p1 &&& (2147483647 : Int32)) % (6 : Int32)))), .val (.ref rf), .val (.ref rf), .val (.int (1 : Int32))] [])) _
            refine XS.iload X27.here hx rfl (hb hby at_77) rfl ?_
            show Steps p.tables e below (T27.setTop (mkF m 79 #[.val (.int p1), .val (.int p2), .val (.int ((p1 &&& (2147483647 : Int32)) % (6 : Int32))), .val (.int (0 : Int32)), .val (.ref (own_ac di dl rt dq dj sa ((p1 &&& (2147483647 : Int32)) % (6 : Int32)))), .val (.ref rf), .val (.ref rf), .val (.int (1 : Int32))] [(.int (1 : Int32))])) _
            refine XS.ifNo X27.here hx rfl (hb hby at_79) rfl ((if0 _ _).trans (feq (by decide)).1) ?_
            show Steps p.tables e below (T27.setTop (mkF m 82 #[.val (.int p1), .val (.int p2), .val (.int ((p1 &&& (2147483647 : Int32)) % (6 : Int32))), .val (.int (0 : Int32)), .val (.ref (own_ac di dl rt dq dj sa ((p1 &&& (2147483647 : Int32)) % (6 : Int32)))), .val (.ref rf), .val (.ref rf), .val (.int (1 : Int32))] [])) _
            refine XS.iconst X27.here hx rfl (hb hby at_82) ?_
            show Steps p.tables e below (T27.setTop (mkF m 83 #[.val (.int p1), .val (.int p2), .val (.int ((p1 &&& (2147483647 : Int32)) % (6 : Int32))), .val (.int (0 : Int32)), .val (.ref (own_ac di dl rt dq dj sa ((p1 &&& (2147483647 : Int32)) % (6 : Int32)))), .val (.ref rf), .val (.ref rf), .val (.int (1 : Int32))] [(.int (1 : Int32))])) _
            refine XS.goto X27.here hx rfl (pc0 := 83) (pc' := 87) rfl (hb hby at_83) (by decide) (by decide) ?_
            exact kt
          obtain ⟨fs, hr, hrun, hended, hW, hsame⟩ := X27.leave (v := some (.int (1 : Int32))) (fun h => by rw [Bd.returns] at h; cases h)
          exact ⟨_, _, retN X27 hx (t := .boolean) Bd.returns (by simp) (hb hby at_87) hr, hrun, hended, _, _, rfl, ⟨rfl, N27⟩, ⟨_, rfl⟩, hW, hsame.mono (by decide) (by decide)⟩
        · by_cases hk3 : ((p1 &&& (2147483647 : Int32)) % (6 : Int32)) = (3 : Int32)
          · obtain ⟨_, _, ⟨T28, L28, k28, n28⟩, -, X28, ⟨Lc28, hQ28, l28, y28, z28⟩, st28⟩ := Jvm.LawKit.callS X0 hx (y := (⟨"com/example/tardy_post/tardypost/UndeliverableActionUmaStatusPinLaw", "action", "(I)Lcom/example/tardy_post/tardypost/UndeliverableAction;"⟩ : MethodName)) hown (mvT hZ (hw _ (List.mem_of_getElem? (i := 1) rfl))) (mvT hZ (hw _ (List.mem_of_getElem? (i := 2) rfl))) (mvT hZ (hw _ (List.mem_of_getElem? (i := 3) rfl))) (mvT hZ (hw _ (List.mem_of_getElem? (i := 4) rfl))) (by decide) (backOf (W := 0) (rm1 l Z a0 hw [] ((p1 &&& (2147483647 : Int32)) % (6 : Int32)) di dl rt dq dj sa h0 n0 Z0 S_DISC S_DISCL S_RTS S_DLQ S_DLJ S_SAF) hZ (hw _ (List.mem_of_getElem? (i := 4) rfl)) (hw _ (List.mem_of_getElem? (i := 3) rfl)) (by decide) (by decide)) (g := (mkF m 21 #[.val (.int p1), .val (.int p2), .val (.int ((p1 &&& (2147483647 : Int32)) % (6 : Int32))), .val (.int (0 : Int32)), .unset, .unset, .unset, .unset] [(.int ((p1 &&& (2147483647 : Int32)) % (6 : Int32)))])) rfl (by rw [hml]; rfl) (argsL := [(.int ((p1 &&& (2147483647 : Int32)) % (6 : Int32)))]) (rest := []) (lenOf pd_0 rfl) rfl (by show 2 * 0 + _ ≤ _; exact Nat.le_of_eq rfl) (hb hby at_21) (fun _ _ => ⟨rfl, e0, (by decide : 0 + 0 ≤ _), (by decide : 0 + 0 ≤ _)⟩)
            dsimp only [Pt.U, Pt.locs, Pt.cells, Pt.slots] at X28 l28 y28 z28 st28 hQ28
            subst l28 y28 z28
            obtain ⟨rfl, N28q, e28⟩ := hQ28
            have N28 := Fr.app N0 N28q
            refine Ends.of st28 ?_
            refine Ends.of (F' := T28.setTop (mkF m 28 #[.val (.int p1), .val (.int p2), .val (.int ((p1 &&& (2147483647 : Int32)) % (6 : Int32))), .val (.int (0 : Int32)), .val (.ref (own_ac di dl rt dq dj sa ((p1 &&& (2147483647 : Int32)) % (6 : Int32)))), .unset, .unset, .unset] [(.int (0 : Int32)), (.int ((p1 &&& (2147483647 : Int32)) % (6 : Int32)))])) (fun _ kt => ?_) ?_
            · show Steps p.tables e below (T28.setTop (mkF m 24 #[.val (.int p1), .val (.int p2), .val (.int ((p1 &&& (2147483647 : Int32)) % (6 : Int32))), .val (.int (0 : Int32)), .unset, .unset, .unset, .unset] [(.ref (own_ac di dl rt dq dj sa ((p1 &&& (2147483647 : Int32)) % (6 : Int32))))])) _
              refine XS.astore X28.here hx rfl (hb hby at_24) rfl rfl (l' := #[.val (.int p1), .val (.int p2), .val (.int ((p1 &&& (2147483647 : Int32)) % (6 : Int32))), .val (.int (0 : Int32)), .val (.ref (own_ac di dl rt dq dj sa ((p1 &&& (2147483647 : Int32)) % (6 : Int32)))), .unset, .unset, .unset]) rfl ?_
              show Steps p.tables e below (T28.setTop (mkF m 26 #[.val (.int p1), .val (.int p2), .val (.int ((p1 &&& (2147483647 : Int32)) % (6 : Int32))), .val (.int (0 : Int32)), .val (.ref (own_ac di dl rt dq dj sa ((p1 &&& (2147483647 : Int32)) % (6 : Int32)))), .unset, .unset, .unset] [])) _
              refine XS.iloadN X28.here hx rfl (hb hby at_26) rfl ?_
              show Steps p.tables e below (T28.setTop (mkF m 27 #[.val (.int p1), .val (.int p2), .val (.int ((p1 &&& (2147483647 : Int32)) % (6 : Int32))), .val (.int (0 : Int32)), .val (.ref (own_ac di dl rt dq dj sa ((p1 &&& (2147483647 : Int32)) % (6 : Int32)))), .unset, .unset, .unset] [(.int ((p1 &&& (2147483647 : Int32)) % (6 : Int32)))])) _
              refine XS.iloadN X28.here hx rfl (hb hby at_27) rfl ?_
              exact kt
            obtain ⟨_, _, ⟨T29, L29, k29, n29⟩, -, X29, ⟨Lc29, hQ29, l29, y29, z29⟩, st29⟩ := Jvm.LawKit.callS X28 hx (y := (⟨"com/example/tardy_post/tardypost/UndeliverableActionUmaStatusPinLaw", "expected", "(IZ)Lcom/example/tardy_post/tardypost/UmaStatus;"⟩ : MethodName)) hown (mvT hZ (hw _ (List.mem_of_getElem? (i := 8) rfl))) (mvT hZ (hw _ (List.mem_of_getElem? (i := 9) rfl))) (mvT hZ (hw _ (List.mem_of_getElem? (i := 3) rfl))) (mvT hZ (hw _ (List.mem_of_getElem? (i := 10) rfl))) (by decide) (backOf (W := 0) (rm2 l Z a0 hw [] ((p1 &&& (2147483647 : Int32)) % (6 : Int32)) (0 : Int32) ds ls rs rf qs qf (.ref qf) h0 n0 Z0 S_DISC_SUCCESS S_DISCL_SUCCESS S_RTS_SUCCESS S_RTS_FAIL S_DLQ_SUCCESS S_DLQ_FAILED (by rw [own_ex, if_neg hk0, if_neg hk1, if_neg hk2, if_pos hk3, if_pos (rfl : (0 : Int32) = (0 : Int32))])) hZ (hw _ (List.mem_of_getElem? (i := 10) rfl)) (hw _ (List.mem_of_getElem? (i := 3) rfl)) (by decide) (by decide)) (g := (mkF m 28 #[.val (.int p1), .val (.int p2), .val (.int ((p1 &&& (2147483647 : Int32)) % (6 : Int32))), .val (.int (0 : Int32)), .val (.ref (own_ac di dl rt dq dj sa ((p1 &&& (2147483647 : Int32)) % (6 : Int32)))), .unset, .unset, .unset] [(.int (0 : Int32)), (.int ((p1 &&& (2147483647 : Int32)) % (6 : Int32)))])) rfl (by rw [hml]; rfl) (argsL := [(.int ((p1 &&& (2147483647 : Int32)) % (6 : Int32))), (.int (0 : Int32))]) (rest := []) (lenOf pd_1 rfl) rfl (by show 2 * 0 + _ ≤ _; exact Nat.le_of_eq rfl) (hb hby at_28) (fun _ _ => ⟨rfl, e28, (by decide : 0 + 0 ≤ _), (by decide : 0 + 0 ≤ _)⟩)
            dsimp only [Pt.U, Pt.locs, Pt.cells, Pt.slots] at X29 l29 y29 z29 st29 hQ29
            subst l29 y29 z29
            obtain ⟨rfl, N29q, e29⟩ := hQ29
            have N29 := Fr.app N28 N29q
            refine Ends.of st29 ?_
            have hs : (own_ac di dl rt dq dj sa ((p1 &&& (2147483647 : Int32)) % (6 : Int32))) = dq := by rw [own_ac, if_neg hk0, if_neg hk1, if_neg hk2, if_pos hk3]
            have Ex : Exa Z h0 (own_ac di dl rt dq dj sa ((p1 &&& (2147483647 : Int32)) % (6 : Int32))) "com/example/tardy_post/tardypost/UndeliverableAction" := by rw [hs]; exact E_DLQ
            have Dx : Fld Z h0 (own_ac di dl rt dq dj sa ((p1 &&& (2147483647 : Int32)) % (6 : Int32))) "com/example/tardy_post/tardypost/UndeliverableAction" "done" "Lcom/example/tardy_post/tardypost/UmaStatus;" (.ref qs) := by rw [hs]; exact D_DLQ
            have Gx : Fld Z h0 (own_ac di dl rt dq dj sa ((p1 &&& (2147483647 : Int32)) % (6 : Int32))) "com/example/tardy_post/tardypost/UndeliverableAction" "failed" "Lcom/example/tardy_post/tardypost/UmaStatus;" (.ref qf) := by rw [hs]; exact G_DLQ
            refine Ends.of (F' := T29.setTop (mkF m 36 #[.val (.int p1), .val (.int p2), .val (.int ((p1 &&& (2147483647 : Int32)) % (6 : Int32))), .val (.int (0 : Int32)), .val (.ref (own_ac di dl rt dq dj sa ((p1 &&& (2147483647 : Int32)) % (6 : Int32)))), .val (.ref qf), .unset, .unset] [(.int (0 : Int32)), (.ref (own_ac di dl rt dq dj sa ((p1 &&& (2147483647 : Int32)) % (6 : Int32))))])) (fun _ kt => ?_) ?_
            · show Steps p.tables e below (T29.setTop (mkF m 31 #[.val (.int p1), .val (.int p2), .val (.int ((p1 &&& (2147483647 : Int32)) % (6 : Int32))), .val (.int (0 : Int32)), .val (.ref (own_ac di dl rt dq dj sa ((p1 &&& (2147483647 : Int32)) % (6 : Int32)))), .unset, .unset, .unset] [(.ref qf)])) _
              refine XS.astore X29.here hx rfl (hb hby at_31) rfl rfl (l' := #[.val (.int p1), .val (.int p2), .val (.int ((p1 &&& (2147483647 : Int32)) % (6 : Int32))), .val (.int (0 : Int32)), .val (.ref (own_ac di dl rt dq dj sa ((p1 &&& (2147483647 : Int32)) % (6 : Int32)))), .val (.ref qf), .unset, .unset]) rfl ?_
              show Steps p.tables e below (T29.setTop (mkF m 33 #[.val (.int p1), .val (.int p2), .val (.int ((p1 &&& (2147483647 : Int32)) % (6 : Int32))), .val (.int (0 : Int32)), .val (.ref (own_ac di dl rt dq dj sa ((p1 &&& (2147483647 : Int32)) % (6 : Int32)))), .val (.ref qf), .unset, .unset] [])) _
              refine XS.aload X29.here hx rfl (hb hby at_33) rfl rfl ?_
              show Steps p.tables e below (T29.setTop (mkF m 35 #[.val (.int p1), .val (.int p2), .val (.int ((p1 &&& (2147483647 : Int32)) % (6 : Int32))), .val (.int (0 : Int32)), .val (.ref (own_ac di dl rt dq dj sa ((p1 &&& (2147483647 : Int32)) % (6 : Int32)))), .val (.ref qf), .unset, .unset] [(.ref (own_ac di dl rt dq dj sa ((p1 &&& (2147483647 : Int32)) % (6 : Int32))))])) _
              refine XS.iloadN X29.here hx rfl (hb hby at_35) rfl ?_
              exact kt
            obtain ⟨cq30, kq30, q30a, q30b, q30c⟩ := isOf hZ e29 Ex
            obtain ⟨_, _, ⟨T30, L30, k30, n30⟩, -, X30, ⟨Lc30, hQ30, l30, y30, z30⟩, st30⟩ := X29.virtualBack hx (y := (⟨"com/example/tardy_post/tardypost/UndeliverableAction", "umaStatus", "(Z)Lcom/example/tardy_post/tardypost/UmaStatus;"⟩ : MethodName)) (z := (⟨"com/example/tardy_post/tardypost/UndeliverableAction", "umaStatus", "(Z)Lcom/example/tardy_post/tardypost/UmaStatus;"⟩ : MethodName)) hown (mvT hZ (hw _ (List.mem_of_getElem? (i := 14) rfl))) (mvT hZ (hw _ (List.mem_of_getElem? (i := 15) rfl))) (notFace_of_selects (args := #[]) (mvT hZ (hw _ (List.mem_of_getElem? (i := 17) rfl)))) (mvT hZ (hw _ (List.mem_of_getElem? (i := 17) rfl))) (mvT hZ (hw _ (List.mem_of_getElem? (i := 16) rfl))) (by decide) (backOf (W := 0) (uma_00 l Z a0 hw [] (own_ac di dl rt dq dj sa ((p1 &&& (2147483647 : Int32)) % (6 : Int32))) qf h0 n0 Z0 Gx) hZ (hw _ (List.mem_of_getElem? (i := 18) rfl)) (hw _ (List.mem_of_getElem? (i := 6) rfl)) (by decide) (by decide)) q30a q30c (g := (mkF m 36 #[.val (.int p1), .val (.int p2), .val (.int ((p1 &&& (2147483647 : Int32)) % (6 : Int32))), .val (.int (0 : Int32)), .val (.ref (own_ac di dl rt dq dj sa ((p1 &&& (2147483647 : Int32)) % (6 : Int32)))), .val (.ref qf), .unset, .unset] [(.int (0 : Int32)), (.ref (own_ac di dl rt dq dj sa ((p1 &&& (2147483647 : Int32)) % (6 : Int32))))])) rfl (by rw [hml]; rfl) (Steps.refl _) (argsL := [(.int (0 : Int32))]) (rest := []) (lenOf pd_2 rfl) rfl (by show 2 * 0 + _ ≤ _; exact Nat.le_of_eq rfl) (hb hby at_36) (fun _ _ => ⟨rfl, e29, (by decide : 0 + 0 ≤ _), (by decide : 0 + 0 ≤ _)⟩)
            dsimp only [Pt.U, Pt.locs, Pt.cells, Pt.slots] at X30 l30 y30 z30 st30 hQ30
            subst l30 y30 z30
            obtain ⟨rfl, N30q, e30⟩ := hQ30
            have N30 := Fr.app N29 N30q
            refine Ends.st st30 ?_
            refine Ends.of (F' := T30.setTop (mkF m 87 #[.val (.int p1), .val (.int p2), .val (.int ((p1 &&& (2147483647 : Int32)) % (6 : Int32))), .val (.int (0 : Int32)), .val (.ref (own_ac di dl rt dq dj sa ((p1 &&& (2147483647 : Int32)) % (6 : Int32)))), .val (.ref qf), .val (.ref qf), .val (.int (1 : Int32))] [(.int (1 : Int32))])) (fun _ kt => ?_) ?_
            · show Steps p.tables e below (T30.setTop (mkF m 39 #[.val (.int p1), .val (.int p2), .val (.int ((p1 &&& (2147483647 : Int32)) % (6 : Int32))), .val (.int (0 : Int32)), .val (.ref (own_ac di dl rt dq dj sa ((p1 &&& (2147483647 : Int32)) % (6 : Int32)))), .val (.ref qf), .unset, .unset] [(.ref qf)])) _
              refine XS.astore X30.here hx rfl (hb hby at_39) rfl rfl (l' := #[.val (.int p1), .val (.int p2), .val (.int ((p1 &&& (2147483647 : Int32)) % (6 : Int32))), .val (.int (0 : Int32)), .val (.ref (own_ac di dl rt dq dj sa ((p1 &&& (2147483647 : Int32)) % (6 : Int32)))), .val (.ref qf), .val (.ref qf), .unset]) rfl ?_
              show Steps p.tables e below (T30.setTop (mkF m 41 #[.val (.int p1), .val (.int p2), .val (.int ((p1 &&& (2147483647 : Int32)) % (6 : Int32))), .val (.int (0 : Int32)), .val (.ref (own_ac di dl rt dq dj sa ((p1 &&& (2147483647 : Int32)) % (6 : Int32)))), .val (.ref qf), .val (.ref qf), .unset] [])) _
              refine XS.iloadN X30.here hx rfl (hb hby at_41) rfl ?_
              show Steps p.tables e below (T30.setTop (mkF m 42 #[.val (.int p1), .val (.int p2), .val (.int ((p1 &&& (2147483647 : Int32)) % (6 : Int32))), .val (.int (0 : Int32)), .val (.ref (own_ac di dl rt dq dj sa ((p1 &&& (2147483647 : Int32)) % (6 : Int32)))), .val (.ref qf), .val (.ref qf), .unset] [(.int (0 : Int32))])) _
              refine XS.ifYes X30.here hx rfl (pc0 := 42) (pc' := 63) rfl (hb hby at_42) rfl ((if0 _ _).trans (teq rfl).1) (by decide) (by decide) ?_
              show Steps p.tables e below (T30.setTop (mkF m 63 #[.val (.int p1), .val (.int p2), .val (.int ((p1 &&& (2147483647 : Int32)) % (6 : Int32))), .val (.int (0 : Int32)), .val (.ref (own_ac di dl rt dq dj sa ((p1 &&& (2147483647 : Int32)) % (6 : Int32)))), .val (.ref qf), .val (.ref qf), .unset] [])) _
              refine XS.iconst X30.here hx rfl (hb hby at_63) ?_
              show Steps p.tables e below (T30.setTop (mkF m 64 #[.val (.int p1), .val (.int p2), .val (.int ((p1 &&& (2147483647 : Int32)) % (6 : Int32))), .val (.int (0 : Int32)), .val (.ref (own_ac di dl rt dq dj sa ((p1 &&& (2147483647 : Int32)) % (6 : Int32)))), .val (.ref qf), .val (.ref qf), .unset] [(.int (1 : Int32))])) _
              refine XS.goto X30.here hx rfl (pc0 := 64) (pc' := 68) rfl (hb hby at_64) (by decide) (by decide) ?_
              show Steps p.tables e below (T30.setTop (mkF m 68 #[.val (.int p1), .val (.int p2), .val (.int ((p1 &&& (2147483647 : Int32)) % (6 : Int32))), .val (.int (0 : Int32)), .val (.ref (own_ac di dl rt dq dj sa ((p1 &&& (2147483647 : Int32)) % (6 : Int32)))), .val (.ref qf), .val (.ref qf), .unset] [(.int (1 : Int32))])) _
              refine XS.istore X30.here hx rfl (hb hby at_68) rfl (l' := #[.val (.int p1), .val (.int p2), .val (.int ((p1 &&& (2147483647 : Int32)) % (6 : Int32))), .val (.int (0 : Int32)), .val (.ref (own_ac di dl rt dq dj sa ((p1 &&& (2147483647 : Int32)) % (6 : Int32)))), .val (.ref qf), .val (.ref qf), .val (.int (1 : Int32))]) rfl ?_
              show Steps p.tables e below (T30.setTop (mkF m 70 #[.val (.int p1), .val (.int p2), .val (.int ((p1 &&& (2147483647 : Int32)) % (6 : Int32))), .val (.int (0 : Int32)), .val (.ref (own_ac di dl rt dq dj sa ((p1 &&& (2147483647 : Int32)) % (6 : Int32)))), .val (.ref qf), .val (.ref qf), .val (.int (1 : Int32))] [])) _
              refine XS.aload X30.here hx rfl (hb hby at_70) rfl rfl ?_
              show Steps p.tables e below (T30.setTop (mkF m 72 #[.val (.int p1), .val (.int p2), .val (.int ((p1 &&& (2147483647 : Int32)) % (6 : Int32))), .val (.int (0 : Int32)), .val (.ref (own_ac di dl rt dq dj sa ((p1 &&& (2147483647 : Int32)) % (6 : Int32)))), .val (.ref qf), .val (.ref qf), .val (.int (1 : Int32))] [(.ref qf)])) _
              refine XS.aload X30.here hx rfl (hb hby at_72) rfl rfl ?_
              show Steps p.tables e below (T30.setTop (mkF m 74 #[.val (.int p1), .val (.int p2), .val (.int ((p1 &&& (2147483647 : Int32)) % (6 : Int32))), .val (.int (0 : Int32)), .val (.ref (own_ac di dl rt dq dj sa ((p1 &&& (2147483647 : Int32)) % (6 : Int32)))), .val (.ref qf), .val (.ref qf), .val (.int (1 : Int32))] [(.ref qf), (.ref qf)])) _
              refine Jvm.RoadKit.acmp (g := (mkF m 74 #[.val (.int p1), .val (.int p2), .val (.int ((p1 &&& (2147483647 : Int32)) % (6 : Int32))), .val (.int (0 : Int32)), .val (.ref (own_ac di dl rt dq dj sa ((p1 &&& (2147483647 : Int32)) % (6 : Int32)))), .val (.ref qf), .val (.ref qf), .val (.int (1 : Int32))] [(.ref qf), (.ref qf)])) X30 hx rfl rfl rfl (pc0 := 74) (pc' := 77) (same := true) rfl (hb hby at_74) rfl (decide_eq_true (congrArg Value.ref rfl)) (by decide) (by decide) ?_
              show Steps p.tables e below (T30.setTop (mkF m 77 #[.val (.int p1), .val (.int p2), .val (.int ((p1 &&& (2147483647 : Int32)) % (6 : Int32))), .val (.int (0 : Int32)), .val (.ref (own_ac di dl rt dq dj sa ((p1 &&& (2147483647 : Int32)) % (6 : Int32)))), .val (.ref qf), .val (.ref qf), .val (.int (1 : Int32))] [])) _
              refine XS.iload X30.here hx rfl (hb hby at_77) rfl ?_
              show Steps p.tables e below (T30.setTop (mkF m 79 #[.val (.int p1), .val (.int p2), .val (.int ((p1 &&& (2147483647 : Int32)) % (6 : Int32))), .val (.int (0 : Int32)), .val (.ref (own_ac di dl rt dq dj sa ((p1 &&& (2147483647 : Int32)) % (6 : Int32)))), .val (.ref qf), .val (.ref qf), .val (.int (1 : Int32))] [(.int (1 : Int32))])) _
              refine XS.ifNo X30.here hx rfl (hb hby at_79) rfl ((if0 _ _).trans (feq (by decide)).1) ?_
              show Steps p.tables e below (T30.setTop (mkF m 82 #[.val (.int p1), .val (.int p2), .val (.int ((p1 &&& (2147483647 : Int32)) % (6 : Int32))), .val (.int (0 : Int32)), .val (.ref (own_ac di dl rt dq dj sa ((p1 &&& (2147483647 : Int32)) % (6 : Int32)))), .val (.ref qf), .val (.ref qf), .val (.int (1 : Int32))] [])) _
              refine XS.iconst X30.here hx rfl (hb hby at_82) ?_
              show Steps p.tables e below (T30.setTop (mkF m 83 #[.val (.int p1), .val (.int p2), .val (.int ((p1 &&& (2147483647 : Int32)) % (6 : Int32))), .val (.int (0 : Int32)), .val (.ref (own_ac di dl rt dq dj sa ((p1 &&& (2147483647 : Int32)) % (6 : Int32)))), .val (.ref qf), .val (.ref qf), .val (.int (1 : Int32))] [(.int (1 : Int32))])) _
              refine XS.goto X30.here hx rfl (pc0 := 83) (pc' := 87) rfl (hb hby at_83) (by decide) (by decide) ?_
              exact kt
            obtain ⟨fs, hr, hrun, hended, hW, hsame⟩ := X30.leave (v := some (.int (1 : Int32))) (fun h => by rw [Bd.returns] at h; cases h)
            exact ⟨_, _, retN X30 hx (t := .boolean) Bd.returns (by simp) (hb hby at_87) hr, hrun, hended, _, _, rfl, ⟨rfl, N30⟩, ⟨_, rfl⟩, hW, hsame.mono (by decide) (by decide)⟩
          · by_cases hk4 : ((p1 &&& (2147483647 : Int32)) % (6 : Int32)) = (4 : Int32)
            · obtain ⟨_, _, ⟨T31, L31, k31, n31⟩, -, X31, ⟨Lc31, hQ31, l31, y31, z31⟩, st31⟩ := Jvm.LawKit.callS X0 hx (y := (⟨"com/example/tardy_post/tardypost/UndeliverableActionUmaStatusPinLaw", "action", "(I)Lcom/example/tardy_post/tardypost/UndeliverableAction;"⟩ : MethodName)) hown (mvT hZ (hw _ (List.mem_of_getElem? (i := 1) rfl))) (mvT hZ (hw _ (List.mem_of_getElem? (i := 2) rfl))) (mvT hZ (hw _ (List.mem_of_getElem? (i := 3) rfl))) (mvT hZ (hw _ (List.mem_of_getElem? (i := 4) rfl))) (by decide) (backOf (W := 0) (rm1 l Z a0 hw [] ((p1 &&& (2147483647 : Int32)) % (6 : Int32)) di dl rt dq dj sa h0 n0 Z0 S_DISC S_DISCL S_RTS S_DLQ S_DLJ S_SAF) hZ (hw _ (List.mem_of_getElem? (i := 4) rfl)) (hw _ (List.mem_of_getElem? (i := 3) rfl)) (by decide) (by decide)) (g := (mkF m 21 #[.val (.int p1), .val (.int p2), .val (.int ((p1 &&& (2147483647 : Int32)) % (6 : Int32))), .val (.int (0 : Int32)), .unset, .unset, .unset, .unset] [(.int ((p1 &&& (2147483647 : Int32)) % (6 : Int32)))])) rfl (by rw [hml]; rfl) (argsL := [(.int ((p1 &&& (2147483647 : Int32)) % (6 : Int32)))]) (rest := []) (lenOf pd_0 rfl) rfl (by show 2 * 0 + _ ≤ _; exact Nat.le_of_eq rfl) (hb hby at_21) (fun _ _ => ⟨rfl, e0, (by decide : 0 + 0 ≤ _), (by decide : 0 + 0 ≤ _)⟩)
              dsimp only [Pt.U, Pt.locs, Pt.cells, Pt.slots] at X31 l31 y31 z31 st31 hQ31
              subst l31 y31 z31
              obtain ⟨rfl, N31q, e31⟩ := hQ31
              have N31 := Fr.app N0 N31q
              refine Ends.of st31 ?_
              refine Ends.of (F' := T31.setTop (mkF m 28 #[.val (.int p1), .val (.int p2), .val (.int ((p1 &&& (2147483647 : Int32)) % (6 : Int32))), .val (.int (0 : Int32)), .val (.ref (own_ac di dl rt dq dj sa ((p1 &&& (2147483647 : Int32)) % (6 : Int32)))), .unset, .unset, .unset] [(.int (0 : Int32)), (.int ((p1 &&& (2147483647 : Int32)) % (6 : Int32)))])) (fun _ kt => ?_) ?_
              · show Steps p.tables e below (T31.setTop (mkF m 24 #[.val (.int p1), .val (.int p2), .val (.int ((p1 &&& (2147483647 : Int32)) % (6 : Int32))), .val (.int (0 : Int32)), .unset, .unset, .unset, .unset] [(.ref (own_ac di dl rt dq dj sa ((p1 &&& (2147483647 : Int32)) % (6 : Int32))))])) _
                refine XS.astore X31.here hx rfl (hb hby at_24) rfl rfl (l' := #[.val (.int p1), .val (.int p2), .val (.int ((p1 &&& (2147483647 : Int32)) % (6 : Int32))), .val (.int (0 : Int32)), .val (.ref (own_ac di dl rt dq dj sa ((p1 &&& (2147483647 : Int32)) % (6 : Int32)))), .unset, .unset, .unset]) rfl ?_
                show Steps p.tables e below (T31.setTop (mkF m 26 #[.val (.int p1), .val (.int p2), .val (.int ((p1 &&& (2147483647 : Int32)) % (6 : Int32))), .val (.int (0 : Int32)), .val (.ref (own_ac di dl rt dq dj sa ((p1 &&& (2147483647 : Int32)) % (6 : Int32)))), .unset, .unset, .unset] [])) _
                refine XS.iloadN X31.here hx rfl (hb hby at_26) rfl ?_
                show Steps p.tables e below (T31.setTop (mkF m 27 #[.val (.int p1), .val (.int p2), .val (.int ((p1 &&& (2147483647 : Int32)) % (6 : Int32))), .val (.int (0 : Int32)), .val (.ref (own_ac di dl rt dq dj sa ((p1 &&& (2147483647 : Int32)) % (6 : Int32)))), .unset, .unset, .unset] [(.int ((p1 &&& (2147483647 : Int32)) % (6 : Int32)))])) _
                refine XS.iloadN X31.here hx rfl (hb hby at_27) rfl ?_
                exact kt
              obtain ⟨_, _, ⟨T32, L32, k32, n32⟩, -, X32, ⟨Lc32, hQ32, l32, y32, z32⟩, st32⟩ := Jvm.LawKit.callS X31 hx (y := (⟨"com/example/tardy_post/tardypost/UndeliverableActionUmaStatusPinLaw", "expected", "(IZ)Lcom/example/tardy_post/tardypost/UmaStatus;"⟩ : MethodName)) hown (mvT hZ (hw _ (List.mem_of_getElem? (i := 8) rfl))) (mvT hZ (hw _ (List.mem_of_getElem? (i := 9) rfl))) (mvT hZ (hw _ (List.mem_of_getElem? (i := 3) rfl))) (mvT hZ (hw _ (List.mem_of_getElem? (i := 10) rfl))) (by decide) (backOf (W := 0) (rm2 l Z a0 hw [] ((p1 &&& (2147483647 : Int32)) % (6 : Int32)) (0 : Int32) ds ls rs rf qs qf .null h0 n0 Z0 S_DISC_SUCCESS S_DISCL_SUCCESS S_RTS_SUCCESS S_RTS_FAIL S_DLQ_SUCCESS S_DLQ_FAILED (by rw [own_ex, if_neg hk0, if_neg hk1, if_neg hk2, if_neg hk3])) hZ (hw _ (List.mem_of_getElem? (i := 10) rfl)) (hw _ (List.mem_of_getElem? (i := 3) rfl)) (by decide) (by decide)) (g := (mkF m 28 #[.val (.int p1), .val (.int p2), .val (.int ((p1 &&& (2147483647 : Int32)) % (6 : Int32))), .val (.int (0 : Int32)), .val (.ref (own_ac di dl rt dq dj sa ((p1 &&& (2147483647 : Int32)) % (6 : Int32)))), .unset, .unset, .unset] [(.int (0 : Int32)), (.int ((p1 &&& (2147483647 : Int32)) % (6 : Int32)))])) rfl (by rw [hml]; rfl) (argsL := [(.int ((p1 &&& (2147483647 : Int32)) % (6 : Int32))), (.int (0 : Int32))]) (rest := []) (lenOf pd_1 rfl) rfl (by show 2 * 0 + _ ≤ _; exact Nat.le_of_eq rfl) (hb hby at_28) (fun _ _ => ⟨rfl, e31, (by decide : 0 + 0 ≤ _), (by decide : 0 + 0 ≤ _)⟩)
              dsimp only [Pt.U, Pt.locs, Pt.cells, Pt.slots] at X32 l32 y32 z32 st32 hQ32
              subst l32 y32 z32
              obtain ⟨rfl, N32q, e32⟩ := hQ32
              have N32 := Fr.app N31 N32q
              refine Ends.of st32 ?_
              have hs : (own_ac di dl rt dq dj sa ((p1 &&& (2147483647 : Int32)) % (6 : Int32))) = dj := by rw [own_ac, if_neg hk0, if_neg hk1, if_neg hk2, if_neg hk3, if_pos hk4]
              have Ex : Exa Z h0 (own_ac di dl rt dq dj sa ((p1 &&& (2147483647 : Int32)) % (6 : Int32))) "com/example/tardy_post/tardypost/UndeliverableAction" := by rw [hs]; exact E_DLJ
              have Dx : Fld Z h0 (own_ac di dl rt dq dj sa ((p1 &&& (2147483647 : Int32)) % (6 : Int32))) "com/example/tardy_post/tardypost/UndeliverableAction" "done" "Lcom/example/tardy_post/tardypost/UmaStatus;" .null := by rw [hs]; exact D_DLJ
              have Gx : Fld Z h0 (own_ac di dl rt dq dj sa ((p1 &&& (2147483647 : Int32)) % (6 : Int32))) "com/example/tardy_post/tardypost/UndeliverableAction" "failed" "Lcom/example/tardy_post/tardypost/UmaStatus;" .null := by rw [hs]; exact G_DLJ
              refine Ends.of (F' := T32.setTop (mkF m 36 #[.val (.int p1), .val (.int p2), .val (.int ((p1 &&& (2147483647 : Int32)) % (6 : Int32))), .val (.int (0 : Int32)), .val (.ref (own_ac di dl rt dq dj sa ((p1 &&& (2147483647 : Int32)) % (6 : Int32)))), .val .null, .unset, .unset] [(.int (0 : Int32)), (.ref (own_ac di dl rt dq dj sa ((p1 &&& (2147483647 : Int32)) % (6 : Int32))))])) (fun _ kt => ?_) ?_
              · show Steps p.tables e below (T32.setTop (mkF m 31 #[.val (.int p1), .val (.int p2), .val (.int ((p1 &&& (2147483647 : Int32)) % (6 : Int32))), .val (.int (0 : Int32)), .val (.ref (own_ac di dl rt dq dj sa ((p1 &&& (2147483647 : Int32)) % (6 : Int32)))), .unset, .unset, .unset] [.null])) _
                refine XS.astore X32.here hx rfl (hb hby at_31) rfl rfl (l' := #[.val (.int p1), .val (.int p2), .val (.int ((p1 &&& (2147483647 : Int32)) % (6 : Int32))), .val (.int (0 : Int32)), .val (.ref (own_ac di dl rt dq dj sa ((p1 &&& (2147483647 : Int32)) % (6 : Int32)))), .val .null, .unset, .unset]) rfl ?_
                show Steps p.tables e below (T32.setTop (mkF m 33 #[.val (.int p1), .val (.int p2), .val (.int ((p1 &&& (2147483647 : Int32)) % (6 : Int32))), .val (.int (0 : Int32)), .val (.ref (own_ac di dl rt dq dj sa ((p1 &&& (2147483647 : Int32)) % (6 : Int32)))), .val .null, .unset, .unset] [])) _
                refine XS.aload X32.here hx rfl (hb hby at_33) rfl rfl ?_
                show Steps p.tables e below (T32.setTop (mkF m 35 #[.val (.int p1), .val (.int p2), .val (.int ((p1 &&& (2147483647 : Int32)) % (6 : Int32))), .val (.int (0 : Int32)), .val (.ref (own_ac di dl rt dq dj sa ((p1 &&& (2147483647 : Int32)) % (6 : Int32)))), .val .null, .unset, .unset] [(.ref (own_ac di dl rt dq dj sa ((p1 &&& (2147483647 : Int32)) % (6 : Int32))))])) _
                refine XS.iloadN X32.here hx rfl (hb hby at_35) rfl ?_
                exact kt
              obtain ⟨cq33, kq33, q33a, q33b, q33c⟩ := isOf hZ e32 Ex
              obtain ⟨_, _, ⟨T33, L33, k33, n33⟩, -, X33, ⟨Lc33, hQ33, l33, y33, z33⟩, st33⟩ := X32.virtualBack hx (y := (⟨"com/example/tardy_post/tardypost/UndeliverableAction", "umaStatus", "(Z)Lcom/example/tardy_post/tardypost/UmaStatus;"⟩ : MethodName)) (z := (⟨"com/example/tardy_post/tardypost/UndeliverableAction", "umaStatus", "(Z)Lcom/example/tardy_post/tardypost/UmaStatus;"⟩ : MethodName)) hown (mvT hZ (hw _ (List.mem_of_getElem? (i := 14) rfl))) (mvT hZ (hw _ (List.mem_of_getElem? (i := 15) rfl))) (notFace_of_selects (args := #[]) (mvT hZ (hw _ (List.mem_of_getElem? (i := 17) rfl)))) (mvT hZ (hw _ (List.mem_of_getElem? (i := 17) rfl))) (mvT hZ (hw _ (List.mem_of_getElem? (i := 16) rfl))) (by decide) (backOf (W := 0) (uma_01 l Z a0 hw [] (own_ac di dl rt dq dj sa ((p1 &&& (2147483647 : Int32)) % (6 : Int32))) di h0 n0 Z0 Gx) hZ (hw _ (List.mem_of_getElem? (i := 18) rfl)) (hw _ (List.mem_of_getElem? (i := 6) rfl)) (by decide) (by decide)) q33a q33c (g := (mkF m 36 #[.val (.int p1), .val (.int p2), .val (.int ((p1 &&& (2147483647 : Int32)) % (6 : Int32))), .val (.int (0 : Int32)), .val (.ref (own_ac di dl rt dq dj sa ((p1 &&& (2147483647 : Int32)) % (6 : Int32)))), .val .null, .unset, .unset] [(.int (0 : Int32)), (.ref (own_ac di dl rt dq dj sa ((p1 &&& (2147483647 : Int32)) % (6 : Int32))))])) rfl (by rw [hml]; rfl) (Steps.refl _) (argsL := [(.int (0 : Int32))]) (rest := []) (lenOf pd_2 rfl) rfl (by show 2 * 0 + _ ≤ _; exact Nat.le_of_eq rfl) (hb hby at_36) (fun _ _ => ⟨rfl, e32, (by decide : 0 + 0 ≤ _), (by decide : 0 + 0 ≤ _)⟩)
              dsimp only [Pt.U, Pt.locs, Pt.cells, Pt.slots] at X33 l33 y33 z33 st33 hQ33
              subst l33 y33 z33
              obtain ⟨rfl, N33q, e33⟩ := hQ33
              have N33 := Fr.app N32 N33q
              refine Ends.st st33 ?_
              refine Ends.of (F' := T33.setTop (mkF m 87 #[.val (.int p1), .val (.int p2), .val (.int ((p1 &&& (2147483647 : Int32)) % (6 : Int32))), .val (.int (0 : Int32)), .val (.ref (own_ac di dl rt dq dj sa ((p1 &&& (2147483647 : Int32)) % (6 : Int32)))), .val .null, .val .null, .val (.int (1 : Int32))] [(.int (1 : Int32))])) (fun _ kt => ?_) ?_
              · show Steps p.tables e below (T33.setTop (mkF m 39 #[.val (.int p1), .val (.int p2), .val (.int ((p1 &&& (2147483647 : Int32)) % (6 : Int32))), .val (.int (0 : Int32)), .val (.ref (own_ac di dl rt dq dj sa ((p1 &&& (2147483647 : Int32)) % (6 : Int32)))), .val .null, .unset, .unset] [.null])) _
                refine XS.astore X33.here hx rfl (hb hby at_39) rfl rfl (l' := #[.val (.int p1), .val (.int p2), .val (.int ((p1 &&& (2147483647 : Int32)) % (6 : Int32))), .val (.int (0 : Int32)), .val (.ref (own_ac di dl rt dq dj sa ((p1 &&& (2147483647 : Int32)) % (6 : Int32)))), .val .null, .val .null, .unset]) rfl ?_
                show Steps p.tables e below (T33.setTop (mkF m 41 #[.val (.int p1), .val (.int p2), .val (.int ((p1 &&& (2147483647 : Int32)) % (6 : Int32))), .val (.int (0 : Int32)), .val (.ref (own_ac di dl rt dq dj sa ((p1 &&& (2147483647 : Int32)) % (6 : Int32)))), .val .null, .val .null, .unset] [])) _
                refine XS.iloadN X33.here hx rfl (hb hby at_41) rfl ?_
                show Steps p.tables e below (T33.setTop (mkF m 42 #[.val (.int p1), .val (.int p2), .val (.int ((p1 &&& (2147483647 : Int32)) % (6 : Int32))), .val (.int (0 : Int32)), .val (.ref (own_ac di dl rt dq dj sa ((p1 &&& (2147483647 : Int32)) % (6 : Int32)))), .val .null, .val .null, .unset] [(.int (0 : Int32))])) _
                refine XS.ifYes X33.here hx rfl (pc0 := 42) (pc' := 63) rfl (hb hby at_42) rfl ((if0 _ _).trans (teq rfl).1) (by decide) (by decide) ?_
                show Steps p.tables e below (T33.setTop (mkF m 63 #[.val (.int p1), .val (.int p2), .val (.int ((p1 &&& (2147483647 : Int32)) % (6 : Int32))), .val (.int (0 : Int32)), .val (.ref (own_ac di dl rt dq dj sa ((p1 &&& (2147483647 : Int32)) % (6 : Int32)))), .val .null, .val .null, .unset] [])) _
                refine XS.iconst X33.here hx rfl (hb hby at_63) ?_
                show Steps p.tables e below (T33.setTop (mkF m 64 #[.val (.int p1), .val (.int p2), .val (.int ((p1 &&& (2147483647 : Int32)) % (6 : Int32))), .val (.int (0 : Int32)), .val (.ref (own_ac di dl rt dq dj sa ((p1 &&& (2147483647 : Int32)) % (6 : Int32)))), .val .null, .val .null, .unset] [(.int (1 : Int32))])) _
                refine XS.goto X33.here hx rfl (pc0 := 64) (pc' := 68) rfl (hb hby at_64) (by decide) (by decide) ?_
                show Steps p.tables e below (T33.setTop (mkF m 68 #[.val (.int p1), .val (.int p2), .val (.int ((p1 &&& (2147483647 : Int32)) % (6 : Int32))), .val (.int (0 : Int32)), .val (.ref (own_ac di dl rt dq dj sa ((p1 &&& (2147483647 : Int32)) % (6 : Int32)))), .val .null, .val .null, .unset] [(.int (1 : Int32))])) _
                refine XS.istore X33.here hx rfl (hb hby at_68) rfl (l' := #[.val (.int p1), .val (.int p2), .val (.int ((p1 &&& (2147483647 : Int32)) % (6 : Int32))), .val (.int (0 : Int32)), .val (.ref (own_ac di dl rt dq dj sa ((p1 &&& (2147483647 : Int32)) % (6 : Int32)))), .val .null, .val .null, .val (.int (1 : Int32))]) rfl ?_
                show Steps p.tables e below (T33.setTop (mkF m 70 #[.val (.int p1), .val (.int p2), .val (.int ((p1 &&& (2147483647 : Int32)) % (6 : Int32))), .val (.int (0 : Int32)), .val (.ref (own_ac di dl rt dq dj sa ((p1 &&& (2147483647 : Int32)) % (6 : Int32)))), .val .null, .val .null, .val (.int (1 : Int32))] [])) _
                refine XS.aload X33.here hx rfl (hb hby at_70) rfl rfl ?_
                show Steps p.tables e below (T33.setTop (mkF m 72 #[.val (.int p1), .val (.int p2), .val (.int ((p1 &&& (2147483647 : Int32)) % (6 : Int32))), .val (.int (0 : Int32)), .val (.ref (own_ac di dl rt dq dj sa ((p1 &&& (2147483647 : Int32)) % (6 : Int32)))), .val .null, .val .null, .val (.int (1 : Int32))] [.null])) _
                refine XS.aload X33.here hx rfl (hb hby at_72) rfl rfl ?_
                show Steps p.tables e below (T33.setTop (mkF m 74 #[.val (.int p1), .val (.int p2), .val (.int ((p1 &&& (2147483647 : Int32)) % (6 : Int32))), .val (.int (0 : Int32)), .val (.ref (own_ac di dl rt dq dj sa ((p1 &&& (2147483647 : Int32)) % (6 : Int32)))), .val .null, .val .null, .val (.int (1 : Int32))] [.null, .null])) _
                refine Jvm.RoadKit.acmp (g := (mkF m 74 #[.val (.int p1), .val (.int p2), .val (.int ((p1 &&& (2147483647 : Int32)) % (6 : Int32))), .val (.int (0 : Int32)), .val (.ref (own_ac di dl rt dq dj sa ((p1 &&& (2147483647 : Int32)) % (6 : Int32)))), .val .null, .val .null, .val (.int (1 : Int32))] [.null, .null])) X33 hx rfl rfl rfl (pc0 := 74) (pc' := 77) (same := true) rfl (hb hby at_74) rfl (decide_eq_true rfl) (by decide) (by decide) ?_
                show Steps p.tables e below (T33.setTop (mkF m 77 #[.val (.int p1), .val (.int p2), .val (.int ((p1 &&& (2147483647 : Int32)) % (6 : Int32))), .val (.int (0 : Int32)), .val (.ref (own_ac di dl rt dq dj sa ((p1 &&& (2147483647 : Int32)) % (6 : Int32)))), .val .null, .val .null, .val (.int (1 : Int32))] [])) _
                refine XS.iload X33.here hx rfl (hb hby at_77) rfl ?_
                show Steps p.tables e below (T33.setTop (mkF m 79 #[.val (.int p1), .val (.int p2), .val (.int ((p1 &&& (2147483647 : Int32)) % (6 : Int32))), .val (.int (0 : Int32)), .val (.ref (own_ac di dl rt dq dj sa ((p1 &&& (2147483647 : Int32)) % (6 : Int32)))), .val .null, .val .null, .val (.int (1 : Int32))] [(.int (1 : Int32))])) _
                refine XS.ifNo X33.here hx rfl (hb hby at_79) rfl ((if0 _ _).trans (feq (by decide)).1) ?_
                show Steps p.tables e below (T33.setTop (mkF m 82 #[.val (.int p1), .val (.int p2), .val (.int ((p1 &&& (2147483647 : Int32)) % (6 : Int32))), .val (.int (0 : Int32)), .val (.ref (own_ac di dl rt dq dj sa ((p1 &&& (2147483647 : Int32)) % (6 : Int32)))), .val .null, .val .null, .val (.int (1 : Int32))] [])) _
                refine XS.iconst X33.here hx rfl (hb hby at_82) ?_
                show Steps p.tables e below (T33.setTop (mkF m 83 #[.val (.int p1), .val (.int p2), .val (.int ((p1 &&& (2147483647 : Int32)) % (6 : Int32))), .val (.int (0 : Int32)), .val (.ref (own_ac di dl rt dq dj sa ((p1 &&& (2147483647 : Int32)) % (6 : Int32)))), .val .null, .val .null, .val (.int (1 : Int32))] [(.int (1 : Int32))])) _
                refine XS.goto X33.here hx rfl (pc0 := 83) (pc' := 87) rfl (hb hby at_83) (by decide) (by decide) ?_
                exact kt
              obtain ⟨fs, hr, hrun, hended, hW, hsame⟩ := X33.leave (v := some (.int (1 : Int32))) (fun h => by rw [Bd.returns] at h; cases h)
              exact ⟨_, _, retN X33 hx (t := .boolean) Bd.returns (by simp) (hb hby at_87) hr, hrun, hended, _, _, rfl, ⟨rfl, N33⟩, ⟨_, rfl⟩, hW, hsame.mono (by decide) (by decide)⟩
            · obtain ⟨_, _, ⟨T34, L34, k34, n34⟩, -, X34, ⟨Lc34, hQ34, l34, y34, z34⟩, st34⟩ := Jvm.LawKit.callS X0 hx (y := (⟨"com/example/tardy_post/tardypost/UndeliverableActionUmaStatusPinLaw", "action", "(I)Lcom/example/tardy_post/tardypost/UndeliverableAction;"⟩ : MethodName)) hown (mvT hZ (hw _ (List.mem_of_getElem? (i := 1) rfl))) (mvT hZ (hw _ (List.mem_of_getElem? (i := 2) rfl))) (mvT hZ (hw _ (List.mem_of_getElem? (i := 3) rfl))) (mvT hZ (hw _ (List.mem_of_getElem? (i := 4) rfl))) (by decide) (backOf (W := 0) (rm1 l Z a0 hw [] ((p1 &&& (2147483647 : Int32)) % (6 : Int32)) di dl rt dq dj sa h0 n0 Z0 S_DISC S_DISCL S_RTS S_DLQ S_DLJ S_SAF) hZ (hw _ (List.mem_of_getElem? (i := 4) rfl)) (hw _ (List.mem_of_getElem? (i := 3) rfl)) (by decide) (by decide)) (g := (mkF m 21 #[.val (.int p1), .val (.int p2), .val (.int ((p1 &&& (2147483647 : Int32)) % (6 : Int32))), .val (.int (0 : Int32)), .unset, .unset, .unset, .unset] [(.int ((p1 &&& (2147483647 : Int32)) % (6 : Int32)))])) rfl (by rw [hml]; rfl) (argsL := [(.int ((p1 &&& (2147483647 : Int32)) % (6 : Int32)))]) (rest := []) (lenOf pd_0 rfl) rfl (by show 2 * 0 + _ ≤ _; exact Nat.le_of_eq rfl) (hb hby at_21) (fun _ _ => ⟨rfl, e0, (by decide : 0 + 0 ≤ _), (by decide : 0 + 0 ≤ _)⟩)
              dsimp only [Pt.U, Pt.locs, Pt.cells, Pt.slots] at X34 l34 y34 z34 st34 hQ34
              subst l34 y34 z34
              obtain ⟨rfl, N34q, e34⟩ := hQ34
              have N34 := Fr.app N0 N34q
              refine Ends.of st34 ?_
              refine Ends.of (F' := T34.setTop (mkF m 28 #[.val (.int p1), .val (.int p2), .val (.int ((p1 &&& (2147483647 : Int32)) % (6 : Int32))), .val (.int (0 : Int32)), .val (.ref (own_ac di dl rt dq dj sa ((p1 &&& (2147483647 : Int32)) % (6 : Int32)))), .unset, .unset, .unset] [(.int (0 : Int32)), (.int ((p1 &&& (2147483647 : Int32)) % (6 : Int32)))])) (fun _ kt => ?_) ?_
              · show Steps p.tables e below (T34.setTop (mkF m 24 #[.val (.int p1), .val (.int p2), .val (.int ((p1 &&& (2147483647 : Int32)) % (6 : Int32))), .val (.int (0 : Int32)), .unset, .unset, .unset, .unset] [(.ref (own_ac di dl rt dq dj sa ((p1 &&& (2147483647 : Int32)) % (6 : Int32))))])) _
                refine XS.astore X34.here hx rfl (hb hby at_24) rfl rfl (l' := #[.val (.int p1), .val (.int p2), .val (.int ((p1 &&& (2147483647 : Int32)) % (6 : Int32))), .val (.int (0 : Int32)), .val (.ref (own_ac di dl rt dq dj sa ((p1 &&& (2147483647 : Int32)) % (6 : Int32)))), .unset, .unset, .unset]) rfl ?_
                show Steps p.tables e below (T34.setTop (mkF m 26 #[.val (.int p1), .val (.int p2), .val (.int ((p1 &&& (2147483647 : Int32)) % (6 : Int32))), .val (.int (0 : Int32)), .val (.ref (own_ac di dl rt dq dj sa ((p1 &&& (2147483647 : Int32)) % (6 : Int32)))), .unset, .unset, .unset] [])) _
                refine XS.iloadN X34.here hx rfl (hb hby at_26) rfl ?_
                show Steps p.tables e below (T34.setTop (mkF m 27 #[.val (.int p1), .val (.int p2), .val (.int ((p1 &&& (2147483647 : Int32)) % (6 : Int32))), .val (.int (0 : Int32)), .val (.ref (own_ac di dl rt dq dj sa ((p1 &&& (2147483647 : Int32)) % (6 : Int32)))), .unset, .unset, .unset] [(.int ((p1 &&& (2147483647 : Int32)) % (6 : Int32)))])) _
                refine XS.iloadN X34.here hx rfl (hb hby at_27) rfl ?_
                exact kt
              obtain ⟨_, _, ⟨T35, L35, k35, n35⟩, -, X35, ⟨Lc35, hQ35, l35, y35, z35⟩, st35⟩ := Jvm.LawKit.callS X34 hx (y := (⟨"com/example/tardy_post/tardypost/UndeliverableActionUmaStatusPinLaw", "expected", "(IZ)Lcom/example/tardy_post/tardypost/UmaStatus;"⟩ : MethodName)) hown (mvT hZ (hw _ (List.mem_of_getElem? (i := 8) rfl))) (mvT hZ (hw _ (List.mem_of_getElem? (i := 9) rfl))) (mvT hZ (hw _ (List.mem_of_getElem? (i := 3) rfl))) (mvT hZ (hw _ (List.mem_of_getElem? (i := 10) rfl))) (by decide) (backOf (W := 0) (rm2 l Z a0 hw [] ((p1 &&& (2147483647 : Int32)) % (6 : Int32)) (0 : Int32) ds ls rs rf qs qf .null h0 n0 Z0 S_DISC_SUCCESS S_DISCL_SUCCESS S_RTS_SUCCESS S_RTS_FAIL S_DLQ_SUCCESS S_DLQ_FAILED (by rw [own_ex, if_neg hk0, if_neg hk1, if_neg hk2, if_neg hk3])) hZ (hw _ (List.mem_of_getElem? (i := 10) rfl)) (hw _ (List.mem_of_getElem? (i := 3) rfl)) (by decide) (by decide)) (g := (mkF m 28 #[.val (.int p1), .val (.int p2), .val (.int ((p1 &&& (2147483647 : Int32)) % (6 : Int32))), .val (.int (0 : Int32)), .val (.ref (own_ac di dl rt dq dj sa ((p1 &&& (2147483647 : Int32)) % (6 : Int32)))), .unset, .unset, .unset] [(.int (0 : Int32)), (.int ((p1 &&& (2147483647 : Int32)) % (6 : Int32)))])) rfl (by rw [hml]; rfl) (argsL := [(.int ((p1 &&& (2147483647 : Int32)) % (6 : Int32))), (.int (0 : Int32))]) (rest := []) (lenOf pd_1 rfl) rfl (by show 2 * 0 + _ ≤ _; exact Nat.le_of_eq rfl) (hb hby at_28) (fun _ _ => ⟨rfl, e34, (by decide : 0 + 0 ≤ _), (by decide : 0 + 0 ≤ _)⟩)
              dsimp only [Pt.U, Pt.locs, Pt.cells, Pt.slots] at X35 l35 y35 z35 st35 hQ35
              subst l35 y35 z35
              obtain ⟨rfl, N35q, e35⟩ := hQ35
              have N35 := Fr.app N34 N35q
              refine Ends.of st35 ?_
              have hs : (own_ac di dl rt dq dj sa ((p1 &&& (2147483647 : Int32)) % (6 : Int32))) = sa := by rw [own_ac, if_neg hk0, if_neg hk1, if_neg hk2, if_neg hk3, if_neg hk4]
              have Ex : Exa Z h0 (own_ac di dl rt dq dj sa ((p1 &&& (2147483647 : Int32)) % (6 : Int32))) "com/example/tardy_post/tardypost/UndeliverableAction" := by rw [hs]; exact E_SAF
              have Dx : Fld Z h0 (own_ac di dl rt dq dj sa ((p1 &&& (2147483647 : Int32)) % (6 : Int32))) "com/example/tardy_post/tardypost/UndeliverableAction" "done" "Lcom/example/tardy_post/tardypost/UmaStatus;" .null := by rw [hs]; exact D_SAF
              have Gx : Fld Z h0 (own_ac di dl rt dq dj sa ((p1 &&& (2147483647 : Int32)) % (6 : Int32))) "com/example/tardy_post/tardypost/UndeliverableAction" "failed" "Lcom/example/tardy_post/tardypost/UmaStatus;" .null := by rw [hs]; exact G_SAF
              refine Ends.of (F' := T35.setTop (mkF m 36 #[.val (.int p1), .val (.int p2), .val (.int ((p1 &&& (2147483647 : Int32)) % (6 : Int32))), .val (.int (0 : Int32)), .val (.ref (own_ac di dl rt dq dj sa ((p1 &&& (2147483647 : Int32)) % (6 : Int32)))), .val .null, .unset, .unset] [(.int (0 : Int32)), (.ref (own_ac di dl rt dq dj sa ((p1 &&& (2147483647 : Int32)) % (6 : Int32))))])) (fun _ kt => ?_) ?_
              · show Steps p.tables e below (T35.setTop (mkF m 31 #[.val (.int p1), .val (.int p2), .val (.int ((p1 &&& (2147483647 : Int32)) % (6 : Int32))), .val (.int (0 : Int32)), .val (.ref (own_ac di dl rt dq dj sa ((p1 &&& (2147483647 : Int32)) % (6 : Int32)))), .unset, .unset, .unset] [.null])) _
                refine XS.astore X35.here hx rfl (hb hby at_31) rfl rfl (l' := #[.val (.int p1), .val (.int p2), .val (.int ((p1 &&& (2147483647 : Int32)) % (6 : Int32))), .val (.int (0 : Int32)), .val (.ref (own_ac di dl rt dq dj sa ((p1 &&& (2147483647 : Int32)) % (6 : Int32)))), .val .null, .unset, .unset]) rfl ?_
                show Steps p.tables e below (T35.setTop (mkF m 33 #[.val (.int p1), .val (.int p2), .val (.int ((p1 &&& (2147483647 : Int32)) % (6 : Int32))), .val (.int (0 : Int32)), .val (.ref (own_ac di dl rt dq dj sa ((p1 &&& (2147483647 : Int32)) % (6 : Int32)))), .val .null, .unset, .unset] [])) _
                refine XS.aload X35.here hx rfl (hb hby at_33) rfl rfl ?_
                show Steps p.tables e below (T35.setTop (mkF m 35 #[.val (.int p1), .val (.int p2), .val (.int ((p1 &&& (2147483647 : Int32)) % (6 : Int32))), .val (.int (0 : Int32)), .val (.ref (own_ac di dl rt dq dj sa ((p1 &&& (2147483647 : Int32)) % (6 : Int32)))), .val .null, .unset, .unset] [(.ref (own_ac di dl rt dq dj sa ((p1 &&& (2147483647 : Int32)) % (6 : Int32))))])) _
                refine XS.iloadN X35.here hx rfl (hb hby at_35) rfl ?_
                exact kt
              obtain ⟨cq36, kq36, q36a, q36b, q36c⟩ := isOf hZ e35 Ex
              obtain ⟨_, _, ⟨T36, L36, k36, n36⟩, -, X36, ⟨Lc36, hQ36, l36, y36, z36⟩, st36⟩ := X35.virtualBack hx (y := (⟨"com/example/tardy_post/tardypost/UndeliverableAction", "umaStatus", "(Z)Lcom/example/tardy_post/tardypost/UmaStatus;"⟩ : MethodName)) (z := (⟨"com/example/tardy_post/tardypost/UndeliverableAction", "umaStatus", "(Z)Lcom/example/tardy_post/tardypost/UmaStatus;"⟩ : MethodName)) hown (mvT hZ (hw _ (List.mem_of_getElem? (i := 14) rfl))) (mvT hZ (hw _ (List.mem_of_getElem? (i := 15) rfl))) (notFace_of_selects (args := #[]) (mvT hZ (hw _ (List.mem_of_getElem? (i := 17) rfl)))) (mvT hZ (hw _ (List.mem_of_getElem? (i := 17) rfl))) (mvT hZ (hw _ (List.mem_of_getElem? (i := 16) rfl))) (by decide) (backOf (W := 0) (uma_01 l Z a0 hw [] (own_ac di dl rt dq dj sa ((p1 &&& (2147483647 : Int32)) % (6 : Int32))) di h0 n0 Z0 Gx) hZ (hw _ (List.mem_of_getElem? (i := 18) rfl)) (hw _ (List.mem_of_getElem? (i := 6) rfl)) (by decide) (by decide)) q36a q36c (g := (mkF m 36 #[.val (.int p1), .val (.int p2), .val (.int ((p1 &&& (2147483647 : Int32)) % (6 : Int32))), .val (.int (0 : Int32)), .val (.ref (own_ac di dl rt dq dj sa ((p1 &&& (2147483647 : Int32)) % (6 : Int32)))), .val .null, .unset, .unset] [(.int (0 : Int32)), (.ref (own_ac di dl rt dq dj sa ((p1 &&& (2147483647 : Int32)) % (6 : Int32))))])) rfl (by rw [hml]; rfl) (Steps.refl _) (argsL := [(.int (0 : Int32))]) (rest := []) (lenOf pd_2 rfl) rfl (by show 2 * 0 + _ ≤ _; exact Nat.le_of_eq rfl) (hb hby at_36) (fun _ _ => ⟨rfl, e35, (by decide : 0 + 0 ≤ _), (by decide : 0 + 0 ≤ _)⟩)
              dsimp only [Pt.U, Pt.locs, Pt.cells, Pt.slots] at X36 l36 y36 z36 st36 hQ36
              subst l36 y36 z36
              obtain ⟨rfl, N36q, e36⟩ := hQ36
              have N36 := Fr.app N35 N36q
              refine Ends.st st36 ?_
              refine Ends.of (F' := T36.setTop (mkF m 87 #[.val (.int p1), .val (.int p2), .val (.int ((p1 &&& (2147483647 : Int32)) % (6 : Int32))), .val (.int (0 : Int32)), .val (.ref (own_ac di dl rt dq dj sa ((p1 &&& (2147483647 : Int32)) % (6 : Int32)))), .val .null, .val .null, .val (.int (1 : Int32))] [(.int (1 : Int32))])) (fun _ kt => ?_) ?_
              · show Steps p.tables e below (T36.setTop (mkF m 39 #[.val (.int p1), .val (.int p2), .val (.int ((p1 &&& (2147483647 : Int32)) % (6 : Int32))), .val (.int (0 : Int32)), .val (.ref (own_ac di dl rt dq dj sa ((p1 &&& (2147483647 : Int32)) % (6 : Int32)))), .val .null, .unset, .unset] [.null])) _
                refine XS.astore X36.here hx rfl (hb hby at_39) rfl rfl (l' := #[.val (.int p1), .val (.int p2), .val (.int ((p1 &&& (2147483647 : Int32)) % (6 : Int32))), .val (.int (0 : Int32)), .val (.ref (own_ac di dl rt dq dj sa ((p1 &&& (2147483647 : Int32)) % (6 : Int32)))), .val .null, .val .null, .unset]) rfl ?_
                show Steps p.tables e below (T36.setTop (mkF m 41 #[.val (.int p1), .val (.int p2), .val (.int ((p1 &&& (2147483647 : Int32)) % (6 : Int32))), .val (.int (0 : Int32)), .val (.ref (own_ac di dl rt dq dj sa ((p1 &&& (2147483647 : Int32)) % (6 : Int32)))), .val .null, .val .null, .unset] [])) _
                refine XS.iloadN X36.here hx rfl (hb hby at_41) rfl ?_
                show Steps p.tables e below (T36.setTop (mkF m 42 #[.val (.int p1), .val (.int p2), .val (.int ((p1 &&& (2147483647 : Int32)) % (6 : Int32))), .val (.int (0 : Int32)), .val (.ref (own_ac di dl rt dq dj sa ((p1 &&& (2147483647 : Int32)) % (6 : Int32)))), .val .null, .val .null, .unset] [(.int (0 : Int32))])) _
                refine XS.ifYes X36.here hx rfl (pc0 := 42) (pc' := 63) rfl (hb hby at_42) rfl ((if0 _ _).trans (teq rfl).1) (by decide) (by decide) ?_
                show Steps p.tables e below (T36.setTop (mkF m 63 #[.val (.int p1), .val (.int p2), .val (.int ((p1 &&& (2147483647 : Int32)) % (6 : Int32))), .val (.int (0 : Int32)), .val (.ref (own_ac di dl rt dq dj sa ((p1 &&& (2147483647 : Int32)) % (6 : Int32)))), .val .null, .val .null, .unset] [])) _
                refine XS.iconst X36.here hx rfl (hb hby at_63) ?_
                show Steps p.tables e below (T36.setTop (mkF m 64 #[.val (.int p1), .val (.int p2), .val (.int ((p1 &&& (2147483647 : Int32)) % (6 : Int32))), .val (.int (0 : Int32)), .val (.ref (own_ac di dl rt dq dj sa ((p1 &&& (2147483647 : Int32)) % (6 : Int32)))), .val .null, .val .null, .unset] [(.int (1 : Int32))])) _
                refine XS.goto X36.here hx rfl (pc0 := 64) (pc' := 68) rfl (hb hby at_64) (by decide) (by decide) ?_
                show Steps p.tables e below (T36.setTop (mkF m 68 #[.val (.int p1), .val (.int p2), .val (.int ((p1 &&& (2147483647 : Int32)) % (6 : Int32))), .val (.int (0 : Int32)), .val (.ref (own_ac di dl rt dq dj sa ((p1 &&& (2147483647 : Int32)) % (6 : Int32)))), .val .null, .val .null, .unset] [(.int (1 : Int32))])) _
                refine XS.istore X36.here hx rfl (hb hby at_68) rfl (l' := #[.val (.int p1), .val (.int p2), .val (.int ((p1 &&& (2147483647 : Int32)) % (6 : Int32))), .val (.int (0 : Int32)), .val (.ref (own_ac di dl rt dq dj sa ((p1 &&& (2147483647 : Int32)) % (6 : Int32)))), .val .null, .val .null, .val (.int (1 : Int32))]) rfl ?_
                show Steps p.tables e below (T36.setTop (mkF m 70 #[.val (.int p1), .val (.int p2), .val (.int ((p1 &&& (2147483647 : Int32)) % (6 : Int32))), .val (.int (0 : Int32)), .val (.ref (own_ac di dl rt dq dj sa ((p1 &&& (2147483647 : Int32)) % (6 : Int32)))), .val .null, .val .null, .val (.int (1 : Int32))] [])) _
                refine XS.aload X36.here hx rfl (hb hby at_70) rfl rfl ?_
                show Steps p.tables e below (T36.setTop (mkF m 72 #[.val (.int p1), .val (.int p2), .val (.int ((p1 &&& (2147483647 : Int32)) % (6 : Int32))), .val (.int (0 : Int32)), .val (.ref (own_ac di dl rt dq dj sa ((p1 &&& (2147483647 : Int32)) % (6 : Int32)))), .val .null, .val .null, .val (.int (1 : Int32))] [.null])) _
                refine XS.aload X36.here hx rfl (hb hby at_72) rfl rfl ?_
                show Steps p.tables e below (T36.setTop (mkF m 74 #[.val (.int p1), .val (.int p2), .val (.int ((p1 &&& (2147483647 : Int32)) % (6 : Int32))), .val (.int (0 : Int32)), .val (.ref (own_ac di dl rt dq dj sa ((p1 &&& (2147483647 : Int32)) % (6 : Int32)))), .val .null, .val .null, .val (.int (1 : Int32))] [.null, .null])) _
                refine Jvm.RoadKit.acmp (g := (mkF m 74 #[.val (.int p1), .val (.int p2), .val (.int ((p1 &&& (2147483647 : Int32)) % (6 : Int32))), .val (.int (0 : Int32)), .val (.ref (own_ac di dl rt dq dj sa ((p1 &&& (2147483647 : Int32)) % (6 : Int32)))), .val .null, .val .null, .val (.int (1 : Int32))] [.null, .null])) X36 hx rfl rfl rfl (pc0 := 74) (pc' := 77) (same := true) rfl (hb hby at_74) rfl (decide_eq_true rfl) (by decide) (by decide) ?_
                show Steps p.tables e below (T36.setTop (mkF m 77 #[.val (.int p1), .val (.int p2), .val (.int ((p1 &&& (2147483647 : Int32)) % (6 : Int32))), .val (.int (0 : Int32)), .val (.ref (own_ac di dl rt dq dj sa ((p1 &&& (2147483647 : Int32)) % (6 : Int32)))), .val .null, .val .null, .val (.int (1 : Int32))] [])) _
                refine XS.iload X36.here hx rfl (hb hby at_77) rfl ?_
                show Steps p.tables e below (T36.setTop (mkF m 79 #[.val (.int p1), .val (.int p2), .val (.int ((p1 &&& (2147483647 : Int32)) % (6 : Int32))), .val (.int (0 : Int32)), .val (.ref (own_ac di dl rt dq dj sa ((p1 &&& (2147483647 : Int32)) % (6 : Int32)))), .val .null, .val .null, .val (.int (1 : Int32))] [(.int (1 : Int32))])) _
                refine XS.ifNo X36.here hx rfl (hb hby at_79) rfl ((if0 _ _).trans (feq (by decide)).1) ?_
                show Steps p.tables e below (T36.setTop (mkF m 82 #[.val (.int p1), .val (.int p2), .val (.int ((p1 &&& (2147483647 : Int32)) % (6 : Int32))), .val (.int (0 : Int32)), .val (.ref (own_ac di dl rt dq dj sa ((p1 &&& (2147483647 : Int32)) % (6 : Int32)))), .val .null, .val .null, .val (.int (1 : Int32))] [])) _
                refine XS.iconst X36.here hx rfl (hb hby at_82) ?_
                show Steps p.tables e below (T36.setTop (mkF m 83 #[.val (.int p1), .val (.int p2), .val (.int ((p1 &&& (2147483647 : Int32)) % (6 : Int32))), .val (.int (0 : Int32)), .val (.ref (own_ac di dl rt dq dj sa ((p1 &&& (2147483647 : Int32)) % (6 : Int32)))), .val .null, .val .null, .val (.int (1 : Int32))] [(.int (1 : Int32))])) _
                refine XS.goto X36.here hx rfl (pc0 := 83) (pc' := 87) rfl (hb hby at_83) (by decide) (by decide) ?_
                exact kt
              obtain ⟨fs, hr, hrun, hended, hW, hsame⟩ := X36.leave (v := some (.int (1 : Int32))) (fun h => by rw [Bd.returns] at h; cases h)
              exact ⟨_, _, retN X36 hx (t := .boolean) Bd.returns (by simp) (hb hby at_87) hr, hrun, hended, _, _, rfl, ⟨rfl, N36⟩, ⟨_, rfl⟩, hW, hsame.mono (by decide) (by decide)⟩
  · refine Ends.of (F' := s₁.setTop (mkF m 21 #[.val (.int p1), .val (.int p2), .val (.int ((p1 &&& (2147483647 : Int32)) % (6 : Int32))), .val (.int (1 : Int32)), .unset, .unset, .unset, .unset] [(.int ((p1 &&& (2147483647 : Int32)) % (6 : Int32)))])) (fun _ kt => ?_) ?_
    · show Steps p.tables e below (s₁.setTop (mkF m 11 #[.val (.int p1), .val (.int p2), .val (.int ((p1 &&& (2147483647 : Int32)) % (6 : Int32))), .unset, .unset, .unset, .unset, .unset] [(.int (p2 &&& (1 : Int32)))])) _
      refine XS.ifNo X0.here hx rfl (hb hby at_11) rfl ((if0 _ _).trans (feq hc11).1) ?_
      show Steps p.tables e below (s₁.setTop (mkF m 14 #[.val (.int p1), .val (.int p2), .val (.int ((p1 &&& (2147483647 : Int32)) % (6 : Int32))), .unset, .unset, .unset, .unset, .unset] [])) _
      refine XS.iconst X0.here hx rfl (hb hby at_14) ?_
      show Steps p.tables e below (s₁.setTop (mkF m 15 #[.val (.int p1), .val (.int p2), .val (.int ((p1 &&& (2147483647 : Int32)) % (6 : Int32))), .unset, .unset, .unset, .unset, .unset] [(.int (1 : Int32))])) _
      refine XS.goto X0.here hx rfl (pc0 := 15) (pc' := 19) rfl (hb hby at_15) (by decide) (by decide) ?_
      show Steps p.tables e below (s₁.setTop (mkF m 19 #[.val (.int p1), .val (.int p2), .val (.int ((p1 &&& (2147483647 : Int32)) % (6 : Int32))), .unset, .unset, .unset, .unset, .unset] [(.int (1 : Int32))])) _
      refine XS.istoreN X0.here hx rfl (hb hby at_19) rfl (l' := #[.val (.int p1), .val (.int p2), .val (.int ((p1 &&& (2147483647 : Int32)) % (6 : Int32))), .val (.int (1 : Int32)), .unset, .unset, .unset, .unset]) rfl ?_
      show Steps p.tables e below (s₁.setTop (mkF m 20 #[.val (.int p1), .val (.int p2), .val (.int ((p1 &&& (2147483647 : Int32)) % (6 : Int32))), .val (.int (1 : Int32)), .unset, .unset, .unset, .unset] [])) _
      refine XS.iloadN X0.here hx rfl (hb hby at_20) rfl ?_
      exact kt
    by_cases hk0 : ((p1 &&& (2147483647 : Int32)) % (6 : Int32)) = (0 : Int32)
    · obtain ⟨_, _, ⟨T37, L37, k37, n37⟩, -, X37, ⟨Lc37, hQ37, l37, y37, z37⟩, st37⟩ := Jvm.LawKit.callS X0 hx (y := (⟨"com/example/tardy_post/tardypost/UndeliverableActionUmaStatusPinLaw", "action", "(I)Lcom/example/tardy_post/tardypost/UndeliverableAction;"⟩ : MethodName)) hown (mvT hZ (hw _ (List.mem_of_getElem? (i := 1) rfl))) (mvT hZ (hw _ (List.mem_of_getElem? (i := 2) rfl))) (mvT hZ (hw _ (List.mem_of_getElem? (i := 3) rfl))) (mvT hZ (hw _ (List.mem_of_getElem? (i := 4) rfl))) (by decide) (backOf (W := 0) (rm1 l Z a0 hw [] ((p1 &&& (2147483647 : Int32)) % (6 : Int32)) di dl rt dq dj sa h0 n0 Z0 S_DISC S_DISCL S_RTS S_DLQ S_DLJ S_SAF) hZ (hw _ (List.mem_of_getElem? (i := 4) rfl)) (hw _ (List.mem_of_getElem? (i := 3) rfl)) (by decide) (by decide)) (g := (mkF m 21 #[.val (.int p1), .val (.int p2), .val (.int ((p1 &&& (2147483647 : Int32)) % (6 : Int32))), .val (.int (1 : Int32)), .unset, .unset, .unset, .unset] [(.int ((p1 &&& (2147483647 : Int32)) % (6 : Int32)))])) rfl (by rw [hml]; rfl) (argsL := [(.int ((p1 &&& (2147483647 : Int32)) % (6 : Int32)))]) (rest := []) (lenOf pd_0 rfl) rfl (by show 2 * 0 + _ ≤ _; exact Nat.le_of_eq rfl) (hb hby at_21) (fun _ _ => ⟨rfl, e0, (by decide : 0 + 0 ≤ _), (by decide : 0 + 0 ≤ _)⟩)
      dsimp only [Pt.U, Pt.locs, Pt.cells, Pt.slots] at X37 l37 y37 z37 st37 hQ37
      subst l37 y37 z37
      obtain ⟨rfl, N37q, e37⟩ := hQ37
      have N37 := Fr.app N0 N37q
      refine Ends.of st37 ?_
      refine Ends.of (F' := T37.setTop (mkF m 28 #[.val (.int p1), .val (.int p2), .val (.int ((p1 &&& (2147483647 : Int32)) % (6 : Int32))), .val (.int (1 : Int32)), .val (.ref (own_ac di dl rt dq dj sa ((p1 &&& (2147483647 : Int32)) % (6 : Int32)))), .unset, .unset, .unset] [(.int (1 : Int32)), (.int ((p1 &&& (2147483647 : Int32)) % (6 : Int32)))])) (fun _ kt => ?_) ?_
      · show Steps p.tables e below (T37.setTop (mkF m 24 #[.val (.int p1), .val (.int p2), .val (.int ((p1 &&& (2147483647 : Int32)) % (6 : Int32))), .val (.int (1 : Int32)), .unset, .unset, .unset, .unset] [(.ref (own_ac di dl rt dq dj sa ((p1 &&& (2147483647 : Int32)) % (6 : Int32))))])) _
        refine XS.astore X37.here hx rfl (hb hby at_24) rfl rfl (l' := #[.val (.int p1), .val (.int p2), .val (.int ((p1 &&& (2147483647 : Int32)) % (6 : Int32))), .val (.int (1 : Int32)), .val (.ref (own_ac di dl rt dq dj sa ((p1 &&& (2147483647 : Int32)) % (6 : Int32)))), .unset, .unset, .unset]) rfl ?_
        show Steps p.tables e below (T37.setTop (mkF m 26 #[.val (.int p1), .val (.int p2), .val (.int ((p1 &&& (2147483647 : Int32)) % (6 : Int32))), .val (.int (1 : Int32)), .val (.ref (own_ac di dl rt dq dj sa ((p1 &&& (2147483647 : Int32)) % (6 : Int32)))), .unset, .unset, .unset] [])) _
        refine XS.iloadN X37.here hx rfl (hb hby at_26) rfl ?_
        show Steps p.tables e below (T37.setTop (mkF m 27 #[.val (.int p1), .val (.int p2), .val (.int ((p1 &&& (2147483647 : Int32)) % (6 : Int32))), .val (.int (1 : Int32)), .val (.ref (own_ac di dl rt dq dj sa ((p1 &&& (2147483647 : Int32)) % (6 : Int32)))), .unset, .unset, .unset] [(.int ((p1 &&& (2147483647 : Int32)) % (6 : Int32)))])) _
        refine XS.iloadN X37.here hx rfl (hb hby at_27) rfl ?_
        exact kt
      obtain ⟨_, _, ⟨T38, L38, k38, n38⟩, -, X38, ⟨Lc38, hQ38, l38, y38, z38⟩, st38⟩ := Jvm.LawKit.callS X37 hx (y := (⟨"com/example/tardy_post/tardypost/UndeliverableActionUmaStatusPinLaw", "expected", "(IZ)Lcom/example/tardy_post/tardypost/UmaStatus;"⟩ : MethodName)) hown (mvT hZ (hw _ (List.mem_of_getElem? (i := 8) rfl))) (mvT hZ (hw _ (List.mem_of_getElem? (i := 9) rfl))) (mvT hZ (hw _ (List.mem_of_getElem? (i := 3) rfl))) (mvT hZ (hw _ (List.mem_of_getElem? (i := 10) rfl))) (by decide) (backOf (W := 0) (rm2 l Z a0 hw [] ((p1 &&& (2147483647 : Int32)) % (6 : Int32)) (1 : Int32) ds ls rs rf qs qf (.ref ds) h0 n0 Z0 S_DISC_SUCCESS S_DISCL_SUCCESS S_RTS_SUCCESS S_RTS_FAIL S_DLQ_SUCCESS S_DLQ_FAILED (by rw [own_ex, if_pos hk0, if_neg (show ¬ ((1 : Int32) = (0 : Int32)) by decide)])) hZ (hw _ (List.mem_of_getElem? (i := 10) rfl)) (hw _ (List.mem_of_getElem? (i := 3) rfl)) (by decide) (by decide)) (g := (mkF m 28 #[.val (.int p1), .val (.int p2), .val (.int ((p1 &&& (2147483647 : Int32)) % (6 : Int32))), .val (.int (1 : Int32)), .val (.ref (own_ac di dl rt dq dj sa ((p1 &&& (2147483647 : Int32)) % (6 : Int32)))), .unset, .unset, .unset] [(.int (1 : Int32)), (.int ((p1 &&& (2147483647 : Int32)) % (6 : Int32)))])) rfl (by rw [hml]; rfl) (argsL := [(.int ((p1 &&& (2147483647 : Int32)) % (6 : Int32))), (.int (1 : Int32))]) (rest := []) (lenOf pd_1 rfl) rfl (by show 2 * 0 + _ ≤ _; exact Nat.le_of_eq rfl) (hb hby at_28) (fun _ _ => ⟨rfl, e37, (by decide : 0 + 0 ≤ _), (by decide : 0 + 0 ≤ _)⟩)
      dsimp only [Pt.U, Pt.locs, Pt.cells, Pt.slots] at X38 l38 y38 z38 st38 hQ38
      subst l38 y38 z38
      obtain ⟨rfl, N38q, e38⟩ := hQ38
      have N38 := Fr.app N37 N38q
      refine Ends.of st38 ?_
      have hs : (own_ac di dl rt dq dj sa ((p1 &&& (2147483647 : Int32)) % (6 : Int32))) = di := by rw [own_ac, if_pos hk0]
      have Ex : Exa Z h0 (own_ac di dl rt dq dj sa ((p1 &&& (2147483647 : Int32)) % (6 : Int32))) "com/example/tardy_post/tardypost/UndeliverableAction" := by rw [hs]; exact E_DISC
      have Dx : Fld Z h0 (own_ac di dl rt dq dj sa ((p1 &&& (2147483647 : Int32)) % (6 : Int32))) "com/example/tardy_post/tardypost/UndeliverableAction" "done" "Lcom/example/tardy_post/tardypost/UmaStatus;" (.ref ds) := by rw [hs]; exact D_DISC
      have Gx : Fld Z h0 (own_ac di dl rt dq dj sa ((p1 &&& (2147483647 : Int32)) % (6 : Int32))) "com/example/tardy_post/tardypost/UndeliverableAction" "failed" "Lcom/example/tardy_post/tardypost/UmaStatus;" .null := by rw [hs]; exact G_DISC
      refine Ends.of (F' := T38.setTop (mkF m 36 #[.val (.int p1), .val (.int p2), .val (.int ((p1 &&& (2147483647 : Int32)) % (6 : Int32))), .val (.int (1 : Int32)), .val (.ref (own_ac di dl rt dq dj sa ((p1 &&& (2147483647 : Int32)) % (6 : Int32)))), .val (.ref ds), .unset, .unset] [(.int (1 : Int32)), (.ref (own_ac di dl rt dq dj sa ((p1 &&& (2147483647 : Int32)) % (6 : Int32))))])) (fun _ kt => ?_) ?_
      · show Steps p.tables e below (T38.setTop (mkF m 31 #[.val (.int p1), .val (.int p2), .val (.int ((p1 &&& (2147483647 : Int32)) % (6 : Int32))), .val (.int (1 : Int32)), .val (.ref (own_ac di dl rt dq dj sa ((p1 &&& (2147483647 : Int32)) % (6 : Int32)))), .unset, .unset, .unset] [(.ref ds)])) _
        refine XS.astore X38.here hx rfl (hb hby at_31) rfl rfl (l' := #[.val (.int p1), .val (.int p2), .val (.int ((p1 &&& (2147483647 : Int32)) % (6 : Int32))), .val (.int (1 : Int32)), .val (.ref (own_ac di dl rt dq dj sa ((p1 &&& (2147483647 : Int32)) % (6 : Int32)))), .val (.ref ds), .unset, .unset]) rfl ?_
        show Steps p.tables e below (T38.setTop (mkF m 33 #[.val (.int p1), .val (.int p2), .val (.int ((p1 &&& (2147483647 : Int32)) % (6 : Int32))), .val (.int (1 : Int32)), .val (.ref (own_ac di dl rt dq dj sa ((p1 &&& (2147483647 : Int32)) % (6 : Int32)))), .val (.ref ds), .unset, .unset] [])) _
        refine XS.aload X38.here hx rfl (hb hby at_33) rfl rfl ?_
        show Steps p.tables e below (T38.setTop (mkF m 35 #[.val (.int p1), .val (.int p2), .val (.int ((p1 &&& (2147483647 : Int32)) % (6 : Int32))), .val (.int (1 : Int32)), .val (.ref (own_ac di dl rt dq dj sa ((p1 &&& (2147483647 : Int32)) % (6 : Int32)))), .val (.ref ds), .unset, .unset] [(.ref (own_ac di dl rt dq dj sa ((p1 &&& (2147483647 : Int32)) % (6 : Int32))))])) _
        refine XS.iloadN X38.here hx rfl (hb hby at_35) rfl ?_
        exact kt
      obtain ⟨cq39, kq39, q39a, q39b, q39c⟩ := isOf hZ e38 Ex
      obtain ⟨_, _, ⟨T39, L39, k39, n39⟩, -, X39, ⟨Lc39, hQ39, l39, y39, z39⟩, st39⟩ := X38.virtualBack hx (y := (⟨"com/example/tardy_post/tardypost/UndeliverableAction", "umaStatus", "(Z)Lcom/example/tardy_post/tardypost/UmaStatus;"⟩ : MethodName)) (z := (⟨"com/example/tardy_post/tardypost/UndeliverableAction", "umaStatus", "(Z)Lcom/example/tardy_post/tardypost/UmaStatus;"⟩ : MethodName)) hown (mvT hZ (hw _ (List.mem_of_getElem? (i := 14) rfl))) (mvT hZ (hw _ (List.mem_of_getElem? (i := 15) rfl))) (notFace_of_selects (args := #[]) (mvT hZ (hw _ (List.mem_of_getElem? (i := 17) rfl)))) (mvT hZ (hw _ (List.mem_of_getElem? (i := 17) rfl))) (mvT hZ (hw _ (List.mem_of_getElem? (i := 16) rfl))) (by decide) (backOf (W := 0) (uma_10 l Z a0 hw [] (own_ac di dl rt dq dj sa ((p1 &&& (2147483647 : Int32)) % (6 : Int32))) ds h0 n0 Z0 Dx) hZ (hw _ (List.mem_of_getElem? (i := 18) rfl)) (hw _ (List.mem_of_getElem? (i := 6) rfl)) (by decide) (by decide)) q39a q39c (g := (mkF m 36 #[.val (.int p1), .val (.int p2), .val (.int ((p1 &&& (2147483647 : Int32)) % (6 : Int32))), .val (.int (1 : Int32)), .val (.ref (own_ac di dl rt dq dj sa ((p1 &&& (2147483647 : Int32)) % (6 : Int32)))), .val (.ref ds), .unset, .unset] [(.int (1 : Int32)), (.ref (own_ac di dl rt dq dj sa ((p1 &&& (2147483647 : Int32)) % (6 : Int32))))])) rfl (by rw [hml]; rfl) (Steps.refl _) (argsL := [(.int (1 : Int32))]) (rest := []) (lenOf pd_2 rfl) rfl (by show 2 * 0 + _ ≤ _; exact Nat.le_of_eq rfl) (hb hby at_36) (fun _ _ => ⟨rfl, e38, (by decide : 0 + 0 ≤ _), (by decide : 0 + 0 ≤ _)⟩)
      dsimp only [Pt.U, Pt.locs, Pt.cells, Pt.slots] at X39 l39 y39 z39 st39 hQ39
      subst l39 y39 z39
      obtain ⟨rfl, N39q, e39⟩ := hQ39
      have N39 := Fr.app N38 N39q
      refine Ends.st st39 ?_
      refine Ends.of (F' := T39.setTop (mkF m 57 #[.val (.int p1), .val (.int p2), .val (.int ((p1 &&& (2147483647 : Int32)) % (6 : Int32))), .val (.int (1 : Int32)), .val (.ref (own_ac di dl rt dq dj sa ((p1 &&& (2147483647 : Int32)) % (6 : Int32)))), .val (.ref ds), .val (.ref ds), .unset] [(.ref (own_ac di dl rt dq dj sa ((p1 &&& (2147483647 : Int32)) % (6 : Int32)))), (.int (1 : Int32))])) (fun _ kt => ?_) ?_
      · show Steps p.tables e below (T39.setTop (mkF m 39 #[.val (.int p1), .val (.int p2), .val (.int ((p1 &&& (2147483647 : Int32)) % (6 : Int32))), .val (.int (1 : Int32)), .val (.ref (own_ac di dl rt dq dj sa ((p1 &&& (2147483647 : Int32)) % (6 : Int32)))), .val (.ref ds), .unset, .unset] [(.ref ds)])) _
        refine XS.astore X39.here hx rfl (hb hby at_39) rfl rfl (l' := #[.val (.int p1), .val (.int p2), .val (.int ((p1 &&& (2147483647 : Int32)) % (6 : Int32))), .val (.int (1 : Int32)), .val (.ref (own_ac di dl rt dq dj sa ((p1 &&& (2147483647 : Int32)) % (6 : Int32)))), .val (.ref ds), .val (.ref ds), .unset]) rfl ?_
        show Steps p.tables e below (T39.setTop (mkF m 41 #[.val (.int p1), .val (.int p2), .val (.int ((p1 &&& (2147483647 : Int32)) % (6 : Int32))), .val (.int (1 : Int32)), .val (.ref (own_ac di dl rt dq dj sa ((p1 &&& (2147483647 : Int32)) % (6 : Int32)))), .val (.ref ds), .val (.ref ds), .unset] [])) _
        refine XS.iloadN X39.here hx rfl (hb hby at_41) rfl ?_
        show Steps p.tables e below (T39.setTop (mkF m 42 #[.val (.int p1), .val (.int p2), .val (.int ((p1 &&& (2147483647 : Int32)) % (6 : Int32))), .val (.int (1 : Int32)), .val (.ref (own_ac di dl rt dq dj sa ((p1 &&& (2147483647 : Int32)) % (6 : Int32)))), .val (.ref ds), .val (.ref ds), .unset] [(.int (1 : Int32))])) _
        refine XS.ifNo X39.here hx rfl (hb hby at_42) rfl ((if0 _ _).trans (feq (by decide)).1) ?_
        show Steps p.tables e below (T39.setTop (mkF m 45 #[.val (.int p1), .val (.int p2), .val (.int ((p1 &&& (2147483647 : Int32)) % (6 : Int32))), .val (.int (1 : Int32)), .val (.ref (own_ac di dl rt dq dj sa ((p1 &&& (2147483647 : Int32)) % (6 : Int32)))), .val (.ref ds), .val (.ref ds), .unset] [])) _
        refine XS.aload X39.here hx rfl (hb hby at_45) rfl rfl ?_
        show Steps p.tables e below (T39.setTop (mkF m 47 #[.val (.int p1), .val (.int p2), .val (.int ((p1 &&& (2147483647 : Int32)) % (6 : Int32))), .val (.int (1 : Int32)), .val (.ref (own_ac di dl rt dq dj sa ((p1 &&& (2147483647 : Int32)) % (6 : Int32)))), .val (.ref ds), .val (.ref ds), .unset] [(.ref ds)])) _
        refine XS.ifnullNo X39.here hx rfl (hb hby at_47) rfl ?_
        show Steps p.tables e below (T39.setTop (mkF m 50 #[.val (.int p1), .val (.int p2), .val (.int ((p1 &&& (2147483647 : Int32)) % (6 : Int32))), .val (.int (1 : Int32)), .val (.ref (own_ac di dl rt dq dj sa ((p1 &&& (2147483647 : Int32)) % (6 : Int32)))), .val (.ref ds), .val (.ref ds), .unset] [])) _
        refine XS.iconst X39.here hx rfl (hb hby at_50) ?_
        show Steps p.tables e below (T39.setTop (mkF m 51 #[.val (.int p1), .val (.int p2), .val (.int ((p1 &&& (2147483647 : Int32)) % (6 : Int32))), .val (.int (1 : Int32)), .val (.ref (own_ac di dl rt dq dj sa ((p1 &&& (2147483647 : Int32)) % (6 : Int32)))), .val (.ref ds), .val (.ref ds), .unset] [(.int (1 : Int32))])) _
        refine XS.goto X39.here hx rfl (pc0 := 51) (pc' := 55) rfl (hb hby at_51) (by decide) (by decide) ?_
        show Steps p.tables e below (T39.setTop (mkF m 55 #[.val (.int p1), .val (.int p2), .val (.int ((p1 &&& (2147483647 : Int32)) % (6 : Int32))), .val (.int (1 : Int32)), .val (.ref (own_ac di dl rt dq dj sa ((p1 &&& (2147483647 : Int32)) % (6 : Int32)))), .val (.ref ds), .val (.ref ds), .unset] [(.int (1 : Int32))])) _
        refine XS.aload X39.here hx rfl (hb hby at_55) rfl rfl ?_
        exact kt
      obtain ⟨cq40, kq40, q40a, q40b, q40c⟩ := isOf hZ e39 Ex
      obtain ⟨_, _, ⟨T40, L40, k40, n40⟩, -, X40, ⟨Lc40, hQ40, l40, y40, z40⟩, st40⟩ := X39.virtualBack hx (y := (⟨"com/example/tardy_post/tardypost/UndeliverableAction", "isOffered", "()Z"⟩ : MethodName)) (z := (⟨"com/example/tardy_post/tardypost/UndeliverableAction", "isOffered", "()Z"⟩ : MethodName)) hown (mvT hZ (hw _ (List.mem_of_getElem? (i := 21) rfl))) (mvT hZ (hw _ (List.mem_of_getElem? (i := 22) rfl))) (notFace_of_selects (args := #[]) (mvT hZ (hw _ (List.mem_of_getElem? (i := 24) rfl)))) (mvT hZ (hw _ (List.mem_of_getElem? (i := 24) rfl))) (mvT hZ (hw _ (List.mem_of_getElem? (i := 23) rfl))) (by decide) (backOf (W := 1) (off_0 l Z a0 hw [] (own_ac di dl rt dq dj sa ((p1 &&& (2147483647 : Int32)) % (6 : Int32))) ds h0 n0 Z0 Dx) hZ (hw _ (List.mem_of_getElem? (i := 25) rfl)) (hw _ (List.mem_of_getElem? (i := 6) rfl)) (by decide) (by decide)) q40a q40c (g := (mkF m 57 #[.val (.int p1), .val (.int p2), .val (.int ((p1 &&& (2147483647 : Int32)) % (6 : Int32))), .val (.int (1 : Int32)), .val (.ref (own_ac di dl rt dq dj sa ((p1 &&& (2147483647 : Int32)) % (6 : Int32)))), .val (.ref ds), .val (.ref ds), .unset] [(.ref (own_ac di dl rt dq dj sa ((p1 &&& (2147483647 : Int32)) % (6 : Int32)))), (.int (1 : Int32))])) rfl (by rw [hml]; rfl) (Steps.refl _) (argsL := []) (rest := [(.int (1 : Int32))]) (lenOf pd_3 rfl) rfl (by show 2 * 0 + _ ≤ _; exact Nat.le_of_eq rfl) (hb hby at_57) (fun _ _ => ⟨rfl, e39, (by decide : 0 + 0 ≤ _), (by decide : 0 + 0 ≤ _)⟩)
      dsimp only [Pt.U, Pt.locs, Pt.cells, Pt.slots] at X40 l40 y40 z40 st40 hQ40
      subst l40 y40 z40
      obtain ⟨rfl, N40q, e40⟩ := hQ40
      have N40 := Fr.app N39 N40q
      refine Ends.st st40 ?_
      refine Ends.of (F' := T40.setTop (mkF m 87 #[.val (.int p1), .val (.int p2), .val (.int ((p1 &&& (2147483647 : Int32)) % (6 : Int32))), .val (.int (1 : Int32)), .val (.ref (own_ac di dl rt dq dj sa ((p1 &&& (2147483647 : Int32)) % (6 : Int32)))), .val (.ref ds), .val (.ref ds), .val (.int (1 : Int32))] [(.int (1 : Int32))])) (fun _ kt => ?_) ?_
      · show Steps p.tables e below (T40.setTop (mkF m 60 #[.val (.int p1), .val (.int p2), .val (.int ((p1 &&& (2147483647 : Int32)) % (6 : Int32))), .val (.int (1 : Int32)), .val (.ref (own_ac di dl rt dq dj sa ((p1 &&& (2147483647 : Int32)) % (6 : Int32)))), .val (.ref ds), .val (.ref ds), .unset] [(.int (1 : Int32)), (.int (1 : Int32))])) _
        refine XS.icmpNo X40.here hx rfl (hb hby at_60) rfl (teq rfl).2 ?_
        show Steps p.tables e below (T40.setTop (mkF m 63 #[.val (.int p1), .val (.int p2), .val (.int ((p1 &&& (2147483647 : Int32)) % (6 : Int32))), .val (.int (1 : Int32)), .val (.ref (own_ac di dl rt dq dj sa ((p1 &&& (2147483647 : Int32)) % (6 : Int32)))), .val (.ref ds), .val (.ref ds), .unset] [])) _
        refine XS.iconst X40.here hx rfl (hb hby at_63) ?_
        show Steps p.tables e below (T40.setTop (mkF m 64 #[.val (.int p1), .val (.int p2), .val (.int ((p1 &&& (2147483647 : Int32)) % (6 : Int32))), .val (.int (1 : Int32)), .val (.ref (own_ac di dl rt dq dj sa ((p1 &&& (2147483647 : Int32)) % (6 : Int32)))), .val (.ref ds), .val (.ref ds), .unset] [(.int (1 : Int32))])) _
        refine XS.goto X40.here hx rfl (pc0 := 64) (pc' := 68) rfl (hb hby at_64) (by decide) (by decide) ?_
        show Steps p.tables e below (T40.setTop (mkF m 68 #[.val (.int p1), .val (.int p2), .val (.int ((p1 &&& (2147483647 : Int32)) % (6 : Int32))), .val (.int (1 : Int32)), .val (.ref (own_ac di dl rt dq dj sa ((p1 &&& (2147483647 : Int32)) % (6 : Int32)))), .val (.ref ds), .val (.ref ds), .unset] [(.int (1 : Int32))])) _
        refine XS.istore X40.here hx rfl (hb hby at_68) rfl (l' := #[.val (.int p1), .val (.int p2), .val (.int ((p1 &&& (2147483647 : Int32)) % (6 : Int32))), .val (.int (1 : Int32)), .val (.ref (own_ac di dl rt dq dj sa ((p1 &&& (2147483647 : Int32)) % (6 : Int32)))), .val (.ref ds), .val (.ref ds), .val (.int (1 : Int32))]) rfl ?_
        show Steps p.tables e below (T40.setTop (mkF m 70 #[.val (.int p1), .val (.int p2), .val (.int ((p1 &&& (2147483647 : Int32)) % (6 : Int32))), .val (.int (1 : Int32)), .val (.ref (own_ac di dl rt dq dj sa ((p1 &&& (2147483647 : Int32)) % (6 : Int32)))), .val (.ref ds), .val (.ref ds), .val (.int (1 : Int32))] [])) _
        refine XS.aload X40.here hx rfl (hb hby at_70) rfl rfl ?_
        show Steps p.tables e below (T40.setTop (mkF m 72 #[.val (.int p1), .val (.int p2), .val (.int ((p1 &&& (2147483647 : Int32)) % (6 : Int32))), .val (.int (1 : Int32)), .val (.ref (own_ac di dl rt dq dj sa ((p1 &&& (2147483647 : Int32)) % (6 : Int32)))), .val (.ref ds), .val (.ref ds), .val (.int (1 : Int32))] [(.ref ds)])) _
        refine XS.aload X40.here hx rfl (hb hby at_72) rfl rfl ?_
        show Steps p.tables e below (T40.setTop (mkF m 74 #[.val (.int p1), .val (.int p2), .val (.int ((p1 &&& (2147483647 : Int32)) % (6 : Int32))), .val (.int (1 : Int32)), .val (.ref (own_ac di dl rt dq dj sa ((p1 &&& (2147483647 : Int32)) % (6 : Int32)))), .val (.ref ds), .val (.ref ds), .val (.int (1 : Int32))] [(.ref ds), (.ref ds)])) _
        refine Jvm.RoadKit.acmp (g := (mkF m 74 #[.val (.int p1), .val (.int p2), .val (.int ((p1 &&& (2147483647 : Int32)) % (6 : Int32))), .val (.int (1 : Int32)), .val (.ref (own_ac di dl rt dq dj sa ((p1 &&& (2147483647 : Int32)) % (6 : Int32)))), .val (.ref ds), .val (.ref ds), .val (.int (1 : Int32))] [(.ref ds), (.ref ds)])) X40 hx rfl rfl rfl (pc0 := 74) (pc' := 77) (same := true) rfl (hb hby at_74) rfl (decide_eq_true (congrArg Value.ref rfl)) (by decide) (by decide) ?_
        show Steps p.tables e below (T40.setTop (mkF m 77 #[.val (.int p1), .val (.int p2), .val (.int ((p1 &&& (2147483647 : Int32)) % (6 : Int32))), .val (.int (1 : Int32)), .val (.ref (own_ac di dl rt dq dj sa ((p1 &&& (2147483647 : Int32)) % (6 : Int32)))), .val (.ref ds), .val (.ref ds), .val (.int (1 : Int32))] [])) _
        refine XS.iload X40.here hx rfl (hb hby at_77) rfl ?_
        show Steps p.tables e below (T40.setTop (mkF m 79 #[.val (.int p1), .val (.int p2), .val (.int ((p1 &&& (2147483647 : Int32)) % (6 : Int32))), .val (.int (1 : Int32)), .val (.ref (own_ac di dl rt dq dj sa ((p1 &&& (2147483647 : Int32)) % (6 : Int32)))), .val (.ref ds), .val (.ref ds), .val (.int (1 : Int32))] [(.int (1 : Int32))])) _
        refine XS.ifNo X40.here hx rfl (hb hby at_79) rfl ((if0 _ _).trans (feq (by decide)).1) ?_
        show Steps p.tables e below (T40.setTop (mkF m 82 #[.val (.int p1), .val (.int p2), .val (.int ((p1 &&& (2147483647 : Int32)) % (6 : Int32))), .val (.int (1 : Int32)), .val (.ref (own_ac di dl rt dq dj sa ((p1 &&& (2147483647 : Int32)) % (6 : Int32)))), .val (.ref ds), .val (.ref ds), .val (.int (1 : Int32))] [])) _
        refine XS.iconst X40.here hx rfl (hb hby at_82) ?_
        show Steps p.tables e below (T40.setTop (mkF m 83 #[.val (.int p1), .val (.int p2), .val (.int ((p1 &&& (2147483647 : Int32)) % (6 : Int32))), .val (.int (1 : Int32)), .val (.ref (own_ac di dl rt dq dj sa ((p1 &&& (2147483647 : Int32)) % (6 : Int32)))), .val (.ref ds), .val (.ref ds), .val (.int (1 : Int32))] [(.int (1 : Int32))])) _
        refine XS.goto X40.here hx rfl (pc0 := 83) (pc' := 87) rfl (hb hby at_83) (by decide) (by decide) ?_
        exact kt
      obtain ⟨fs, hr, hrun, hended, hW, hsame⟩ := X40.leave (v := some (.int (1 : Int32))) (fun h => by rw [Bd.returns] at h; cases h)
      exact ⟨_, _, retN X40 hx (t := .boolean) Bd.returns (by simp) (hb hby at_87) hr, hrun, hended, _, _, rfl, ⟨rfl, N40⟩, ⟨_, rfl⟩, hW, hsame.mono (by decide) (by decide)⟩
    · by_cases hk1 : ((p1 &&& (2147483647 : Int32)) % (6 : Int32)) = (1 : Int32)
      · obtain ⟨_, _, ⟨T41, L41, k41, n41⟩, -, X41, ⟨Lc41, hQ41, l41, y41, z41⟩, st41⟩ := Jvm.LawKit.callS X0 hx (y := (⟨"com/example/tardy_post/tardypost/UndeliverableActionUmaStatusPinLaw", "action", "(I)Lcom/example/tardy_post/tardypost/UndeliverableAction;"⟩ : MethodName)) hown (mvT hZ (hw _ (List.mem_of_getElem? (i := 1) rfl))) (mvT hZ (hw _ (List.mem_of_getElem? (i := 2) rfl))) (mvT hZ (hw _ (List.mem_of_getElem? (i := 3) rfl))) (mvT hZ (hw _ (List.mem_of_getElem? (i := 4) rfl))) (by decide) (backOf (W := 0) (rm1 l Z a0 hw [] ((p1 &&& (2147483647 : Int32)) % (6 : Int32)) di dl rt dq dj sa h0 n0 Z0 S_DISC S_DISCL S_RTS S_DLQ S_DLJ S_SAF) hZ (hw _ (List.mem_of_getElem? (i := 4) rfl)) (hw _ (List.mem_of_getElem? (i := 3) rfl)) (by decide) (by decide)) (g := (mkF m 21 #[.val (.int p1), .val (.int p2), .val (.int ((p1 &&& (2147483647 : Int32)) % (6 : Int32))), .val (.int (1 : Int32)), .unset, .unset, .unset, .unset] [(.int ((p1 &&& (2147483647 : Int32)) % (6 : Int32)))])) rfl (by rw [hml]; rfl) (argsL := [(.int ((p1 &&& (2147483647 : Int32)) % (6 : Int32)))]) (rest := []) (lenOf pd_0 rfl) rfl (by show 2 * 0 + _ ≤ _; exact Nat.le_of_eq rfl) (hb hby at_21) (fun _ _ => ⟨rfl, e0, (by decide : 0 + 0 ≤ _), (by decide : 0 + 0 ≤ _)⟩)
        dsimp only [Pt.U, Pt.locs, Pt.cells, Pt.slots] at X41 l41 y41 z41 st41 hQ41
        subst l41 y41 z41
        obtain ⟨rfl, N41q, e41⟩ := hQ41
        have N41 := Fr.app N0 N41q
        refine Ends.of st41 ?_
        refine Ends.of (F' := T41.setTop (mkF m 28 #[.val (.int p1), .val (.int p2), .val (.int ((p1 &&& (2147483647 : Int32)) % (6 : Int32))), .val (.int (1 : Int32)), .val (.ref (own_ac di dl rt dq dj sa ((p1 &&& (2147483647 : Int32)) % (6 : Int32)))), .unset, .unset, .unset] [(.int (1 : Int32)), (.int ((p1 &&& (2147483647 : Int32)) % (6 : Int32)))])) (fun _ kt => ?_) ?_
        · show Steps p.tables e below (T41.setTop (mkF m 24 #[.val (.int p1), .val (.int p2), .val (.int ((p1 &&& (2147483647 : Int32)) % (6 : Int32))), .val (.int (1 : Int32)), .unset, .unset, .unset, .unset] [(.ref (own_ac di dl rt dq dj sa ((p1 &&& (2147483647 : Int32)) % (6 : Int32))))])) _
          refine XS.astore X41.here hx rfl (hb hby at_24) rfl rfl (l' := #[.val (.int p1), .val (.int p2), .val (.int ((p1 &&& (2147483647 : Int32)) % (6 : Int32))), .val (.int (1 : Int32)), .val (.ref (own_ac di dl rt dq dj sa ((p1 &&& (2147483647 : Int32)) % (6 : Int32)))), .unset, .unset, .unset]) rfl ?_
          show Steps p.tables e below (T41.setTop (mkF m 26 #[.val (.int p1), .val (.int p2), .val (.int ((p1 &&& (2147483647 : Int32)) % (6 : Int32))), .val (.int (1 : Int32)), .val (.ref (own_ac di dl rt dq dj sa ((p1 &&& (2147483647 : Int32)) % (6 : Int32)))), .unset, .unset, .unset] [])) _
          refine XS.iloadN X41.here hx rfl (hb hby at_26) rfl ?_
          show Steps p.tables e below (T41.setTop (mkF m 27 #[.val (.int p1), .val (.int p2), .val (.int ((p1 &&& (2147483647 : Int32)) % (6 : Int32))), .val (.int (1 : Int32)), .val (.ref (own_ac di dl rt dq dj sa ((p1 &&& (2147483647 : Int32)) % (6 : Int32)))), .unset, .unset, .unset] [(.int ((p1 &&& (2147483647 : Int32)) % (6 : Int32)))])) _
          refine XS.iloadN X41.here hx rfl (hb hby at_27) rfl ?_
          exact kt
        obtain ⟨_, _, ⟨T42, L42, k42, n42⟩, -, X42, ⟨Lc42, hQ42, l42, y42, z42⟩, st42⟩ := Jvm.LawKit.callS X41 hx (y := (⟨"com/example/tardy_post/tardypost/UndeliverableActionUmaStatusPinLaw", "expected", "(IZ)Lcom/example/tardy_post/tardypost/UmaStatus;"⟩ : MethodName)) hown (mvT hZ (hw _ (List.mem_of_getElem? (i := 8) rfl))) (mvT hZ (hw _ (List.mem_of_getElem? (i := 9) rfl))) (mvT hZ (hw _ (List.mem_of_getElem? (i := 3) rfl))) (mvT hZ (hw _ (List.mem_of_getElem? (i := 10) rfl))) (by decide) (backOf (W := 0) (rm2 l Z a0 hw [] ((p1 &&& (2147483647 : Int32)) % (6 : Int32)) (1 : Int32) ds ls rs rf qs qf (.ref ls) h0 n0 Z0 S_DISC_SUCCESS S_DISCL_SUCCESS S_RTS_SUCCESS S_RTS_FAIL S_DLQ_SUCCESS S_DLQ_FAILED (by rw [own_ex, if_neg hk0, if_pos hk1, if_neg (show ¬ ((1 : Int32) = (0 : Int32)) by decide)])) hZ (hw _ (List.mem_of_getElem? (i := 10) rfl)) (hw _ (List.mem_of_getElem? (i := 3) rfl)) (by decide) (by decide)) (g := (mkF m 28 #[.val (.int p1), .val (.int p2), .val (.int ((p1 &&& (2147483647 : Int32)) % (6 : Int32))), .val (.int (1 : Int32)), .val (.ref (own_ac di dl rt dq dj sa ((p1 &&& (2147483647 : Int32)) % (6 : Int32)))), .unset, .unset, .unset] [(.int (1 : Int32)), (.int ((p1 &&& (2147483647 : Int32)) % (6 : Int32)))])) rfl (by rw [hml]; rfl) (argsL := [(.int ((p1 &&& (2147483647 : Int32)) % (6 : Int32))), (.int (1 : Int32))]) (rest := []) (lenOf pd_1 rfl) rfl (by show 2 * 0 + _ ≤ _; exact Nat.le_of_eq rfl) (hb hby at_28) (fun _ _ => ⟨rfl, e41, (by decide : 0 + 0 ≤ _), (by decide : 0 + 0 ≤ _)⟩)
        dsimp only [Pt.U, Pt.locs, Pt.cells, Pt.slots] at X42 l42 y42 z42 st42 hQ42
        subst l42 y42 z42
        obtain ⟨rfl, N42q, e42⟩ := hQ42
        have N42 := Fr.app N41 N42q
        refine Ends.of st42 ?_
        have hs : (own_ac di dl rt dq dj sa ((p1 &&& (2147483647 : Int32)) % (6 : Int32))) = dl := by rw [own_ac, if_neg hk0, if_pos hk1]
        have Ex : Exa Z h0 (own_ac di dl rt dq dj sa ((p1 &&& (2147483647 : Int32)) % (6 : Int32))) "com/example/tardy_post/tardypost/UndeliverableAction" := by rw [hs]; exact E_DISCL
        have Dx : Fld Z h0 (own_ac di dl rt dq dj sa ((p1 &&& (2147483647 : Int32)) % (6 : Int32))) "com/example/tardy_post/tardypost/UndeliverableAction" "done" "Lcom/example/tardy_post/tardypost/UmaStatus;" (.ref ls) := by rw [hs]; exact D_DISCL
        have Gx : Fld Z h0 (own_ac di dl rt dq dj sa ((p1 &&& (2147483647 : Int32)) % (6 : Int32))) "com/example/tardy_post/tardypost/UndeliverableAction" "failed" "Lcom/example/tardy_post/tardypost/UmaStatus;" .null := by rw [hs]; exact G_DISCL
        refine Ends.of (F' := T42.setTop (mkF m 36 #[.val (.int p1), .val (.int p2), .val (.int ((p1 &&& (2147483647 : Int32)) % (6 : Int32))), .val (.int (1 : Int32)), .val (.ref (own_ac di dl rt dq dj sa ((p1 &&& (2147483647 : Int32)) % (6 : Int32)))), .val (.ref ls), .unset, .unset] [(.int (1 : Int32)), (.ref (own_ac di dl rt dq dj sa ((p1 &&& (2147483647 : Int32)) % (6 : Int32))))])) (fun _ kt => ?_) ?_
        · show Steps p.tables e below (T42.setTop (mkF m 31 #[.val (.int p1), .val (.int p2), .val (.int ((p1 &&& (2147483647 : Int32)) % (6 : Int32))), .val (.int (1 : Int32)), .val (.ref (own_ac di dl rt dq dj sa ((p1 &&& (2147483647 : Int32)) % (6 : Int32)))), .unset, .unset, .unset] [(.ref ls)])) _
          refine XS.astore X42.here hx rfl (hb hby at_31) rfl rfl (l' := #[.val (.int p1), .val (.int p2), .val (.int ((p1 &&& (2147483647 : Int32)) % (6 : Int32))), .val (.int (1 : Int32)), .val (.ref (own_ac di dl rt dq dj sa ((p1 &&& (2147483647 : Int32)) % (6 : Int32)))), .val (.ref ls), .unset, .unset]) rfl ?_
          show Steps p.tables e below (T42.setTop (mkF m 33 #[.val (.int p1), .val (.int p2), .val (.int ((p1 &&& (2147483647 : Int32)) % (6 : Int32))), .val (.int (1 : Int32)), .val (.ref (own_ac di dl rt dq dj sa ((p1 &&& (2147483647 : Int32)) % (6 : Int32)))), .val (.ref ls), .unset, .unset] [])) _
          refine XS.aload X42.here hx rfl (hb hby at_33) rfl rfl ?_
          show Steps p.tables e below (T42.setTop (mkF m 35 #[.val (.int p1), .val (.int p2), .val (.int ((p1 &&& (2147483647 : Int32)) % (6 : Int32))), .val (.int (1 : Int32)), .val (.ref (own_ac di dl rt dq dj sa ((p1 &&& (2147483647 : Int32)) % (6 : Int32)))), .val (.ref ls), .unset, .unset] [(.ref (own_ac di dl rt dq dj sa ((p1 &&& (2147483647 : Int32)) % (6 : Int32))))])) _
          refine XS.iloadN X42.here hx rfl (hb hby at_35) rfl ?_
          exact kt
        obtain ⟨cq43, kq43, q43a, q43b, q43c⟩ := isOf hZ e42 Ex
        obtain ⟨_, _, ⟨T43, L43, k43, n43⟩, -, X43, ⟨Lc43, hQ43, l43, y43, z43⟩, st43⟩ := X42.virtualBack hx (y := (⟨"com/example/tardy_post/tardypost/UndeliverableAction", "umaStatus", "(Z)Lcom/example/tardy_post/tardypost/UmaStatus;"⟩ : MethodName)) (z := (⟨"com/example/tardy_post/tardypost/UndeliverableAction", "umaStatus", "(Z)Lcom/example/tardy_post/tardypost/UmaStatus;"⟩ : MethodName)) hown (mvT hZ (hw _ (List.mem_of_getElem? (i := 14) rfl))) (mvT hZ (hw _ (List.mem_of_getElem? (i := 15) rfl))) (notFace_of_selects (args := #[]) (mvT hZ (hw _ (List.mem_of_getElem? (i := 17) rfl)))) (mvT hZ (hw _ (List.mem_of_getElem? (i := 17) rfl))) (mvT hZ (hw _ (List.mem_of_getElem? (i := 16) rfl))) (by decide) (backOf (W := 0) (uma_10 l Z a0 hw [] (own_ac di dl rt dq dj sa ((p1 &&& (2147483647 : Int32)) % (6 : Int32))) ls h0 n0 Z0 Dx) hZ (hw _ (List.mem_of_getElem? (i := 18) rfl)) (hw _ (List.mem_of_getElem? (i := 6) rfl)) (by decide) (by decide)) q43a q43c (g := (mkF m 36 #[.val (.int p1), .val (.int p2), .val (.int ((p1 &&& (2147483647 : Int32)) % (6 : Int32))), .val (.int (1 : Int32)), .val (.ref (own_ac di dl rt dq dj sa ((p1 &&& (2147483647 : Int32)) % (6 : Int32)))), .val (.ref ls), .unset, .unset] [(.int (1 : Int32)), (.ref (own_ac di dl rt dq dj sa ((p1 &&& (2147483647 : Int32)) % (6 : Int32))))])) rfl (by rw [hml]; rfl) (Steps.refl _) (argsL := [(.int (1 : Int32))]) (rest := []) (lenOf pd_2 rfl) rfl (by show 2 * 0 + _ ≤ _; exact Nat.le_of_eq rfl) (hb hby at_36) (fun _ _ => ⟨rfl, e42, (by decide : 0 + 0 ≤ _), (by decide : 0 + 0 ≤ _)⟩)
        dsimp only [Pt.U, Pt.locs, Pt.cells, Pt.slots] at X43 l43 y43 z43 st43 hQ43
        subst l43 y43 z43
        obtain ⟨rfl, N43q, e43⟩ := hQ43
        have N43 := Fr.app N42 N43q
        refine Ends.st st43 ?_
        refine Ends.of (F' := T43.setTop (mkF m 57 #[.val (.int p1), .val (.int p2), .val (.int ((p1 &&& (2147483647 : Int32)) % (6 : Int32))), .val (.int (1 : Int32)), .val (.ref (own_ac di dl rt dq dj sa ((p1 &&& (2147483647 : Int32)) % (6 : Int32)))), .val (.ref ls), .val (.ref ls), .unset] [(.ref (own_ac di dl rt dq dj sa ((p1 &&& (2147483647 : Int32)) % (6 : Int32)))), (.int (1 : Int32))])) (fun _ kt => ?_) ?_
        · show Steps p.tables e below (T43.setTop (mkF m 39 #[.val (.int p1), .val (.int p2), .val (.int ((p1 &&& (2147483647 : Int32)) % (6 : Int32))), .val (.int (1 : Int32)), .val (.ref (own_ac di dl rt dq dj sa ((p1 &&& (2147483647 : Int32)) % (6 : Int32)))), .val (.ref ls), .unset, .unset] [(.ref ls)])) _
          refine XS.astore X43.here hx rfl (hb hby at_39) rfl rfl (l' := #[.val (.int p1), .val (.int p2), .val (.int ((p1 &&& (2147483647 : Int32)) % (6 : Int32))), .val (.int (1 : Int32)), .val (.ref (own_ac di dl rt dq dj sa ((p1 &&& (2147483647 : Int32)) % (6 : Int32)))), .val (.ref ls), .val (.ref ls), .unset]) rfl ?_
          show Steps p.tables e below (T43.setTop (mkF m 41 #[.val (.int p1), .val (.int p2), .val (.int ((p1 &&& (2147483647 : Int32)) % (6 : Int32))), .val (.int (1 : Int32)), .val (.ref (own_ac di dl rt dq dj sa ((p1 &&& (2147483647 : Int32)) % (6 : Int32)))), .val (.ref ls), .val (.ref ls), .unset] [])) _
          refine XS.iloadN X43.here hx rfl (hb hby at_41) rfl ?_
          show Steps p.tables e below (T43.setTop (mkF m 42 #[.val (.int p1), .val (.int p2), .val (.int ((p1 &&& (2147483647 : Int32)) % (6 : Int32))), .val (.int (1 : Int32)), .val (.ref (own_ac di dl rt dq dj sa ((p1 &&& (2147483647 : Int32)) % (6 : Int32)))), .val (.ref ls), .val (.ref ls), .unset] [(.int (1 : Int32))])) _
          refine XS.ifNo X43.here hx rfl (hb hby at_42) rfl ((if0 _ _).trans (feq (by decide)).1) ?_
          show Steps p.tables e below (T43.setTop (mkF m 45 #[.val (.int p1), .val (.int p2), .val (.int ((p1 &&& (2147483647 : Int32)) % (6 : Int32))), .val (.int (1 : Int32)), .val (.ref (own_ac di dl rt dq dj sa ((p1 &&& (2147483647 : Int32)) % (6 : Int32)))), .val (.ref ls), .val (.ref ls), .unset] [])) _
          refine XS.aload X43.here hx rfl (hb hby at_45) rfl rfl ?_
          show Steps p.tables e below (T43.setTop (mkF m 47 #[.val (.int p1), .val (.int p2), .val (.int ((p1 &&& (2147483647 : Int32)) % (6 : Int32))), .val (.int (1 : Int32)), .val (.ref (own_ac di dl rt dq dj sa ((p1 &&& (2147483647 : Int32)) % (6 : Int32)))), .val (.ref ls), .val (.ref ls), .unset] [(.ref ls)])) _
          refine XS.ifnullNo X43.here hx rfl (hb hby at_47) rfl ?_
          show Steps p.tables e below (T43.setTop (mkF m 50 #[.val (.int p1), .val (.int p2), .val (.int ((p1 &&& (2147483647 : Int32)) % (6 : Int32))), .val (.int (1 : Int32)), .val (.ref (own_ac di dl rt dq dj sa ((p1 &&& (2147483647 : Int32)) % (6 : Int32)))), .val (.ref ls), .val (.ref ls), .unset] [])) _
          refine XS.iconst X43.here hx rfl (hb hby at_50) ?_
          show Steps p.tables e below (T43.setTop (mkF m 51 #[.val (.int p1), .val (.int p2), .val (.int ((p1 &&& (2147483647 : Int32)) % (6 : Int32))), .val (.int (1 : Int32)), .val (.ref (own_ac di dl rt dq dj sa ((p1 &&& (2147483647 : Int32)) % (6 : Int32)))), .val (.ref ls), .val (.ref ls), .unset] [(.int (1 : Int32))])) _
          refine XS.goto X43.here hx rfl (pc0 := 51) (pc' := 55) rfl (hb hby at_51) (by decide) (by decide) ?_
          show Steps p.tables e below (T43.setTop (mkF m 55 #[.val (.int p1), .val (.int p2), .val (.int ((p1 &&& (2147483647 : Int32)) % (6 : Int32))), .val (.int (1 : Int32)), .val (.ref (own_ac di dl rt dq dj sa ((p1 &&& (2147483647 : Int32)) % (6 : Int32)))), .val (.ref ls), .val (.ref ls), .unset] [(.int (1 : Int32))])) _
          refine XS.aload X43.here hx rfl (hb hby at_55) rfl rfl ?_
          exact kt
        obtain ⟨cq44, kq44, q44a, q44b, q44c⟩ := isOf hZ e43 Ex
        obtain ⟨_, _, ⟨T44, L44, k44, n44⟩, -, X44, ⟨Lc44, hQ44, l44, y44, z44⟩, st44⟩ := X43.virtualBack hx (y := (⟨"com/example/tardy_post/tardypost/UndeliverableAction", "isOffered", "()Z"⟩ : MethodName)) (z := (⟨"com/example/tardy_post/tardypost/UndeliverableAction", "isOffered", "()Z"⟩ : MethodName)) hown (mvT hZ (hw _ (List.mem_of_getElem? (i := 21) rfl))) (mvT hZ (hw _ (List.mem_of_getElem? (i := 22) rfl))) (notFace_of_selects (args := #[]) (mvT hZ (hw _ (List.mem_of_getElem? (i := 24) rfl)))) (mvT hZ (hw _ (List.mem_of_getElem? (i := 24) rfl))) (mvT hZ (hw _ (List.mem_of_getElem? (i := 23) rfl))) (by decide) (backOf (W := 1) (off_0 l Z a0 hw [] (own_ac di dl rt dq dj sa ((p1 &&& (2147483647 : Int32)) % (6 : Int32))) ls h0 n0 Z0 Dx) hZ (hw _ (List.mem_of_getElem? (i := 25) rfl)) (hw _ (List.mem_of_getElem? (i := 6) rfl)) (by decide) (by decide)) q44a q44c (g := (mkF m 57 #[.val (.int p1), .val (.int p2), .val (.int ((p1 &&& (2147483647 : Int32)) % (6 : Int32))), .val (.int (1 : Int32)), .val (.ref (own_ac di dl rt dq dj sa ((p1 &&& (2147483647 : Int32)) % (6 : Int32)))), .val (.ref ls), .val (.ref ls), .unset] [(.ref (own_ac di dl rt dq dj sa ((p1 &&& (2147483647 : Int32)) % (6 : Int32)))), (.int (1 : Int32))])) rfl (by rw [hml]; rfl) (Steps.refl _) (argsL := []) (rest := [(.int (1 : Int32))]) (lenOf pd_3 rfl) rfl (by show 2 * 0 + _ ≤ _; exact Nat.le_of_eq rfl) (hb hby at_57) (fun _ _ => ⟨rfl, e43, (by decide : 0 + 0 ≤ _), (by decide : 0 + 0 ≤ _)⟩)
        dsimp only [Pt.U, Pt.locs, Pt.cells, Pt.slots] at X44 l44 y44 z44 st44 hQ44
        subst l44 y44 z44
        obtain ⟨rfl, N44q, e44⟩ := hQ44
        have N44 := Fr.app N43 N44q
        refine Ends.st st44 ?_
        refine Ends.of (F' := T44.setTop (mkF m 87 #[.val (.int p1), .val (.int p2), .val (.int ((p1 &&& (2147483647 : Int32)) % (6 : Int32))), .val (.int (1 : Int32)), .val (.ref (own_ac di dl rt dq dj sa ((p1 &&& (2147483647 : Int32)) % (6 : Int32)))), .val (.ref ls), .val (.ref ls), .val (.int (1 : Int32))] [(.int (1 : Int32))])) (fun _ kt => ?_) ?_
        · show Steps p.tables e below (T44.setTop (mkF m 60 #[.val (.int p1), .val (.int p2), .val (.int ((p1 &&& (2147483647 : Int32)) % (6 : Int32))), .val (.int (1 : Int32)), .val (.ref (own_ac di dl rt dq dj sa ((p1 &&& (2147483647 : Int32)) % (6 : Int32)))), .val (.ref ls), .val (.ref ls), .unset] [(.int (1 : Int32)), (.int (1 : Int32))])) _
          refine XS.icmpNo X44.here hx rfl (hb hby at_60) rfl (teq rfl).2 ?_
          show Steps p.tables e below (T44.setTop (mkF m 63 #[.val (.int p1), .val (.int p2), .val (.int ((p1 &&& (2147483647 : Int32)) % (6 : Int32))), .val (.int (1 : Int32)), .val (.ref (own_ac di dl rt dq dj sa ((p1 &&& (2147483647 : Int32)) % (6 : Int32)))), .val (.ref ls), .val (.ref ls), .unset] [])) _
          refine XS.iconst X44.here hx rfl (hb hby at_63) ?_
          show Steps p.tables e below (T44.setTop (mkF m 64 #[.val (.int p1), .val (.int p2), .val (.int ((p1 &&& (2147483647 : Int32)) % (6 : Int32))), .val (.int (1 : Int32)), .val (.ref (own_ac di dl rt dq dj sa ((p1 &&& (2147483647 : Int32)) % (6 : Int32)))), .val (.ref ls), .val (.ref ls), .unset] [(.int (1 : Int32))])) _
          refine XS.goto X44.here hx rfl (pc0 := 64) (pc' := 68) rfl (hb hby at_64) (by decide) (by decide) ?_
          show Steps p.tables e below (T44.setTop (mkF m 68 #[.val (.int p1), .val (.int p2), .val (.int ((p1 &&& (2147483647 : Int32)) % (6 : Int32))), .val (.int (1 : Int32)), .val (.ref (own_ac di dl rt dq dj sa ((p1 &&& (2147483647 : Int32)) % (6 : Int32)))), .val (.ref ls), .val (.ref ls), .unset] [(.int (1 : Int32))])) _
          refine XS.istore X44.here hx rfl (hb hby at_68) rfl (l' := #[.val (.int p1), .val (.int p2), .val (.int ((p1 &&& (2147483647 : Int32)) % (6 : Int32))), .val (.int (1 : Int32)), .val (.ref (own_ac di dl rt dq dj sa ((p1 &&& (2147483647 : Int32)) % (6 : Int32)))), .val (.ref ls), .val (.ref ls), .val (.int (1 : Int32))]) rfl ?_
          show Steps p.tables e below (T44.setTop (mkF m 70 #[.val (.int p1), .val (.int p2), .val (.int ((p1 &&& (2147483647 : Int32)) % (6 : Int32))), .val (.int (1 : Int32)), .val (.ref (own_ac di dl rt dq dj sa ((p1 &&& (2147483647 : Int32)) % (6 : Int32)))), .val (.ref ls), .val (.ref ls), .val (.int (1 : Int32))] [])) _
          refine XS.aload X44.here hx rfl (hb hby at_70) rfl rfl ?_
          show Steps p.tables e below (T44.setTop (mkF m 72 #[.val (.int p1), .val (.int p2), .val (.int ((p1 &&& (2147483647 : Int32)) % (6 : Int32))), .val (.int (1 : Int32)), .val (.ref (own_ac di dl rt dq dj sa ((p1 &&& (2147483647 : Int32)) % (6 : Int32)))), .val (.ref ls), .val (.ref ls), .val (.int (1 : Int32))] [(.ref ls)])) _
          refine XS.aload X44.here hx rfl (hb hby at_72) rfl rfl ?_
          show Steps p.tables e below (T44.setTop (mkF m 74 #[.val (.int p1), .val (.int p2), .val (.int ((p1 &&& (2147483647 : Int32)) % (6 : Int32))), .val (.int (1 : Int32)), .val (.ref (own_ac di dl rt dq dj sa ((p1 &&& (2147483647 : Int32)) % (6 : Int32)))), .val (.ref ls), .val (.ref ls), .val (.int (1 : Int32))] [(.ref ls), (.ref ls)])) _
          refine Jvm.RoadKit.acmp (g := (mkF m 74 #[.val (.int p1), .val (.int p2), .val (.int ((p1 &&& (2147483647 : Int32)) % (6 : Int32))), .val (.int (1 : Int32)), .val (.ref (own_ac di dl rt dq dj sa ((p1 &&& (2147483647 : Int32)) % (6 : Int32)))), .val (.ref ls), .val (.ref ls), .val (.int (1 : Int32))] [(.ref ls), (.ref ls)])) X44 hx rfl rfl rfl (pc0 := 74) (pc' := 77) (same := true) rfl (hb hby at_74) rfl (decide_eq_true (congrArg Value.ref rfl)) (by decide) (by decide) ?_
          show Steps p.tables e below (T44.setTop (mkF m 77 #[.val (.int p1), .val (.int p2), .val (.int ((p1 &&& (2147483647 : Int32)) % (6 : Int32))), .val (.int (1 : Int32)), .val (.ref (own_ac di dl rt dq dj sa ((p1 &&& (2147483647 : Int32)) % (6 : Int32)))), .val (.ref ls), .val (.ref ls), .val (.int (1 : Int32))] [])) _
          refine XS.iload X44.here hx rfl (hb hby at_77) rfl ?_
          show Steps p.tables e below (T44.setTop (mkF m 79 #[.val (.int p1), .val (.int p2), .val (.int ((p1 &&& (2147483647 : Int32)) % (6 : Int32))), .val (.int (1 : Int32)), .val (.ref (own_ac di dl rt dq dj sa ((p1 &&& (2147483647 : Int32)) % (6 : Int32)))), .val (.ref ls), .val (.ref ls), .val (.int (1 : Int32))] [(.int (1 : Int32))])) _
          refine XS.ifNo X44.here hx rfl (hb hby at_79) rfl ((if0 _ _).trans (feq (by decide)).1) ?_
          show Steps p.tables e below (T44.setTop (mkF m 82 #[.val (.int p1), .val (.int p2), .val (.int ((p1 &&& (2147483647 : Int32)) % (6 : Int32))), .val (.int (1 : Int32)), .val (.ref (own_ac di dl rt dq dj sa ((p1 &&& (2147483647 : Int32)) % (6 : Int32)))), .val (.ref ls), .val (.ref ls), .val (.int (1 : Int32))] [])) _
          refine XS.iconst X44.here hx rfl (hb hby at_82) ?_
          show Steps p.tables e below (T44.setTop (mkF m 83 #[.val (.int p1), .val (.int p2), .val (.int ((p1 &&& (2147483647 : Int32)) % (6 : Int32))), .val (.int (1 : Int32)), .val (.ref (own_ac di dl rt dq dj sa ((p1 &&& (2147483647 : Int32)) % (6 : Int32)))), .val (.ref ls), .val (.ref ls), .val (.int (1 : Int32))] [(.int (1 : Int32))])) _
          refine XS.goto X44.here hx rfl (pc0 := 83) (pc' := 87) rfl (hb hby at_83) (by decide) (by decide) ?_
          exact kt
        obtain ⟨fs, hr, hrun, hended, hW, hsame⟩ := X44.leave (v := some (.int (1 : Int32))) (fun h => by rw [Bd.returns] at h; cases h)
        exact ⟨_, _, retN X44 hx (t := .boolean) Bd.returns (by simp) (hb hby at_87) hr, hrun, hended, _, _, rfl, ⟨rfl, N44⟩, ⟨_, rfl⟩, hW, hsame.mono (by decide) (by decide)⟩
      · by_cases hk2 : ((p1 &&& (2147483647 : Int32)) % (6 : Int32)) = (2 : Int32)
        · obtain ⟨_, _, ⟨T45, L45, k45, n45⟩, -, X45, ⟨Lc45, hQ45, l45, y45, z45⟩, st45⟩ := Jvm.LawKit.callS X0 hx (y := (⟨"com/example/tardy_post/tardypost/UndeliverableActionUmaStatusPinLaw", "action", "(I)Lcom/example/tardy_post/tardypost/UndeliverableAction;"⟩ : MethodName)) hown (mvT hZ (hw _ (List.mem_of_getElem? (i := 1) rfl))) (mvT hZ (hw _ (List.mem_of_getElem? (i := 2) rfl))) (mvT hZ (hw _ (List.mem_of_getElem? (i := 3) rfl))) (mvT hZ (hw _ (List.mem_of_getElem? (i := 4) rfl))) (by decide) (backOf (W := 0) (rm1 l Z a0 hw [] ((p1 &&& (2147483647 : Int32)) % (6 : Int32)) di dl rt dq dj sa h0 n0 Z0 S_DISC S_DISCL S_RTS S_DLQ S_DLJ S_SAF) hZ (hw _ (List.mem_of_getElem? (i := 4) rfl)) (hw _ (List.mem_of_getElem? (i := 3) rfl)) (by decide) (by decide)) (g := (mkF m 21 #[.val (.int p1), .val (.int p2), .val (.int ((p1 &&& (2147483647 : Int32)) % (6 : Int32))), .val (.int (1 : Int32)), .unset, .unset, .unset, .unset] [(.int ((p1 &&& (2147483647 : Int32)) % (6 : Int32)))])) rfl (by rw [hml]; rfl) (argsL := [(.int ((p1 &&& (2147483647 : Int32)) % (6 : Int32)))]) (rest := []) (lenOf pd_0 rfl) rfl (by show 2 * 0 + _ ≤ _; exact Nat.le_of_eq rfl) (hb hby at_21) (fun _ _ => ⟨rfl, e0, (by decide : 0 + 0 ≤ _), (by decide : 0 + 0 ≤ _)⟩)
          dsimp only [Pt.U, Pt.locs, Pt.cells, Pt.slots] at X45 l45 y45 z45 st45 hQ45
          subst l45 y45 z45
          obtain ⟨rfl, N45q, e45⟩ := hQ45
          have N45 := Fr.app N0 N45q
          refine Ends.of st45 ?_
          refine Ends.of (F' := T45.setTop (mkF m 28 #[.val (.int p1), .val (.int p2), .val (.int ((p1 &&& (2147483647 : Int32)) % (6 : Int32))), .val (.int (1 : Int32)), .val (.ref (own_ac di dl rt dq dj sa ((p1 &&& (2147483647 : Int32)) % (6 : Int32)))), .unset, .unset, .unset] [(.int (1 : Int32)), (.int ((p1 &&& (2147483647 : Int32)) % (6 : Int32)))])) (fun _ kt => ?_) ?_
          · show Steps p.tables e below (T45.setTop (mkF m 24 #[.val (.int p1), .val (.int p2), .val (.int ((p1 &&& (2147483647 : Int32)) % (6 : Int32))), .val (.int (1 : Int32)), .unset, .unset, .unset, .unset] [(.ref (own_ac di dl rt dq dj sa ((p1 &&& (2147483647 : Int32)) % (6 : Int32))))])) _
            refine XS.astore X45.here hx rfl (hb hby at_24) rfl rfl (l' := #[.val (.int p1), .val (.int p2), .val (.int ((p1 &&& (2147483647 : Int32)) % (6 : Int32))), .val (.int (1 : Int32)), .val (.ref (own_ac di dl rt dq dj sa ((p1 &&& (2147483647 : Int32)) % (6 : Int32)))), .unset, .unset, .unset]) rfl ?_
            show Steps p.tables e below (T45.setTop (mkF m 26 #[.val (.int p1), .val (.int p2), .val (.int ((p1 &&& (2147483647 : Int32)) % (6 : Int32))), .val (.int (1 : Int32)), .val (.ref (own_ac di dl rt dq dj sa ((p1 &&& (2147483647 : Int32)) % (6 : Int32)))), .unset, .unset, .unset] [])) _
            refine XS.iloadN X45.here hx rfl (hb hby at_26) rfl ?_
            show Steps p.tables e below (T45.setTop (mkF m 27 #[.val (.int p1), .val (.int p2), .val (.int ((p1 &&& (2147483647 : Int32)) % (6 : Int32))), .val (.int (1 : Int32)), .val (.ref (own_ac di dl rt dq dj sa ((p1 &&& (2147483647 : Int32)) % (6 : Int32)))), .unset, .unset, .unset] [(.int ((p1 &&& (2147483647 : Int32)) % (6 : Int32)))])) _
            refine XS.iloadN X45.here hx rfl (hb hby at_27) rfl ?_
            exact kt
          obtain ⟨_, _, ⟨T46, L46, k46, n46⟩, -, X46, ⟨Lc46, hQ46, l46, y46, z46⟩, st46⟩ := Jvm.LawKit.callS X45 hx (y := (⟨"com/example/tardy_post/tardypost/UndeliverableActionUmaStatusPinLaw", "expected", "(IZ)Lcom/example/tardy_post/tardypost/UmaStatus;"⟩ : MethodName)) hown (mvT hZ (hw _ (List.mem_of_getElem? (i := 8) rfl))) (mvT hZ (hw _ (List.mem_of_getElem? (i := 9) rfl))) (mvT hZ (hw _ (List.mem_of_getElem? (i := 3) rfl))) (mvT hZ (hw _ (List.mem_of_getElem? (i := 10) rfl))) (by decide) (backOf (W := 0) (rm2 l Z a0 hw [] ((p1 &&& (2147483647 : Int32)) % (6 : Int32)) (1 : Int32) ds ls rs rf qs qf (.ref rs) h0 n0 Z0 S_DISC_SUCCESS S_DISCL_SUCCESS S_RTS_SUCCESS S_RTS_FAIL S_DLQ_SUCCESS S_DLQ_FAILED (by rw [own_ex, if_neg hk0, if_neg hk1, if_pos hk2, if_neg (show ¬ ((1 : Int32) = (0 : Int32)) by decide)])) hZ (hw _ (List.mem_of_getElem? (i := 10) rfl)) (hw _ (List.mem_of_getElem? (i := 3) rfl)) (by decide) (by decide)) (g := (mkF m 28 #[.val (.int p1), .val (.int p2), .val (.int ((p1 &&& (2147483647 : Int32)) % (6 : Int32))), .val (.int (1 : Int32)), .val (.ref (own_ac di dl rt dq dj sa ((p1 &&& (2147483647 : Int32)) % (6 : Int32)))), .unset, .unset, .unset] [(.int (1 : Int32)), (.int ((p1 &&& (2147483647 : Int32)) % (6 : Int32)))])) rfl (by rw [hml]; rfl) (argsL := [(.int ((p1 &&& (2147483647 : Int32)) % (6 : Int32))), (.int (1 : Int32))]) (rest := []) (lenOf pd_1 rfl) rfl (by show 2 * 0 + _ ≤ _; exact Nat.le_of_eq rfl) (hb hby at_28) (fun _ _ => ⟨rfl, e45, (by decide : 0 + 0 ≤ _), (by decide : 0 + 0 ≤ _)⟩)
          dsimp only [Pt.U, Pt.locs, Pt.cells, Pt.slots] at X46 l46 y46 z46 st46 hQ46
          subst l46 y46 z46
          obtain ⟨rfl, N46q, e46⟩ := hQ46
          have N46 := Fr.app N45 N46q
          refine Ends.of st46 ?_
          have hs : (own_ac di dl rt dq dj sa ((p1 &&& (2147483647 : Int32)) % (6 : Int32))) = rt := by rw [own_ac, if_neg hk0, if_neg hk1, if_pos hk2]
          have Ex : Exa Z h0 (own_ac di dl rt dq dj sa ((p1 &&& (2147483647 : Int32)) % (6 : Int32))) "com/example/tardy_post/tardypost/UndeliverableAction" := by rw [hs]; exact E_RTS
          have Dx : Fld Z h0 (own_ac di dl rt dq dj sa ((p1 &&& (2147483647 : Int32)) % (6 : Int32))) "com/example/tardy_post/tardypost/UndeliverableAction" "done" "Lcom/example/tardy_post/tardypost/UmaStatus;" (.ref rs) := by rw [hs]; exact D_RTS
          have Gx : Fld Z h0 (own_ac di dl rt dq dj sa ((p1 &&& (2147483647 : Int32)) % (6 : Int32))) "com/example/tardy_post/tardypost/UndeliverableAction" "failed" "Lcom/example/tardy_post/tardypost/UmaStatus;" (.ref rf) := by rw [hs]; exact G_RTS
          refine Ends.of (F' := T46.setTop (mkF m 36 #[.val (.int p1), .val (.int p2), .val (.int ((p1 &&& (2147483647 : Int32)) % (6 : Int32))), .val (.int (1 : Int32)), .val (.ref (own_ac di dl rt dq dj sa ((p1 &&& (2147483647 : Int32)) % (6 : Int32)))), .val (.ref rs), .unset, .unset] [(.int (1 : Int32)), (.ref (own_ac di dl rt dq dj sa ((p1 &&& (2147483647 : Int32)) % (6 : Int32))))])) (fun _ kt => ?_) ?_
          · show Steps p.tables e below (T46.setTop (mkF m 31 #[.val (.int p1), .val (.int p2), .val (.int ((p1 &&& (2147483647 : Int32)) % (6 : Int32))), .val (.int (1 : Int32)), .val (.ref (own_ac di dl rt dq dj sa ((p1 &&& (2147483647 : Int32)) % (6 : Int32)))), .unset, .unset, .unset] [(.ref rs)])) _
            refine XS.astore X46.here hx rfl (hb hby at_31) rfl rfl (l' := #[.val (.int p1), .val (.int p2), .val (.int ((p1 &&& (2147483647 : Int32)) % (6 : Int32))), .val (.int (1 : Int32)), .val (.ref (own_ac di dl rt dq dj sa ((p1 &&& (2147483647 : Int32)) % (6 : Int32)))), .val (.ref rs), .unset, .unset]) rfl ?_
            show Steps p.tables e below (T46.setTop (mkF m 33 #[.val (.int p1), .val (.int p2), .val (.int ((p1 &&& (2147483647 : Int32)) % (6 : Int32))), .val (.int (1 : Int32)), .val (.ref (own_ac di dl rt dq dj sa ((p1 &&& (2147483647 : Int32)) % (6 : Int32)))), .val (.ref rs), .unset, .unset] [])) _
            refine XS.aload X46.here hx rfl (hb hby at_33) rfl rfl ?_
            show Steps p.tables e below (T46.setTop (mkF m 35 #[.val (.int p1), .val (.int p2), .val (.int ((p1 &&& (2147483647 : Int32)) % (6 : Int32))), .val (.int (1 : Int32)), .val (.ref (own_ac di dl rt dq dj sa ((p1 &&& (2147483647 : Int32)) % (6 : Int32)))), .val (.ref rs), .unset, .unset] [(.ref (own_ac di dl rt dq dj sa ((p1 &&& (2147483647 : Int32)) % (6 : Int32))))])) _
            refine XS.iloadN X46.here hx rfl (hb hby at_35) rfl ?_
            exact kt
          obtain ⟨cq47, kq47, q47a, q47b, q47c⟩ := isOf hZ e46 Ex
          obtain ⟨_, _, ⟨T47, L47, k47, n47⟩, -, X47, ⟨Lc47, hQ47, l47, y47, z47⟩, st47⟩ := X46.virtualBack hx (y := (⟨"com/example/tardy_post/tardypost/UndeliverableAction", "umaStatus", "(Z)Lcom/example/tardy_post/tardypost/UmaStatus;"⟩ : MethodName)) (z := (⟨"com/example/tardy_post/tardypost/UndeliverableAction", "umaStatus", "(Z)Lcom/example/tardy_post/tardypost/UmaStatus;"⟩ : MethodName)) hown (mvT hZ (hw _ (List.mem_of_getElem? (i := 14) rfl))) (mvT hZ (hw _ (List.mem_of_getElem? (i := 15) rfl))) (notFace_of_selects (args := #[]) (mvT hZ (hw _ (List.mem_of_getElem? (i := 17) rfl)))) (mvT hZ (hw _ (List.mem_of_getElem? (i := 17) rfl))) (mvT hZ (hw _ (List.mem_of_getElem? (i := 16) rfl))) (by decide) (backOf (W := 0) (uma_10 l Z a0 hw [] (own_ac di dl rt dq dj sa ((p1 &&& (2147483647 : Int32)) % (6 : Int32))) rs h0 n0 Z0 Dx) hZ (hw _ (List.mem_of_getElem? (i := 18) rfl)) (hw _ (List.mem_of_getElem? (i := 6) rfl)) (by decide) (by decide)) q47a q47c (g := (mkF m 36 #[.val (.int p1), .val (.int p2), .val (.int ((p1 &&& (2147483647 : Int32)) % (6 : Int32))), .val (.int (1 : Int32)), .val (.ref (own_ac di dl rt dq dj sa ((p1 &&& (2147483647 : Int32)) % (6 : Int32)))), .val (.ref rs), .unset, .unset] [(.int (1 : Int32)), (.ref (own_ac di dl rt dq dj sa ((p1 &&& (2147483647 : Int32)) % (6 : Int32))))])) rfl (by rw [hml]; rfl) (Steps.refl _) (argsL := [(.int (1 : Int32))]) (rest := []) (lenOf pd_2 rfl) rfl (by show 2 * 0 + _ ≤ _; exact Nat.le_of_eq rfl) (hb hby at_36) (fun _ _ => ⟨rfl, e46, (by decide : 0 + 0 ≤ _), (by decide : 0 + 0 ≤ _)⟩)
          dsimp only [Pt.U, Pt.locs, Pt.cells, Pt.slots] at X47 l47 y47 z47 st47 hQ47
          subst l47 y47 z47
          obtain ⟨rfl, N47q, e47⟩ := hQ47
          have N47 := Fr.app N46 N47q
          refine Ends.st st47 ?_
          refine Ends.of (F' := T47.setTop (mkF m 57 #[.val (.int p1), .val (.int p2), .val (.int ((p1 &&& (2147483647 : Int32)) % (6 : Int32))), .val (.int (1 : Int32)), .val (.ref (own_ac di dl rt dq dj sa ((p1 &&& (2147483647 : Int32)) % (6 : Int32)))), .val (.ref rs), .val (.ref rs), .unset] [(.ref (own_ac di dl rt dq dj sa ((p1 &&& (2147483647 : Int32)) % (6 : Int32)))), (.int (1 : Int32))])) (fun _ kt => ?_) ?_
          · show Steps p.tables e below (T47.setTop (mkF m 39 #[.val (.int p1), .val (.int p2), .val (.int ((p1 &&& (2147483647 : Int32)) % (6 : Int32))), .val (.int (1 : Int32)), .val (.ref (own_ac di dl rt dq dj sa ((p1 &&& (2147483647 : Int32)) % (6 : Int32)))), .val (.ref rs), .unset, .unset] [(.ref rs)])) _
            refine XS.astore X47.here hx rfl (hb hby at_39) rfl rfl (l' := #[.val (.int p1), .val (.int p2), .val (.int ((p1 &&& (2147483647 : Int32)) % (6 : Int32))), .val (.int (1 : Int32)), .val (.ref (own_ac di dl rt dq dj sa ((p1 &&& (2147483647 : Int32)) % (6 : Int32)))), .val (.ref rs), .val (.ref rs), .unset]) rfl ?_
            show Steps p.tables e below (T47.setTop (mkF m 41 #[.val (.int p1), .val (.int p2), .val (.int ((p1 &&& (2147483647 : Int32)) % (6 : Int32))), .val (.int (1 : Int32)), .val (.ref (own_ac di dl rt dq dj sa ((p1 &&& (2147483647 : Int32)) % (6 : Int32)))), .val (.ref rs), .val (.ref rs), .unset] [])) _
            refine XS.iloadN X47.here hx rfl (hb hby at_41) rfl ?_
            show Steps p.tables e below (T47.setTop (mkF m 42 #[.val (.int p1), .val (.int p2), .val (.int ((p1 &&& (2147483647 : Int32)) % (6 : Int32))), .val (.int (1 : Int32)), .val (.ref (own_ac di dl rt dq dj sa ((p1 &&& (2147483647 : Int32)) % (6 : Int32)))), .val (.ref rs), .val (.ref rs), .unset] [(.int (1 : Int32))])) _
            refine XS.ifNo X47.here hx rfl (hb hby at_42) rfl ((if0 _ _).trans (feq (by decide)).1) ?_
            show Steps p.tables e below (T47.setTop (mkF m 45 #[.val (.int p1), .val (.int p2), .val (.int ((p1 &&& (2147483647 : Int32)) % (6 : Int32))), .val (.int (1 : Int32)), .val (.ref (own_ac di dl rt dq dj sa ((p1 &&& (2147483647 : Int32)) % (6 : Int32)))), .val (.ref rs), .val (.ref rs), .unset] [])) _
            refine XS.aload X47.here hx rfl (hb hby at_45) rfl rfl ?_
            show Steps p.tables e below (T47.setTop (mkF m 47 #[.val (.int p1), .val (.int p2), .val (.int ((p1 &&& (2147483647 : Int32)) % (6 : Int32))), .val (.int (1 : Int32)), .val (.ref (own_ac di dl rt dq dj sa ((p1 &&& (2147483647 : Int32)) % (6 : Int32)))), .val (.ref rs), .val (.ref rs), .unset] [(.ref rs)])) _
            refine XS.ifnullNo X47.here hx rfl (hb hby at_47) rfl ?_
            show Steps p.tables e below (T47.setTop (mkF m 50 #[.val (.int p1), .val (.int p2), .val (.int ((p1 &&& (2147483647 : Int32)) % (6 : Int32))), .val (.int (1 : Int32)), .val (.ref (own_ac di dl rt dq dj sa ((p1 &&& (2147483647 : Int32)) % (6 : Int32)))), .val (.ref rs), .val (.ref rs), .unset] [])) _
            refine XS.iconst X47.here hx rfl (hb hby at_50) ?_
            show Steps p.tables e below (T47.setTop (mkF m 51 #[.val (.int p1), .val (.int p2), .val (.int ((p1 &&& (2147483647 : Int32)) % (6 : Int32))), .val (.int (1 : Int32)), .val (.ref (own_ac di dl rt dq dj sa ((p1 &&& (2147483647 : Int32)) % (6 : Int32)))), .val (.ref rs), .val (.ref rs), .unset] [(.int (1 : Int32))])) _
            refine XS.goto X47.here hx rfl (pc0 := 51) (pc' := 55) rfl (hb hby at_51) (by decide) (by decide) ?_
            show Steps p.tables e below (T47.setTop (mkF m 55 #[.val (.int p1), .val (.int p2), .val (.int ((p1 &&& (2147483647 : Int32)) % (6 : Int32))), .val (.int (1 : Int32)), .val (.ref (own_ac di dl rt dq dj sa ((p1 &&& (2147483647 : Int32)) % (6 : Int32)))), .val (.ref rs), .val (.ref rs), .unset] [(.int (1 : Int32))])) _
            refine XS.aload X47.here hx rfl (hb hby at_55) rfl rfl ?_
            exact kt
          obtain ⟨cq48, kq48, q48a, q48b, q48c⟩ := isOf hZ e47 Ex
          obtain ⟨_, _, ⟨T48, L48, k48, n48⟩, -, X48, ⟨Lc48, hQ48, l48, y48, z48⟩, st48⟩ := X47.virtualBack hx (y := (⟨"com/example/tardy_post/tardypost/UndeliverableAction", "isOffered", "()Z"⟩ : MethodName)) (z := (⟨"com/example/tardy_post/tardypost/UndeliverableAction", "isOffered", "()Z"⟩ : MethodName)) hown (mvT hZ (hw _ (List.mem_of_getElem? (i := 21) rfl))) (mvT hZ (hw _ (List.mem_of_getElem? (i := 22) rfl))) (notFace_of_selects (args := #[]) (mvT hZ (hw _ (List.mem_of_getElem? (i := 24) rfl)))) (mvT hZ (hw _ (List.mem_of_getElem? (i := 24) rfl))) (mvT hZ (hw _ (List.mem_of_getElem? (i := 23) rfl))) (by decide) (backOf (W := 1) (off_0 l Z a0 hw [] (own_ac di dl rt dq dj sa ((p1 &&& (2147483647 : Int32)) % (6 : Int32))) rs h0 n0 Z0 Dx) hZ (hw _ (List.mem_of_getElem? (i := 25) rfl)) (hw _ (List.mem_of_getElem? (i := 6) rfl)) (by decide) (by decide)) q48a q48c (g := (mkF m 57 #[.val (.int p1), .val (.int p2), .val (.int ((p1 &&& (2147483647 : Int32)) % (6 : Int32))), .val (.int (1 : Int32)), .val (.ref (own_ac di dl rt dq dj sa ((p1 &&& (2147483647 : Int32)) % (6 : Int32)))), .val (.ref rs), .val (.ref rs), .unset] [(.ref (own_ac di dl rt dq dj sa ((p1 &&& (2147483647 : Int32)) % (6 : Int32)))), (.int (1 : Int32))])) rfl (by rw [hml]; rfl) (Steps.refl _) (argsL := []) (rest := [(.int (1 : Int32))]) (lenOf pd_3 rfl) rfl (by show 2 * 0 + _ ≤ _; exact Nat.le_of_eq rfl) (hb hby at_57) (fun _ _ => ⟨rfl, e47, (by decide : 0 + 0 ≤ _), (by decide : 0 + 0 ≤ _)⟩)
          dsimp only [Pt.U, Pt.locs, Pt.cells, Pt.slots] at X48 l48 y48 z48 st48 hQ48
          subst l48 y48 z48
          obtain ⟨rfl, N48q, e48⟩ := hQ48
          have N48 := Fr.app N47 N48q
          refine Ends.st st48 ?_
          refine Ends.of (F' := T48.setTop (mkF m 87 #[.val (.int p1), .val (.int p2), .val (.int ((p1 &&& (2147483647 : Int32)) % (6 : Int32))), .val (.int (1 : Int32)), .val (.ref (own_ac di dl rt dq dj sa ((p1 &&& (2147483647 : Int32)) % (6 : Int32)))), .val (.ref rs), .val (.ref rs), .val (.int (1 : Int32))] [(.int (1 : Int32))])) (fun _ kt => ?_) ?_
          · show Steps p.tables e below (T48.setTop (mkF m 60 #[.val (.int p1), .val (.int p2), .val (.int ((p1 &&& (2147483647 : Int32)) % (6 : Int32))), .val (.int (1 : Int32)), .val (.ref (own_ac di dl rt dq dj sa ((p1 &&& (2147483647 : Int32)) % (6 : Int32)))), .val (.ref rs), .val (.ref rs), .unset] [(.int (1 : Int32)), (.int (1 : Int32))])) _
            refine XS.icmpNo X48.here hx rfl (hb hby at_60) rfl (teq rfl).2 ?_
            show Steps p.tables e below (T48.setTop (mkF m 63 #[.val (.int p1), .val (.int p2), .val (.int ((p1 &&& (2147483647 : Int32)) % (6 : Int32))), .val (.int (1 : Int32)), .val (.ref (own_ac di dl rt dq dj sa ((p1 &&& (2147483647 : Int32)) % (6 : Int32)))), .val (.ref rs), .val (.ref rs), .unset] [])) _
            refine XS.iconst X48.here hx rfl (hb hby at_63) ?_
            show Steps p.tables e below (T48.setTop (mkF m 64 #[.val (.int p1), .val (.int p2), .val (.int ((p1 &&& (2147483647 : Int32)) % (6 : Int32))), .val (.int (1 : Int32)), .val (.ref (own_ac di dl rt dq dj sa ((p1 &&& (2147483647 : Int32)) % (6 : Int32)))), .val (.ref rs), .val (.ref rs), .unset] [(.int (1 : Int32))])) _
            refine XS.goto X48.here hx rfl (pc0 := 64) (pc' := 68) rfl (hb hby at_64) (by decide) (by decide) ?_
            show Steps p.tables e below (T48.setTop (mkF m 68 #[.val (.int p1), .val (.int p2), .val (.int ((p1 &&& (2147483647 : Int32)) % (6 : Int32))), .val (.int (1 : Int32)), .val (.ref (own_ac di dl rt dq dj sa ((p1 &&& (2147483647 : Int32)) % (6 : Int32)))), .val (.ref rs), .val (.ref rs), .unset] [(.int (1 : Int32))])) _
            refine XS.istore X48.here hx rfl (hb hby at_68) rfl (l' := #[.val (.int p1), .val (.int p2), .val (.int ((p1 &&& (2147483647 : Int32)) % (6 : Int32))), .val (.int (1 : Int32)), .val (.ref (own_ac di dl rt dq dj sa ((p1 &&& (2147483647 : Int32)) % (6 : Int32)))), .val (.ref rs), .val (.ref rs), .val (.int (1 : Int32))]) rfl ?_
            show Steps p.tables e below (T48.setTop (mkF m 70 #[.val (.int p1), .val (.int p2), .val (.int ((p1 &&& (2147483647 : Int32)) % (6 : Int32))), .val (.int (1 : Int32)), .val (.ref (own_ac di dl rt dq dj sa ((p1 &&& (2147483647 : Int32)) % (6 : Int32)))), .val (.ref rs), .val (.ref rs), .val (.int (1 : Int32))] [])) _
            refine XS.aload X48.here hx rfl (hb hby at_70) rfl rfl ?_
            show Steps p.tables e below (T48.setTop (mkF m 72 #[.val (.int p1), .val (.int p2), .val (.int ((p1 &&& (2147483647 : Int32)) % (6 : Int32))), .val (.int (1 : Int32)), .val (.ref (own_ac di dl rt dq dj sa ((p1 &&& (2147483647 : Int32)) % (6 : Int32)))), .val (.ref rs), .val (.ref rs), .val (.int (1 : Int32))] [(.ref rs)])) _
            refine XS.aload X48.here hx rfl (hb hby at_72) rfl rfl ?_
            show Steps p.tables e below (T48.setTop (mkF m 74 #[.val (.int p1), .val (.int p2), .val (.int ((p1 &&& (2147483647 : Int32)) % (6 : Int32))), .val (.int (1 : Int32)), .val (.ref (own_ac di dl rt dq dj sa ((p1 &&& (2147483647 : Int32)) % (6 : Int32)))), .val (.ref rs), .val (.ref rs), .val (.int (1 : Int32))] [(.ref rs), (.ref rs)])) _
            refine Jvm.RoadKit.acmp (g := (mkF m 74 #[.val (.int p1), .val (.int p2), .val (.int ((p1 &&& (2147483647 : Int32)) % (6 : Int32))), .val (.int (1 : Int32)), .val (.ref (own_ac di dl rt dq dj sa ((p1 &&& (2147483647 : Int32)) % (6 : Int32)))), .val (.ref rs), .val (.ref rs), .val (.int (1 : Int32))] [(.ref rs), (.ref rs)])) X48 hx rfl rfl rfl (pc0 := 74) (pc' := 77) (same := true) rfl (hb hby at_74) rfl (decide_eq_true (congrArg Value.ref rfl)) (by decide) (by decide) ?_
            show Steps p.tables e below (T48.setTop (mkF m 77 #[.val (.int p1), .val (.int p2), .val (.int ((p1 &&& (2147483647 : Int32)) % (6 : Int32))), .val (.int (1 : Int32)), .val (.ref (own_ac di dl rt dq dj sa ((p1 &&& (2147483647 : Int32)) % (6 : Int32)))), .val (.ref rs), .val (.ref rs), .val (.int (1 : Int32))] [])) _
            refine XS.iload X48.here hx rfl (hb hby at_77) rfl ?_
            show Steps p.tables e below (T48.setTop (mkF m 79 #[.val (.int p1), .val (.int p2), .val (.int ((p1 &&& (2147483647 : Int32)) % (6 : Int32))), .val (.int (1 : Int32)), .val (.ref (own_ac di dl rt dq dj sa ((p1 &&& (2147483647 : Int32)) % (6 : Int32)))), .val (.ref rs), .val (.ref rs), .val (.int (1 : Int32))] [(.int (1 : Int32))])) _
            refine XS.ifNo X48.here hx rfl (hb hby at_79) rfl ((if0 _ _).trans (feq (by decide)).1) ?_
            show Steps p.tables e below (T48.setTop (mkF m 82 #[.val (.int p1), .val (.int p2), .val (.int ((p1 &&& (2147483647 : Int32)) % (6 : Int32))), .val (.int (1 : Int32)), .val (.ref (own_ac di dl rt dq dj sa ((p1 &&& (2147483647 : Int32)) % (6 : Int32)))), .val (.ref rs), .val (.ref rs), .val (.int (1 : Int32))] [])) _
            refine XS.iconst X48.here hx rfl (hb hby at_82) ?_
            show Steps p.tables e below (T48.setTop (mkF m 83 #[.val (.int p1), .val (.int p2), .val (.int ((p1 &&& (2147483647 : Int32)) % (6 : Int32))), .val (.int (1 : Int32)), .val (.ref (own_ac di dl rt dq dj sa ((p1 &&& (2147483647 : Int32)) % (6 : Int32)))), .val (.ref rs), .val (.ref rs), .val (.int (1 : Int32))] [(.int (1 : Int32))])) _
            refine XS.goto X48.here hx rfl (pc0 := 83) (pc' := 87) rfl (hb hby at_83) (by decide) (by decide) ?_
            exact kt
          obtain ⟨fs, hr, hrun, hended, hW, hsame⟩ := X48.leave (v := some (.int (1 : Int32))) (fun h => by rw [Bd.returns] at h; cases h)
          exact ⟨_, _, retN X48 hx (t := .boolean) Bd.returns (by simp) (hb hby at_87) hr, hrun, hended, _, _, rfl, ⟨rfl, N48⟩, ⟨_, rfl⟩, hW, hsame.mono (by decide) (by decide)⟩
        · by_cases hk3 : ((p1 &&& (2147483647 : Int32)) % (6 : Int32)) = (3 : Int32)
          · obtain ⟨_, _, ⟨T49, L49, k49, n49⟩, -, X49, ⟨Lc49, hQ49, l49, y49, z49⟩, st49⟩ := Jvm.LawKit.callS X0 hx (y := (⟨"com/example/tardy_post/tardypost/UndeliverableActionUmaStatusPinLaw", "action", "(I)Lcom/example/tardy_post/tardypost/UndeliverableAction;"⟩ : MethodName)) hown (mvT hZ (hw _ (List.mem_of_getElem? (i := 1) rfl))) (mvT hZ (hw _ (List.mem_of_getElem? (i := 2) rfl))) (mvT hZ (hw _ (List.mem_of_getElem? (i := 3) rfl))) (mvT hZ (hw _ (List.mem_of_getElem? (i := 4) rfl))) (by decide) (backOf (W := 0) (rm1 l Z a0 hw [] ((p1 &&& (2147483647 : Int32)) % (6 : Int32)) di dl rt dq dj sa h0 n0 Z0 S_DISC S_DISCL S_RTS S_DLQ S_DLJ S_SAF) hZ (hw _ (List.mem_of_getElem? (i := 4) rfl)) (hw _ (List.mem_of_getElem? (i := 3) rfl)) (by decide) (by decide)) (g := (mkF m 21 #[.val (.int p1), .val (.int p2), .val (.int ((p1 &&& (2147483647 : Int32)) % (6 : Int32))), .val (.int (1 : Int32)), .unset, .unset, .unset, .unset] [(.int ((p1 &&& (2147483647 : Int32)) % (6 : Int32)))])) rfl (by rw [hml]; rfl) (argsL := [(.int ((p1 &&& (2147483647 : Int32)) % (6 : Int32)))]) (rest := []) (lenOf pd_0 rfl) rfl (by show 2 * 0 + _ ≤ _; exact Nat.le_of_eq rfl) (hb hby at_21) (fun _ _ => ⟨rfl, e0, (by decide : 0 + 0 ≤ _), (by decide : 0 + 0 ≤ _)⟩)
            dsimp only [Pt.U, Pt.locs, Pt.cells, Pt.slots] at X49 l49 y49 z49 st49 hQ49
            subst l49 y49 z49
            obtain ⟨rfl, N49q, e49⟩ := hQ49
            have N49 := Fr.app N0 N49q
            refine Ends.of st49 ?_
            refine Ends.of (F' := T49.setTop (mkF m 28 #[.val (.int p1), .val (.int p2), .val (.int ((p1 &&& (2147483647 : Int32)) % (6 : Int32))), .val (.int (1 : Int32)), .val (.ref (own_ac di dl rt dq dj sa ((p1 &&& (2147483647 : Int32)) % (6 : Int32)))), .unset, .unset, .unset] [(.int (1 : Int32)), (.int ((p1 &&& (2147483647 : Int32)) % (6 : Int32)))])) (fun _ kt => ?_) ?_
            · show Steps p.tables e below (T49.setTop (mkF m 24 #[.val (.int p1), .val (.int p2), .val (.int ((p1 &&& (2147483647 : Int32)) % (6 : Int32))), .val (.int (1 : Int32)), .unset, .unset, .unset, .unset] [(.ref (own_ac di dl rt dq dj sa ((p1 &&& (2147483647 : Int32)) % (6 : Int32))))])) _
              refine XS.astore X49.here hx rfl (hb hby at_24) rfl rfl (l' := #[.val (.int p1), .val (.int p2), .val (.int ((p1 &&& (2147483647 : Int32)) % (6 : Int32))), .val (.int (1 : Int32)), .val (.ref (own_ac di dl rt dq dj sa ((p1 &&& (2147483647 : Int32)) % (6 : Int32)))), .unset, .unset, .unset]) rfl ?_
              show Steps p.tables e below (T49.setTop (mkF m 26 #[.val (.int p1), .val (.int p2), .val (.int ((p1 &&& (2147483647 : Int32)) % (6 : Int32))), .val (.int (1 : Int32)), .val (.ref (own_ac di dl rt dq dj sa ((p1 &&& (2147483647 : Int32)) % (6 : Int32)))), .unset, .unset, .unset] [])) _
              refine XS.iloadN X49.here hx rfl (hb hby at_26) rfl ?_
              show Steps p.tables e below (T49.setTop (mkF m 27 #[.val (.int p1), .val (.int p2), .val (.int ((p1 &&& (2147483647 : Int32)) % (6 : Int32))), .val (.int (1 : Int32)), .val (.ref (own_ac di dl rt dq dj sa ((p1 &&& (2147483647 : Int32)) % (6 : Int32)))), .unset, .unset, .unset] [(.int ((p1 &&& (2147483647 : Int32)) % (6 : Int32)))])) _
              refine XS.iloadN X49.here hx rfl (hb hby at_27) rfl ?_
              exact kt
            obtain ⟨_, _, ⟨T50, L50, k50, n50⟩, -, X50, ⟨Lc50, hQ50, l50, y50, z50⟩, st50⟩ := Jvm.LawKit.callS X49 hx (y := (⟨"com/example/tardy_post/tardypost/UndeliverableActionUmaStatusPinLaw", "expected", "(IZ)Lcom/example/tardy_post/tardypost/UmaStatus;"⟩ : MethodName)) hown (mvT hZ (hw _ (List.mem_of_getElem? (i := 8) rfl))) (mvT hZ (hw _ (List.mem_of_getElem? (i := 9) rfl))) (mvT hZ (hw _ (List.mem_of_getElem? (i := 3) rfl))) (mvT hZ (hw _ (List.mem_of_getElem? (i := 10) rfl))) (by decide) (backOf (W := 0) (rm2 l Z a0 hw [] ((p1 &&& (2147483647 : Int32)) % (6 : Int32)) (1 : Int32) ds ls rs rf qs qf (.ref qs) h0 n0 Z0 S_DISC_SUCCESS S_DISCL_SUCCESS S_RTS_SUCCESS S_RTS_FAIL S_DLQ_SUCCESS S_DLQ_FAILED (by rw [own_ex, if_neg hk0, if_neg hk1, if_neg hk2, if_pos hk3, if_neg (show ¬ ((1 : Int32) = (0 : Int32)) by decide)])) hZ (hw _ (List.mem_of_getElem? (i := 10) rfl)) (hw _ (List.mem_of_getElem? (i := 3) rfl)) (by decide) (by decide)) (g := (mkF m 28 #[.val (.int p1), .val (.int p2), .val (.int ((p1 &&& (2147483647 : Int32)) % (6 : Int32))), .val (.int (1 : Int32)), .val (.ref (own_ac di dl rt dq dj sa ((p1 &&& (2147483647 : Int32)) % (6 : Int32)))), .unset, .unset, .unset] [(.int (1 : Int32)), (.int ((p1 &&& (2147483647 : Int32)) % (6 : Int32)))])) rfl (by rw [hml]; rfl) (argsL := [(.int ((p1 &&& (2147483647 : Int32)) % (6 : Int32))), (.int (1 : Int32))]) (rest := []) (lenOf pd_1 rfl) rfl (by show 2 * 0 + _ ≤ _; exact Nat.le_of_eq rfl) (hb hby at_28) (fun _ _ => ⟨rfl, e49, (by decide : 0 + 0 ≤ _), (by decide : 0 + 0 ≤ _)⟩)
            dsimp only [Pt.U, Pt.locs, Pt.cells, Pt.slots] at X50 l50 y50 z50 st50 hQ50
            subst l50 y50 z50
            obtain ⟨rfl, N50q, e50⟩ := hQ50
            have N50 := Fr.app N49 N50q
            refine Ends.of st50 ?_
            have hs : (own_ac di dl rt dq dj sa ((p1 &&& (2147483647 : Int32)) % (6 : Int32))) = dq := by rw [own_ac, if_neg hk0, if_neg hk1, if_neg hk2, if_pos hk3]
            have Ex : Exa Z h0 (own_ac di dl rt dq dj sa ((p1 &&& (2147483647 : Int32)) % (6 : Int32))) "com/example/tardy_post/tardypost/UndeliverableAction" := by rw [hs]; exact E_DLQ
            have Dx : Fld Z h0 (own_ac di dl rt dq dj sa ((p1 &&& (2147483647 : Int32)) % (6 : Int32))) "com/example/tardy_post/tardypost/UndeliverableAction" "done" "Lcom/example/tardy_post/tardypost/UmaStatus;" (.ref qs) := by rw [hs]; exact D_DLQ
            have Gx : Fld Z h0 (own_ac di dl rt dq dj sa ((p1 &&& (2147483647 : Int32)) % (6 : Int32))) "com/example/tardy_post/tardypost/UndeliverableAction" "failed" "Lcom/example/tardy_post/tardypost/UmaStatus;" (.ref qf) := by rw [hs]; exact G_DLQ
            refine Ends.of (F' := T50.setTop (mkF m 36 #[.val (.int p1), .val (.int p2), .val (.int ((p1 &&& (2147483647 : Int32)) % (6 : Int32))), .val (.int (1 : Int32)), .val (.ref (own_ac di dl rt dq dj sa ((p1 &&& (2147483647 : Int32)) % (6 : Int32)))), .val (.ref qs), .unset, .unset] [(.int (1 : Int32)), (.ref (own_ac di dl rt dq dj sa ((p1 &&& (2147483647 : Int32)) % (6 : Int32))))])) (fun _ kt => ?_) ?_
            · show Steps p.tables e below (T50.setTop (mkF m 31 #[.val (.int p1), .val (.int p2), .val (.int ((p1 &&& (2147483647 : Int32)) % (6 : Int32))), .val (.int (1 : Int32)), .val (.ref (own_ac di dl rt dq dj sa ((p1 &&& (2147483647 : Int32)) % (6 : Int32)))), .unset, .unset, .unset] [(.ref qs)])) _
              refine XS.astore X50.here hx rfl (hb hby at_31) rfl rfl (l' := #[.val (.int p1), .val (.int p2), .val (.int ((p1 &&& (2147483647 : Int32)) % (6 : Int32))), .val (.int (1 : Int32)), .val (.ref (own_ac di dl rt dq dj sa ((p1 &&& (2147483647 : Int32)) % (6 : Int32)))), .val (.ref qs), .unset, .unset]) rfl ?_
              show Steps p.tables e below (T50.setTop (mkF m 33 #[.val (.int p1), .val (.int p2), .val (.int ((p1 &&& (2147483647 : Int32)) % (6 : Int32))), .val (.int (1 : Int32)), .val (.ref (own_ac di dl rt dq dj sa ((p1 &&& (2147483647 : Int32)) % (6 : Int32)))), .val (.ref qs), .unset, .unset] [])) _
              refine XS.aload X50.here hx rfl (hb hby at_33) rfl rfl ?_
              show Steps p.tables e below (T50.setTop (mkF m 35 #[.val (.int p1), .val (.int p2), .val (.int ((p1 &&& (2147483647 : Int32)) % (6 : Int32))), .val (.int (1 : Int32)), .val (.ref (own_ac di dl rt dq dj sa ((p1 &&& (2147483647 : Int32)) % (6 : Int32)))), .val (.ref qs), .unset, .unset] [(.ref (own_ac di dl rt dq dj sa ((p1 &&& (2147483647 : Int32)) % (6 : Int32))))])) _
              refine XS.iloadN X50.here hx rfl (hb hby at_35) rfl ?_
              exact kt
            obtain ⟨cq51, kq51, q51a, q51b, q51c⟩ := isOf hZ e50 Ex
            obtain ⟨_, _, ⟨T51, L51, k51, n51⟩, -, X51, ⟨Lc51, hQ51, l51, y51, z51⟩, st51⟩ := X50.virtualBack hx (y := (⟨"com/example/tardy_post/tardypost/UndeliverableAction", "umaStatus", "(Z)Lcom/example/tardy_post/tardypost/UmaStatus;"⟩ : MethodName)) (z := (⟨"com/example/tardy_post/tardypost/UndeliverableAction", "umaStatus", "(Z)Lcom/example/tardy_post/tardypost/UmaStatus;"⟩ : MethodName)) hown (mvT hZ (hw _ (List.mem_of_getElem? (i := 14) rfl))) (mvT hZ (hw _ (List.mem_of_getElem? (i := 15) rfl))) (notFace_of_selects (args := #[]) (mvT hZ (hw _ (List.mem_of_getElem? (i := 17) rfl)))) (mvT hZ (hw _ (List.mem_of_getElem? (i := 17) rfl))) (mvT hZ (hw _ (List.mem_of_getElem? (i := 16) rfl))) (by decide) (backOf (W := 0) (uma_10 l Z a0 hw [] (own_ac di dl rt dq dj sa ((p1 &&& (2147483647 : Int32)) % (6 : Int32))) qs h0 n0 Z0 Dx) hZ (hw _ (List.mem_of_getElem? (i := 18) rfl)) (hw _ (List.mem_of_getElem? (i := 6) rfl)) (by decide) (by decide)) q51a q51c (g := (mkF m 36 #[.val (.int p1), .val (.int p2), .val (.int ((p1 &&& (2147483647 : Int32)) % (6 : Int32))), .val (.int (1 : Int32)), .val (.ref (own_ac di dl rt dq dj sa ((p1 &&& (2147483647 : Int32)) % (6 : Int32)))), .val (.ref qs), .unset, .unset] [(.int (1 : Int32)), (.ref (own_ac di dl rt dq dj sa ((p1 &&& (2147483647 : Int32)) % (6 : Int32))))])) rfl (by rw [hml]; rfl) (Steps.refl _) (argsL := [(.int (1 : Int32))]) (rest := []) (lenOf pd_2 rfl) rfl (by show 2 * 0 + _ ≤ _; exact Nat.le_of_eq rfl) (hb hby at_36) (fun _ _ => ⟨rfl, e50, (by decide : 0 + 0 ≤ _), (by decide : 0 + 0 ≤ _)⟩)
            dsimp only [Pt.U, Pt.locs, Pt.cells, Pt.slots] at X51 l51 y51 z51 st51 hQ51
            subst l51 y51 z51
            obtain ⟨rfl, N51q, e51⟩ := hQ51
            have N51 := Fr.app N50 N51q
            refine Ends.st st51 ?_
            refine Ends.of (F' := T51.setTop (mkF m 57 #[.val (.int p1), .val (.int p2), .val (.int ((p1 &&& (2147483647 : Int32)) % (6 : Int32))), .val (.int (1 : Int32)), .val (.ref (own_ac di dl rt dq dj sa ((p1 &&& (2147483647 : Int32)) % (6 : Int32)))), .val (.ref qs), .val (.ref qs), .unset] [(.ref (own_ac di dl rt dq dj sa ((p1 &&& (2147483647 : Int32)) % (6 : Int32)))), (.int (1 : Int32))])) (fun _ kt => ?_) ?_
            · show Steps p.tables e below (T51.setTop (mkF m 39 #[.val (.int p1), .val (.int p2), .val (.int ((p1 &&& (2147483647 : Int32)) % (6 : Int32))), .val (.int (1 : Int32)), .val (.ref (own_ac di dl rt dq dj sa ((p1 &&& (2147483647 : Int32)) % (6 : Int32)))), .val (.ref qs), .unset, .unset] [(.ref qs)])) _
              refine XS.astore X51.here hx rfl (hb hby at_39) rfl rfl (l' := #[.val (.int p1), .val (.int p2), .val (.int ((p1 &&& (2147483647 : Int32)) % (6 : Int32))), .val (.int (1 : Int32)), .val (.ref (own_ac di dl rt dq dj sa ((p1 &&& (2147483647 : Int32)) % (6 : Int32)))), .val (.ref qs), .val (.ref qs), .unset]) rfl ?_
              show Steps p.tables e below (T51.setTop (mkF m 41 #[.val (.int p1), .val (.int p2), .val (.int ((p1 &&& (2147483647 : Int32)) % (6 : Int32))), .val (.int (1 : Int32)), .val (.ref (own_ac di dl rt dq dj sa ((p1 &&& (2147483647 : Int32)) % (6 : Int32)))), .val (.ref qs), .val (.ref qs), .unset] [])) _
              refine XS.iloadN X51.here hx rfl (hb hby at_41) rfl ?_
              show Steps p.tables e below (T51.setTop (mkF m 42 #[.val (.int p1), .val (.int p2), .val (.int ((p1 &&& (2147483647 : Int32)) % (6 : Int32))), .val (.int (1 : Int32)), .val (.ref (own_ac di dl rt dq dj sa ((p1 &&& (2147483647 : Int32)) % (6 : Int32)))), .val (.ref qs), .val (.ref qs), .unset] [(.int (1 : Int32))])) _
              refine XS.ifNo X51.here hx rfl (hb hby at_42) rfl ((if0 _ _).trans (feq (by decide)).1) ?_
              show Steps p.tables e below (T51.setTop (mkF m 45 #[.val (.int p1), .val (.int p2), .val (.int ((p1 &&& (2147483647 : Int32)) % (6 : Int32))), .val (.int (1 : Int32)), .val (.ref (own_ac di dl rt dq dj sa ((p1 &&& (2147483647 : Int32)) % (6 : Int32)))), .val (.ref qs), .val (.ref qs), .unset] [])) _
              refine XS.aload X51.here hx rfl (hb hby at_45) rfl rfl ?_
              show Steps p.tables e below (T51.setTop (mkF m 47 #[.val (.int p1), .val (.int p2), .val (.int ((p1 &&& (2147483647 : Int32)) % (6 : Int32))), .val (.int (1 : Int32)), .val (.ref (own_ac di dl rt dq dj sa ((p1 &&& (2147483647 : Int32)) % (6 : Int32)))), .val (.ref qs), .val (.ref qs), .unset] [(.ref qs)])) _
              refine XS.ifnullNo X51.here hx rfl (hb hby at_47) rfl ?_
              show Steps p.tables e below (T51.setTop (mkF m 50 #[.val (.int p1), .val (.int p2), .val (.int ((p1 &&& (2147483647 : Int32)) % (6 : Int32))), .val (.int (1 : Int32)), .val (.ref (own_ac di dl rt dq dj sa ((p1 &&& (2147483647 : Int32)) % (6 : Int32)))), .val (.ref qs), .val (.ref qs), .unset] [])) _
              refine XS.iconst X51.here hx rfl (hb hby at_50) ?_
              show Steps p.tables e below (T51.setTop (mkF m 51 #[.val (.int p1), .val (.int p2), .val (.int ((p1 &&& (2147483647 : Int32)) % (6 : Int32))), .val (.int (1 : Int32)), .val (.ref (own_ac di dl rt dq dj sa ((p1 &&& (2147483647 : Int32)) % (6 : Int32)))), .val (.ref qs), .val (.ref qs), .unset] [(.int (1 : Int32))])) _
              refine XS.goto X51.here hx rfl (pc0 := 51) (pc' := 55) rfl (hb hby at_51) (by decide) (by decide) ?_
              show Steps p.tables e below (T51.setTop (mkF m 55 #[.val (.int p1), .val (.int p2), .val (.int ((p1 &&& (2147483647 : Int32)) % (6 : Int32))), .val (.int (1 : Int32)), .val (.ref (own_ac di dl rt dq dj sa ((p1 &&& (2147483647 : Int32)) % (6 : Int32)))), .val (.ref qs), .val (.ref qs), .unset] [(.int (1 : Int32))])) _
              refine XS.aload X51.here hx rfl (hb hby at_55) rfl rfl ?_
              exact kt
            obtain ⟨cq52, kq52, q52a, q52b, q52c⟩ := isOf hZ e51 Ex
            obtain ⟨_, _, ⟨T52, L52, k52, n52⟩, -, X52, ⟨Lc52, hQ52, l52, y52, z52⟩, st52⟩ := X51.virtualBack hx (y := (⟨"com/example/tardy_post/tardypost/UndeliverableAction", "isOffered", "()Z"⟩ : MethodName)) (z := (⟨"com/example/tardy_post/tardypost/UndeliverableAction", "isOffered", "()Z"⟩ : MethodName)) hown (mvT hZ (hw _ (List.mem_of_getElem? (i := 21) rfl))) (mvT hZ (hw _ (List.mem_of_getElem? (i := 22) rfl))) (notFace_of_selects (args := #[]) (mvT hZ (hw _ (List.mem_of_getElem? (i := 24) rfl)))) (mvT hZ (hw _ (List.mem_of_getElem? (i := 24) rfl))) (mvT hZ (hw _ (List.mem_of_getElem? (i := 23) rfl))) (by decide) (backOf (W := 1) (off_0 l Z a0 hw [] (own_ac di dl rt dq dj sa ((p1 &&& (2147483647 : Int32)) % (6 : Int32))) qs h0 n0 Z0 Dx) hZ (hw _ (List.mem_of_getElem? (i := 25) rfl)) (hw _ (List.mem_of_getElem? (i := 6) rfl)) (by decide) (by decide)) q52a q52c (g := (mkF m 57 #[.val (.int p1), .val (.int p2), .val (.int ((p1 &&& (2147483647 : Int32)) % (6 : Int32))), .val (.int (1 : Int32)), .val (.ref (own_ac di dl rt dq dj sa ((p1 &&& (2147483647 : Int32)) % (6 : Int32)))), .val (.ref qs), .val (.ref qs), .unset] [(.ref (own_ac di dl rt dq dj sa ((p1 &&& (2147483647 : Int32)) % (6 : Int32)))), (.int (1 : Int32))])) rfl (by rw [hml]; rfl) (Steps.refl _) (argsL := []) (rest := [(.int (1 : Int32))]) (lenOf pd_3 rfl) rfl (by show 2 * 0 + _ ≤ _; exact Nat.le_of_eq rfl) (hb hby at_57) (fun _ _ => ⟨rfl, e51, (by decide : 0 + 0 ≤ _), (by decide : 0 + 0 ≤ _)⟩)
            dsimp only [Pt.U, Pt.locs, Pt.cells, Pt.slots] at X52 l52 y52 z52 st52 hQ52
            subst l52 y52 z52
            obtain ⟨rfl, N52q, e52⟩ := hQ52
            have N52 := Fr.app N51 N52q
            refine Ends.st st52 ?_
            refine Ends.of (F' := T52.setTop (mkF m 87 #[.val (.int p1), .val (.int p2), .val (.int ((p1 &&& (2147483647 : Int32)) % (6 : Int32))), .val (.int (1 : Int32)), .val (.ref (own_ac di dl rt dq dj sa ((p1 &&& (2147483647 : Int32)) % (6 : Int32)))), .val (.ref qs), .val (.ref qs), .val (.int (1 : Int32))] [(.int (1 : Int32))])) (fun _ kt => ?_) ?_
            · show Steps p.tables e below (T52.setTop (mkF m 60 #[.val (.int p1), .val (.int p2), .val (.int ((p1 &&& (2147483647 : Int32)) % (6 : Int32))), .val (.int (1 : Int32)), .val (.ref (own_ac di dl rt dq dj sa ((p1 &&& (2147483647 : Int32)) % (6 : Int32)))), .val (.ref qs), .val (.ref qs), .unset] [(.int (1 : Int32)), (.int (1 : Int32))])) _
              refine XS.icmpNo X52.here hx rfl (hb hby at_60) rfl (teq rfl).2 ?_
              show Steps p.tables e below (T52.setTop (mkF m 63 #[.val (.int p1), .val (.int p2), .val (.int ((p1 &&& (2147483647 : Int32)) % (6 : Int32))), .val (.int (1 : Int32)), .val (.ref (own_ac di dl rt dq dj sa ((p1 &&& (2147483647 : Int32)) % (6 : Int32)))), .val (.ref qs), .val (.ref qs), .unset] [])) _
              refine XS.iconst X52.here hx rfl (hb hby at_63) ?_
              show Steps p.tables e below (T52.setTop (mkF m 64 #[.val (.int p1), .val (.int p2), .val (.int ((p1 &&& (2147483647 : Int32)) % (6 : Int32))), .val (.int (1 : Int32)), .val (.ref (own_ac di dl rt dq dj sa ((p1 &&& (2147483647 : Int32)) % (6 : Int32)))), .val (.ref qs), .val (.ref qs), .unset] [(.int (1 : Int32))])) _
              refine XS.goto X52.here hx rfl (pc0 := 64) (pc' := 68) rfl (hb hby at_64) (by decide) (by decide) ?_
              show Steps p.tables e below (T52.setTop (mkF m 68 #[.val (.int p1), .val (.int p2), .val (.int ((p1 &&& (2147483647 : Int32)) % (6 : Int32))), .val (.int (1 : Int32)), .val (.ref (own_ac di dl rt dq dj sa ((p1 &&& (2147483647 : Int32)) % (6 : Int32)))), .val (.ref qs), .val (.ref qs), .unset] [(.int (1 : Int32))])) _
              refine XS.istore X52.here hx rfl (hb hby at_68) rfl (l' := #[.val (.int p1), .val (.int p2), .val (.int ((p1 &&& (2147483647 : Int32)) % (6 : Int32))), .val (.int (1 : Int32)), .val (.ref (own_ac di dl rt dq dj sa ((p1 &&& (2147483647 : Int32)) % (6 : Int32)))), .val (.ref qs), .val (.ref qs), .val (.int (1 : Int32))]) rfl ?_
              show Steps p.tables e below (T52.setTop (mkF m 70 #[.val (.int p1), .val (.int p2), .val (.int ((p1 &&& (2147483647 : Int32)) % (6 : Int32))), .val (.int (1 : Int32)), .val (.ref (own_ac di dl rt dq dj sa ((p1 &&& (2147483647 : Int32)) % (6 : Int32)))), .val (.ref qs), .val (.ref qs), .val (.int (1 : Int32))] [])) _
              refine XS.aload X52.here hx rfl (hb hby at_70) rfl rfl ?_
              show Steps p.tables e below (T52.setTop (mkF m 72 #[.val (.int p1), .val (.int p2), .val (.int ((p1 &&& (2147483647 : Int32)) % (6 : Int32))), .val (.int (1 : Int32)), .val (.ref (own_ac di dl rt dq dj sa ((p1 &&& (2147483647 : Int32)) % (6 : Int32)))), .val (.ref qs), .val (.ref qs), .val (.int (1 : Int32))] [(.ref qs)])) _
              refine XS.aload X52.here hx rfl (hb hby at_72) rfl rfl ?_
              show Steps p.tables e below (T52.setTop (mkF m 74 #[.val (.int p1), .val (.int p2), .val (.int ((p1 &&& (2147483647 : Int32)) % (6 : Int32))), .val (.int (1 : Int32)), .val (.ref (own_ac di dl rt dq dj sa ((p1 &&& (2147483647 : Int32)) % (6 : Int32)))), .val (.ref qs), .val (.ref qs), .val (.int (1 : Int32))] [(.ref qs), (.ref qs)])) _
              refine Jvm.RoadKit.acmp (g := (mkF m 74 #[.val (.int p1), .val (.int p2), .val (.int ((p1 &&& (2147483647 : Int32)) % (6 : Int32))), .val (.int (1 : Int32)), .val (.ref (own_ac di dl rt dq dj sa ((p1 &&& (2147483647 : Int32)) % (6 : Int32)))), .val (.ref qs), .val (.ref qs), .val (.int (1 : Int32))] [(.ref qs), (.ref qs)])) X52 hx rfl rfl rfl (pc0 := 74) (pc' := 77) (same := true) rfl (hb hby at_74) rfl (decide_eq_true (congrArg Value.ref rfl)) (by decide) (by decide) ?_
              show Steps p.tables e below (T52.setTop (mkF m 77 #[.val (.int p1), .val (.int p2), .val (.int ((p1 &&& (2147483647 : Int32)) % (6 : Int32))), .val (.int (1 : Int32)), .val (.ref (own_ac di dl rt dq dj sa ((p1 &&& (2147483647 : Int32)) % (6 : Int32)))), .val (.ref qs), .val (.ref qs), .val (.int (1 : Int32))] [])) _
              refine XS.iload X52.here hx rfl (hb hby at_77) rfl ?_
              show Steps p.tables e below (T52.setTop (mkF m 79 #[.val (.int p1), .val (.int p2), .val (.int ((p1 &&& (2147483647 : Int32)) % (6 : Int32))), .val (.int (1 : Int32)), .val (.ref (own_ac di dl rt dq dj sa ((p1 &&& (2147483647 : Int32)) % (6 : Int32)))), .val (.ref qs), .val (.ref qs), .val (.int (1 : Int32))] [(.int (1 : Int32))])) _
              refine XS.ifNo X52.here hx rfl (hb hby at_79) rfl ((if0 _ _).trans (feq (by decide)).1) ?_
              show Steps p.tables e below (T52.setTop (mkF m 82 #[.val (.int p1), .val (.int p2), .val (.int ((p1 &&& (2147483647 : Int32)) % (6 : Int32))), .val (.int (1 : Int32)), .val (.ref (own_ac di dl rt dq dj sa ((p1 &&& (2147483647 : Int32)) % (6 : Int32)))), .val (.ref qs), .val (.ref qs), .val (.int (1 : Int32))] [])) _
              refine XS.iconst X52.here hx rfl (hb hby at_82) ?_
              show Steps p.tables e below (T52.setTop (mkF m 83 #[.val (.int p1), .val (.int p2), .val (.int ((p1 &&& (2147483647 : Int32)) % (6 : Int32))), .val (.int (1 : Int32)), .val (.ref (own_ac di dl rt dq dj sa ((p1 &&& (2147483647 : Int32)) % (6 : Int32)))), .val (.ref qs), .val (.ref qs), .val (.int (1 : Int32))] [(.int (1 : Int32))])) _
              refine XS.goto X52.here hx rfl (pc0 := 83) (pc' := 87) rfl (hb hby at_83) (by decide) (by decide) ?_
              exact kt
            obtain ⟨fs, hr, hrun, hended, hW, hsame⟩ := X52.leave (v := some (.int (1 : Int32))) (fun h => by rw [Bd.returns] at h; cases h)
            exact ⟨_, _, retN X52 hx (t := .boolean) Bd.returns (by simp) (hb hby at_87) hr, hrun, hended, _, _, rfl, ⟨rfl, N52⟩, ⟨_, rfl⟩, hW, hsame.mono (by decide) (by decide)⟩
          · by_cases hk4 : ((p1 &&& (2147483647 : Int32)) % (6 : Int32)) = (4 : Int32)
            · obtain ⟨_, _, ⟨T53, L53, k53, n53⟩, -, X53, ⟨Lc53, hQ53, l53, y53, z53⟩, st53⟩ := Jvm.LawKit.callS X0 hx (y := (⟨"com/example/tardy_post/tardypost/UndeliverableActionUmaStatusPinLaw", "action", "(I)Lcom/example/tardy_post/tardypost/UndeliverableAction;"⟩ : MethodName)) hown (mvT hZ (hw _ (List.mem_of_getElem? (i := 1) rfl))) (mvT hZ (hw _ (List.mem_of_getElem? (i := 2) rfl))) (mvT hZ (hw _ (List.mem_of_getElem? (i := 3) rfl))) (mvT hZ (hw _ (List.mem_of_getElem? (i := 4) rfl))) (by decide) (backOf (W := 0) (rm1 l Z a0 hw [] ((p1 &&& (2147483647 : Int32)) % (6 : Int32)) di dl rt dq dj sa h0 n0 Z0 S_DISC S_DISCL S_RTS S_DLQ S_DLJ S_SAF) hZ (hw _ (List.mem_of_getElem? (i := 4) rfl)) (hw _ (List.mem_of_getElem? (i := 3) rfl)) (by decide) (by decide)) (g := (mkF m 21 #[.val (.int p1), .val (.int p2), .val (.int ((p1 &&& (2147483647 : Int32)) % (6 : Int32))), .val (.int (1 : Int32)), .unset, .unset, .unset, .unset] [(.int ((p1 &&& (2147483647 : Int32)) % (6 : Int32)))])) rfl (by rw [hml]; rfl) (argsL := [(.int ((p1 &&& (2147483647 : Int32)) % (6 : Int32)))]) (rest := []) (lenOf pd_0 rfl) rfl (by show 2 * 0 + _ ≤ _; exact Nat.le_of_eq rfl) (hb hby at_21) (fun _ _ => ⟨rfl, e0, (by decide : 0 + 0 ≤ _), (by decide : 0 + 0 ≤ _)⟩)
              dsimp only [Pt.U, Pt.locs, Pt.cells, Pt.slots] at X53 l53 y53 z53 st53 hQ53
              subst l53 y53 z53
              obtain ⟨rfl, N53q, e53⟩ := hQ53
              have N53 := Fr.app N0 N53q
              refine Ends.of st53 ?_
              refine Ends.of (F' := T53.setTop (mkF m 28 #[.val (.int p1), .val (.int p2), .val (.int ((p1 &&& (2147483647 : Int32)) % (6 : Int32))), .val (.int (1 : Int32)), .val (.ref (own_ac di dl rt dq dj sa ((p1 &&& (2147483647 : Int32)) % (6 : Int32)))), .unset, .unset, .unset] [(.int (1 : Int32)), (.int ((p1 &&& (2147483647 : Int32)) % (6 : Int32)))])) (fun _ kt => ?_) ?_
              · show Steps p.tables e below (T53.setTop (mkF m 24 #[.val (.int p1), .val (.int p2), .val (.int ((p1 &&& (2147483647 : Int32)) % (6 : Int32))), .val (.int (1 : Int32)), .unset, .unset, .unset, .unset] [(.ref (own_ac di dl rt dq dj sa ((p1 &&& (2147483647 : Int32)) % (6 : Int32))))])) _
                refine XS.astore X53.here hx rfl (hb hby at_24) rfl rfl (l' := #[.val (.int p1), .val (.int p2), .val (.int ((p1 &&& (2147483647 : Int32)) % (6 : Int32))), .val (.int (1 : Int32)), .val (.ref (own_ac di dl rt dq dj sa ((p1 &&& (2147483647 : Int32)) % (6 : Int32)))), .unset, .unset, .unset]) rfl ?_
                show Steps p.tables e below (T53.setTop (mkF m 26 #[.val (.int p1), .val (.int p2), .val (.int ((p1 &&& (2147483647 : Int32)) % (6 : Int32))), .val (.int (1 : Int32)), .val (.ref (own_ac di dl rt dq dj sa ((p1 &&& (2147483647 : Int32)) % (6 : Int32)))), .unset, .unset, .unset] [])) _
                refine XS.iloadN X53.here hx rfl (hb hby at_26) rfl ?_
                show Steps p.tables e below (T53.setTop (mkF m 27 #[.val (.int p1), .val (.int p2), .val (.int ((p1 &&& (2147483647 : Int32)) % (6 : Int32))), .val (.int (1 : Int32)), .val (.ref (own_ac di dl rt dq dj sa ((p1 &&& (2147483647 : Int32)) % (6 : Int32)))), .unset, .unset, .unset] [(.int ((p1 &&& (2147483647 : Int32)) % (6 : Int32)))])) _
                refine XS.iloadN X53.here hx rfl (hb hby at_27) rfl ?_
                exact kt
              obtain ⟨_, _, ⟨T54, L54, k54, n54⟩, -, X54, ⟨Lc54, hQ54, l54, y54, z54⟩, st54⟩ := Jvm.LawKit.callS X53 hx (y := (⟨"com/example/tardy_post/tardypost/UndeliverableActionUmaStatusPinLaw", "expected", "(IZ)Lcom/example/tardy_post/tardypost/UmaStatus;"⟩ : MethodName)) hown (mvT hZ (hw _ (List.mem_of_getElem? (i := 8) rfl))) (mvT hZ (hw _ (List.mem_of_getElem? (i := 9) rfl))) (mvT hZ (hw _ (List.mem_of_getElem? (i := 3) rfl))) (mvT hZ (hw _ (List.mem_of_getElem? (i := 10) rfl))) (by decide) (backOf (W := 0) (rm2 l Z a0 hw [] ((p1 &&& (2147483647 : Int32)) % (6 : Int32)) (1 : Int32) ds ls rs rf qs qf .null h0 n0 Z0 S_DISC_SUCCESS S_DISCL_SUCCESS S_RTS_SUCCESS S_RTS_FAIL S_DLQ_SUCCESS S_DLQ_FAILED (by rw [own_ex, if_neg hk0, if_neg hk1, if_neg hk2, if_neg hk3])) hZ (hw _ (List.mem_of_getElem? (i := 10) rfl)) (hw _ (List.mem_of_getElem? (i := 3) rfl)) (by decide) (by decide)) (g := (mkF m 28 #[.val (.int p1), .val (.int p2), .val (.int ((p1 &&& (2147483647 : Int32)) % (6 : Int32))), .val (.int (1 : Int32)), .val (.ref (own_ac di dl rt dq dj sa ((p1 &&& (2147483647 : Int32)) % (6 : Int32)))), .unset, .unset, .unset] [(.int (1 : Int32)), (.int ((p1 &&& (2147483647 : Int32)) % (6 : Int32)))])) rfl (by rw [hml]; rfl) (argsL := [(.int ((p1 &&& (2147483647 : Int32)) % (6 : Int32))), (.int (1 : Int32))]) (rest := []) (lenOf pd_1 rfl) rfl (by show 2 * 0 + _ ≤ _; exact Nat.le_of_eq rfl) (hb hby at_28) (fun _ _ => ⟨rfl, e53, (by decide : 0 + 0 ≤ _), (by decide : 0 + 0 ≤ _)⟩)
              dsimp only [Pt.U, Pt.locs, Pt.cells, Pt.slots] at X54 l54 y54 z54 st54 hQ54
              subst l54 y54 z54
              obtain ⟨rfl, N54q, e54⟩ := hQ54
              have N54 := Fr.app N53 N54q
              refine Ends.of st54 ?_
              have hs : (own_ac di dl rt dq dj sa ((p1 &&& (2147483647 : Int32)) % (6 : Int32))) = dj := by rw [own_ac, if_neg hk0, if_neg hk1, if_neg hk2, if_neg hk3, if_pos hk4]
              have Ex : Exa Z h0 (own_ac di dl rt dq dj sa ((p1 &&& (2147483647 : Int32)) % (6 : Int32))) "com/example/tardy_post/tardypost/UndeliverableAction" := by rw [hs]; exact E_DLJ
              have Dx : Fld Z h0 (own_ac di dl rt dq dj sa ((p1 &&& (2147483647 : Int32)) % (6 : Int32))) "com/example/tardy_post/tardypost/UndeliverableAction" "done" "Lcom/example/tardy_post/tardypost/UmaStatus;" .null := by rw [hs]; exact D_DLJ
              have Gx : Fld Z h0 (own_ac di dl rt dq dj sa ((p1 &&& (2147483647 : Int32)) % (6 : Int32))) "com/example/tardy_post/tardypost/UndeliverableAction" "failed" "Lcom/example/tardy_post/tardypost/UmaStatus;" .null := by rw [hs]; exact G_DLJ
              refine Ends.of (F' := T54.setTop (mkF m 36 #[.val (.int p1), .val (.int p2), .val (.int ((p1 &&& (2147483647 : Int32)) % (6 : Int32))), .val (.int (1 : Int32)), .val (.ref (own_ac di dl rt dq dj sa ((p1 &&& (2147483647 : Int32)) % (6 : Int32)))), .val .null, .unset, .unset] [(.int (1 : Int32)), (.ref (own_ac di dl rt dq dj sa ((p1 &&& (2147483647 : Int32)) % (6 : Int32))))])) (fun _ kt => ?_) ?_
              · show Steps p.tables e below (T54.setTop (mkF m 31 #[.val (.int p1), .val (.int p2), .val (.int ((p1 &&& (2147483647 : Int32)) % (6 : Int32))), .val (.int (1 : Int32)), .val (.ref (own_ac di dl rt dq dj sa ((p1 &&& (2147483647 : Int32)) % (6 : Int32)))), .unset, .unset, .unset] [.null])) _
                refine XS.astore X54.here hx rfl (hb hby at_31) rfl rfl (l' := #[.val (.int p1), .val (.int p2), .val (.int ((p1 &&& (2147483647 : Int32)) % (6 : Int32))), .val (.int (1 : Int32)), .val (.ref (own_ac di dl rt dq dj sa ((p1 &&& (2147483647 : Int32)) % (6 : Int32)))), .val .null, .unset, .unset]) rfl ?_
                show Steps p.tables e below (T54.setTop (mkF m 33 #[.val (.int p1), .val (.int p2), .val (.int ((p1 &&& (2147483647 : Int32)) % (6 : Int32))), .val (.int (1 : Int32)), .val (.ref (own_ac di dl rt dq dj sa ((p1 &&& (2147483647 : Int32)) % (6 : Int32)))), .val .null, .unset, .unset] [])) _
                refine XS.aload X54.here hx rfl (hb hby at_33) rfl rfl ?_
                show Steps p.tables e below (T54.setTop (mkF m 35 #[.val (.int p1), .val (.int p2), .val (.int ((p1 &&& (2147483647 : Int32)) % (6 : Int32))), .val (.int (1 : Int32)), .val (.ref (own_ac di dl rt dq dj sa ((p1 &&& (2147483647 : Int32)) % (6 : Int32)))), .val .null, .unset, .unset] [(.ref (own_ac di dl rt dq dj sa ((p1 &&& (2147483647 : Int32)) % (6 : Int32))))])) _
                refine XS.iloadN X54.here hx rfl (hb hby at_35) rfl ?_
                exact kt
              obtain ⟨cq55, kq55, q55a, q55b, q55c⟩ := isOf hZ e54 Ex
              obtain ⟨_, _, ⟨T55, L55, k55, n55⟩, -, X55, ⟨Lc55, hQ55, l55, y55, z55⟩, st55⟩ := X54.virtualBack hx (y := (⟨"com/example/tardy_post/tardypost/UndeliverableAction", "umaStatus", "(Z)Lcom/example/tardy_post/tardypost/UmaStatus;"⟩ : MethodName)) (z := (⟨"com/example/tardy_post/tardypost/UndeliverableAction", "umaStatus", "(Z)Lcom/example/tardy_post/tardypost/UmaStatus;"⟩ : MethodName)) hown (mvT hZ (hw _ (List.mem_of_getElem? (i := 14) rfl))) (mvT hZ (hw _ (List.mem_of_getElem? (i := 15) rfl))) (notFace_of_selects (args := #[]) (mvT hZ (hw _ (List.mem_of_getElem? (i := 17) rfl)))) (mvT hZ (hw _ (List.mem_of_getElem? (i := 17) rfl))) (mvT hZ (hw _ (List.mem_of_getElem? (i := 16) rfl))) (by decide) (backOf (W := 0) (uma_11 l Z a0 hw [] (own_ac di dl rt dq dj sa ((p1 &&& (2147483647 : Int32)) % (6 : Int32))) di h0 n0 Z0 Dx) hZ (hw _ (List.mem_of_getElem? (i := 18) rfl)) (hw _ (List.mem_of_getElem? (i := 6) rfl)) (by decide) (by decide)) q55a q55c (g := (mkF m 36 #[.val (.int p1), .val (.int p2), .val (.int ((p1 &&& (2147483647 : Int32)) % (6 : Int32))), .val (.int (1 : Int32)), .val (.ref (own_ac di dl rt dq dj sa ((p1 &&& (2147483647 : Int32)) % (6 : Int32)))), .val .null, .unset, .unset] [(.int (1 : Int32)), (.ref (own_ac di dl rt dq dj sa ((p1 &&& (2147483647 : Int32)) % (6 : Int32))))])) rfl (by rw [hml]; rfl) (Steps.refl _) (argsL := [(.int (1 : Int32))]) (rest := []) (lenOf pd_2 rfl) rfl (by show 2 * 0 + _ ≤ _; exact Nat.le_of_eq rfl) (hb hby at_36) (fun _ _ => ⟨rfl, e54, (by decide : 0 + 0 ≤ _), (by decide : 0 + 0 ≤ _)⟩)
              dsimp only [Pt.U, Pt.locs, Pt.cells, Pt.slots] at X55 l55 y55 z55 st55 hQ55
              subst l55 y55 z55
              obtain ⟨rfl, N55q, e55⟩ := hQ55
              have N55 := Fr.app N54 N55q
              refine Ends.st st55 ?_
              refine Ends.of (F' := T55.setTop (mkF m 57 #[.val (.int p1), .val (.int p2), .val (.int ((p1 &&& (2147483647 : Int32)) % (6 : Int32))), .val (.int (1 : Int32)), .val (.ref (own_ac di dl rt dq dj sa ((p1 &&& (2147483647 : Int32)) % (6 : Int32)))), .val .null, .val .null, .unset] [(.ref (own_ac di dl rt dq dj sa ((p1 &&& (2147483647 : Int32)) % (6 : Int32)))), (.int (0 : Int32))])) (fun _ kt => ?_) ?_
              · show Steps p.tables e below (T55.setTop (mkF m 39 #[.val (.int p1), .val (.int p2), .val (.int ((p1 &&& (2147483647 : Int32)) % (6 : Int32))), .val (.int (1 : Int32)), .val (.ref (own_ac di dl rt dq dj sa ((p1 &&& (2147483647 : Int32)) % (6 : Int32)))), .val .null, .unset, .unset] [.null])) _
                refine XS.astore X55.here hx rfl (hb hby at_39) rfl rfl (l' := #[.val (.int p1), .val (.int p2), .val (.int ((p1 &&& (2147483647 : Int32)) % (6 : Int32))), .val (.int (1 : Int32)), .val (.ref (own_ac di dl rt dq dj sa ((p1 &&& (2147483647 : Int32)) % (6 : Int32)))), .val .null, .val .null, .unset]) rfl ?_
                show Steps p.tables e below (T55.setTop (mkF m 41 #[.val (.int p1), .val (.int p2), .val (.int ((p1 &&& (2147483647 : Int32)) % (6 : Int32))), .val (.int (1 : Int32)), .val (.ref (own_ac di dl rt dq dj sa ((p1 &&& (2147483647 : Int32)) % (6 : Int32)))), .val .null, .val .null, .unset] [])) _
                refine XS.iloadN X55.here hx rfl (hb hby at_41) rfl ?_
                show Steps p.tables e below (T55.setTop (mkF m 42 #[.val (.int p1), .val (.int p2), .val (.int ((p1 &&& (2147483647 : Int32)) % (6 : Int32))), .val (.int (1 : Int32)), .val (.ref (own_ac di dl rt dq dj sa ((p1 &&& (2147483647 : Int32)) % (6 : Int32)))), .val .null, .val .null, .unset] [(.int (1 : Int32))])) _
                refine XS.ifNo X55.here hx rfl (hb hby at_42) rfl ((if0 _ _).trans (feq (by decide)).1) ?_
                show Steps p.tables e below (T55.setTop (mkF m 45 #[.val (.int p1), .val (.int p2), .val (.int ((p1 &&& (2147483647 : Int32)) % (6 : Int32))), .val (.int (1 : Int32)), .val (.ref (own_ac di dl rt dq dj sa ((p1 &&& (2147483647 : Int32)) % (6 : Int32)))), .val .null, .val .null, .unset] [])) _
                refine XS.aload X55.here hx rfl (hb hby at_45) rfl rfl ?_
                show Steps p.tables e below (T55.setTop (mkF m 47 #[.val (.int p1), .val (.int p2), .val (.int ((p1 &&& (2147483647 : Int32)) % (6 : Int32))), .val (.int (1 : Int32)), .val (.ref (own_ac di dl rt dq dj sa ((p1 &&& (2147483647 : Int32)) % (6 : Int32)))), .val .null, .val .null, .unset] [.null])) _
                refine XS.ifnullYes X55.here hx rfl (pc0 := 47) (pc' := 54) rfl (hb hby at_47) rfl (by decide) (by decide) ?_
                show Steps p.tables e below (T55.setTop (mkF m 54 #[.val (.int p1), .val (.int p2), .val (.int ((p1 &&& (2147483647 : Int32)) % (6 : Int32))), .val (.int (1 : Int32)), .val (.ref (own_ac di dl rt dq dj sa ((p1 &&& (2147483647 : Int32)) % (6 : Int32)))), .val .null, .val .null, .unset] [])) _
                refine XS.iconst X55.here hx rfl (hb hby at_54) ?_
                show Steps p.tables e below (T55.setTop (mkF m 55 #[.val (.int p1), .val (.int p2), .val (.int ((p1 &&& (2147483647 : Int32)) % (6 : Int32))), .val (.int (1 : Int32)), .val (.ref (own_ac di dl rt dq dj sa ((p1 &&& (2147483647 : Int32)) % (6 : Int32)))), .val .null, .val .null, .unset] [(.int (0 : Int32))])) _
                refine XS.aload X55.here hx rfl (hb hby at_55) rfl rfl ?_
                exact kt
              obtain ⟨cq56, kq56, q56a, q56b, q56c⟩ := isOf hZ e55 Ex
              obtain ⟨_, _, ⟨T56, L56, k56, n56⟩, -, X56, ⟨Lc56, hQ56, l56, y56, z56⟩, st56⟩ := X55.virtualBack hx (y := (⟨"com/example/tardy_post/tardypost/UndeliverableAction", "isOffered", "()Z"⟩ : MethodName)) (z := (⟨"com/example/tardy_post/tardypost/UndeliverableAction", "isOffered", "()Z"⟩ : MethodName)) hown (mvT hZ (hw _ (List.mem_of_getElem? (i := 21) rfl))) (mvT hZ (hw _ (List.mem_of_getElem? (i := 22) rfl))) (notFace_of_selects (args := #[]) (mvT hZ (hw _ (List.mem_of_getElem? (i := 24) rfl)))) (mvT hZ (hw _ (List.mem_of_getElem? (i := 24) rfl))) (mvT hZ (hw _ (List.mem_of_getElem? (i := 23) rfl))) (by decide) (backOf (W := 1) (off_1 l Z a0 hw [] (own_ac di dl rt dq dj sa ((p1 &&& (2147483647 : Int32)) % (6 : Int32))) di h0 n0 Z0 Dx) hZ (hw _ (List.mem_of_getElem? (i := 25) rfl)) (hw _ (List.mem_of_getElem? (i := 6) rfl)) (by decide) (by decide)) q56a q56c (g := (mkF m 57 #[.val (.int p1), .val (.int p2), .val (.int ((p1 &&& (2147483647 : Int32)) % (6 : Int32))), .val (.int (1 : Int32)), .val (.ref (own_ac di dl rt dq dj sa ((p1 &&& (2147483647 : Int32)) % (6 : Int32)))), .val .null, .val .null, .unset] [(.ref (own_ac di dl rt dq dj sa ((p1 &&& (2147483647 : Int32)) % (6 : Int32)))), (.int (0 : Int32))])) rfl (by rw [hml]; rfl) (Steps.refl _) (argsL := []) (rest := [(.int (0 : Int32))]) (lenOf pd_3 rfl) rfl (by show 2 * 0 + _ ≤ _; exact Nat.le_of_eq rfl) (hb hby at_57) (fun _ _ => ⟨rfl, e55, (by decide : 0 + 0 ≤ _), (by decide : 0 + 0 ≤ _)⟩)
              dsimp only [Pt.U, Pt.locs, Pt.cells, Pt.slots] at X56 l56 y56 z56 st56 hQ56
              subst l56 y56 z56
              obtain ⟨rfl, N56q, e56⟩ := hQ56
              have N56 := Fr.app N55 N56q
              refine Ends.st st56 ?_
              refine Ends.of (F' := T56.setTop (mkF m 87 #[.val (.int p1), .val (.int p2), .val (.int ((p1 &&& (2147483647 : Int32)) % (6 : Int32))), .val (.int (1 : Int32)), .val (.ref (own_ac di dl rt dq dj sa ((p1 &&& (2147483647 : Int32)) % (6 : Int32)))), .val .null, .val .null, .val (.int (1 : Int32))] [(.int (1 : Int32))])) (fun _ kt => ?_) ?_
              · show Steps p.tables e below (T56.setTop (mkF m 60 #[.val (.int p1), .val (.int p2), .val (.int ((p1 &&& (2147483647 : Int32)) % (6 : Int32))), .val (.int (1 : Int32)), .val (.ref (own_ac di dl rt dq dj sa ((p1 &&& (2147483647 : Int32)) % (6 : Int32)))), .val .null, .val .null, .unset] [(.int (0 : Int32)), (.int (0 : Int32))])) _
                refine XS.icmpNo X56.here hx rfl (hb hby at_60) rfl (teq rfl).2 ?_
                show Steps p.tables e below (T56.setTop (mkF m 63 #[.val (.int p1), .val (.int p2), .val (.int ((p1 &&& (2147483647 : Int32)) % (6 : Int32))), .val (.int (1 : Int32)), .val (.ref (own_ac di dl rt dq dj sa ((p1 &&& (2147483647 : Int32)) % (6 : Int32)))), .val .null, .val .null, .unset] [])) _
                refine XS.iconst X56.here hx rfl (hb hby at_63) ?_
                show Steps p.tables e below (T56.setTop (mkF m 64 #[.val (.int p1), .val (.int p2), .val (.int ((p1 &&& (2147483647 : Int32)) % (6 : Int32))), .val (.int (1 : Int32)), .val (.ref (own_ac di dl rt dq dj sa ((p1 &&& (2147483647 : Int32)) % (6 : Int32)))), .val .null, .val .null, .unset] [(.int (1 : Int32))])) _
                refine XS.goto X56.here hx rfl (pc0 := 64) (pc' := 68) rfl (hb hby at_64) (by decide) (by decide) ?_
                show Steps p.tables e below (T56.setTop (mkF m 68 #[.val (.int p1), .val (.int p2), .val (.int ((p1 &&& (2147483647 : Int32)) % (6 : Int32))), .val (.int (1 : Int32)), .val (.ref (own_ac di dl rt dq dj sa ((p1 &&& (2147483647 : Int32)) % (6 : Int32)))), .val .null, .val .null, .unset] [(.int (1 : Int32))])) _
                refine XS.istore X56.here hx rfl (hb hby at_68) rfl (l' := #[.val (.int p1), .val (.int p2), .val (.int ((p1 &&& (2147483647 : Int32)) % (6 : Int32))), .val (.int (1 : Int32)), .val (.ref (own_ac di dl rt dq dj sa ((p1 &&& (2147483647 : Int32)) % (6 : Int32)))), .val .null, .val .null, .val (.int (1 : Int32))]) rfl ?_
                show Steps p.tables e below (T56.setTop (mkF m 70 #[.val (.int p1), .val (.int p2), .val (.int ((p1 &&& (2147483647 : Int32)) % (6 : Int32))), .val (.int (1 : Int32)), .val (.ref (own_ac di dl rt dq dj sa ((p1 &&& (2147483647 : Int32)) % (6 : Int32)))), .val .null, .val .null, .val (.int (1 : Int32))] [])) _
                refine XS.aload X56.here hx rfl (hb hby at_70) rfl rfl ?_
                show Steps p.tables e below (T56.setTop (mkF m 72 #[.val (.int p1), .val (.int p2), .val (.int ((p1 &&& (2147483647 : Int32)) % (6 : Int32))), .val (.int (1 : Int32)), .val (.ref (own_ac di dl rt dq dj sa ((p1 &&& (2147483647 : Int32)) % (6 : Int32)))), .val .null, .val .null, .val (.int (1 : Int32))] [.null])) _
                refine XS.aload X56.here hx rfl (hb hby at_72) rfl rfl ?_
                show Steps p.tables e below (T56.setTop (mkF m 74 #[.val (.int p1), .val (.int p2), .val (.int ((p1 &&& (2147483647 : Int32)) % (6 : Int32))), .val (.int (1 : Int32)), .val (.ref (own_ac di dl rt dq dj sa ((p1 &&& (2147483647 : Int32)) % (6 : Int32)))), .val .null, .val .null, .val (.int (1 : Int32))] [.null, .null])) _
                refine Jvm.RoadKit.acmp (g := (mkF m 74 #[.val (.int p1), .val (.int p2), .val (.int ((p1 &&& (2147483647 : Int32)) % (6 : Int32))), .val (.int (1 : Int32)), .val (.ref (own_ac di dl rt dq dj sa ((p1 &&& (2147483647 : Int32)) % (6 : Int32)))), .val .null, .val .null, .val (.int (1 : Int32))] [.null, .null])) X56 hx rfl rfl rfl (pc0 := 74) (pc' := 77) (same := true) rfl (hb hby at_74) rfl (decide_eq_true rfl) (by decide) (by decide) ?_
                show Steps p.tables e below (T56.setTop (mkF m 77 #[.val (.int p1), .val (.int p2), .val (.int ((p1 &&& (2147483647 : Int32)) % (6 : Int32))), .val (.int (1 : Int32)), .val (.ref (own_ac di dl rt dq dj sa ((p1 &&& (2147483647 : Int32)) % (6 : Int32)))), .val .null, .val .null, .val (.int (1 : Int32))] [])) _
                refine XS.iload X56.here hx rfl (hb hby at_77) rfl ?_
                show Steps p.tables e below (T56.setTop (mkF m 79 #[.val (.int p1), .val (.int p2), .val (.int ((p1 &&& (2147483647 : Int32)) % (6 : Int32))), .val (.int (1 : Int32)), .val (.ref (own_ac di dl rt dq dj sa ((p1 &&& (2147483647 : Int32)) % (6 : Int32)))), .val .null, .val .null, .val (.int (1 : Int32))] [(.int (1 : Int32))])) _
                refine XS.ifNo X56.here hx rfl (hb hby at_79) rfl ((if0 _ _).trans (feq (by decide)).1) ?_
                show Steps p.tables e below (T56.setTop (mkF m 82 #[.val (.int p1), .val (.int p2), .val (.int ((p1 &&& (2147483647 : Int32)) % (6 : Int32))), .val (.int (1 : Int32)), .val (.ref (own_ac di dl rt dq dj sa ((p1 &&& (2147483647 : Int32)) % (6 : Int32)))), .val .null, .val .null, .val (.int (1 : Int32))] [])) _
                refine XS.iconst X56.here hx rfl (hb hby at_82) ?_
                show Steps p.tables e below (T56.setTop (mkF m 83 #[.val (.int p1), .val (.int p2), .val (.int ((p1 &&& (2147483647 : Int32)) % (6 : Int32))), .val (.int (1 : Int32)), .val (.ref (own_ac di dl rt dq dj sa ((p1 &&& (2147483647 : Int32)) % (6 : Int32)))), .val .null, .val .null, .val (.int (1 : Int32))] [(.int (1 : Int32))])) _
                refine XS.goto X56.here hx rfl (pc0 := 83) (pc' := 87) rfl (hb hby at_83) (by decide) (by decide) ?_
                exact kt
              obtain ⟨fs, hr, hrun, hended, hW, hsame⟩ := X56.leave (v := some (.int (1 : Int32))) (fun h => by rw [Bd.returns] at h; cases h)
              exact ⟨_, _, retN X56 hx (t := .boolean) Bd.returns (by simp) (hb hby at_87) hr, hrun, hended, _, _, rfl, ⟨rfl, N56⟩, ⟨_, rfl⟩, hW, hsame.mono (by decide) (by decide)⟩
            · obtain ⟨_, _, ⟨T57, L57, k57, n57⟩, -, X57, ⟨Lc57, hQ57, l57, y57, z57⟩, st57⟩ := Jvm.LawKit.callS X0 hx (y := (⟨"com/example/tardy_post/tardypost/UndeliverableActionUmaStatusPinLaw", "action", "(I)Lcom/example/tardy_post/tardypost/UndeliverableAction;"⟩ : MethodName)) hown (mvT hZ (hw _ (List.mem_of_getElem? (i := 1) rfl))) (mvT hZ (hw _ (List.mem_of_getElem? (i := 2) rfl))) (mvT hZ (hw _ (List.mem_of_getElem? (i := 3) rfl))) (mvT hZ (hw _ (List.mem_of_getElem? (i := 4) rfl))) (by decide) (backOf (W := 0) (rm1 l Z a0 hw [] ((p1 &&& (2147483647 : Int32)) % (6 : Int32)) di dl rt dq dj sa h0 n0 Z0 S_DISC S_DISCL S_RTS S_DLQ S_DLJ S_SAF) hZ (hw _ (List.mem_of_getElem? (i := 4) rfl)) (hw _ (List.mem_of_getElem? (i := 3) rfl)) (by decide) (by decide)) (g := (mkF m 21 #[.val (.int p1), .val (.int p2), .val (.int ((p1 &&& (2147483647 : Int32)) % (6 : Int32))), .val (.int (1 : Int32)), .unset, .unset, .unset, .unset] [(.int ((p1 &&& (2147483647 : Int32)) % (6 : Int32)))])) rfl (by rw [hml]; rfl) (argsL := [(.int ((p1 &&& (2147483647 : Int32)) % (6 : Int32)))]) (rest := []) (lenOf pd_0 rfl) rfl (by show 2 * 0 + _ ≤ _; exact Nat.le_of_eq rfl) (hb hby at_21) (fun _ _ => ⟨rfl, e0, (by decide : 0 + 0 ≤ _), (by decide : 0 + 0 ≤ _)⟩)
              dsimp only [Pt.U, Pt.locs, Pt.cells, Pt.slots] at X57 l57 y57 z57 st57 hQ57
              subst l57 y57 z57
              obtain ⟨rfl, N57q, e57⟩ := hQ57
              have N57 := Fr.app N0 N57q
              refine Ends.of st57 ?_
              refine Ends.of (F' := T57.setTop (mkF m 28 #[.val (.int p1), .val (.int p2), .val (.int ((p1 &&& (2147483647 : Int32)) % (6 : Int32))), .val (.int (1 : Int32)), .val (.ref (own_ac di dl rt dq dj sa ((p1 &&& (2147483647 : Int32)) % (6 : Int32)))), .unset, .unset, .unset] [(.int (1 : Int32)), (.int ((p1 &&& (2147483647 : Int32)) % (6 : Int32)))])) (fun _ kt => ?_) ?_
              · show Steps p.tables e below (T57.setTop (mkF m 24 #[.val (.int p1), .val (.int p2), .val (.int ((p1 &&& (2147483647 : Int32)) % (6 : Int32))), .val (.int (1 : Int32)), .unset, .unset, .unset, .unset] [(.ref (own_ac di dl rt dq dj sa ((p1 &&& (2147483647 : Int32)) % (6 : Int32))))])) _
                refine XS.astore X57.here hx rfl (hb hby at_24) rfl rfl (l' := #[.val (.int p1), .val (.int p2), .val (.int ((p1 &&& (2147483647 : Int32)) % (6 : Int32))), .val (.int (1 : Int32)), .val (.ref (own_ac di dl rt dq dj sa ((p1 &&& (2147483647 : Int32)) % (6 : Int32)))), .unset, .unset, .unset]) rfl ?_
                show Steps p.tables e below (T57.setTop (mkF m 26 #[.val (.int p1), .val (.int p2), .val (.int ((p1 &&& (2147483647 : Int32)) % (6 : Int32))), .val (.int (1 : Int32)), .val (.ref (own_ac di dl rt dq dj sa ((p1 &&& (2147483647 : Int32)) % (6 : Int32)))), .unset, .unset, .unset] [])) _
                refine XS.iloadN X57.here hx rfl (hb hby at_26) rfl ?_
                show Steps p.tables e below (T57.setTop (mkF m 27 #[.val (.int p1), .val (.int p2), .val (.int ((p1 &&& (2147483647 : Int32)) % (6 : Int32))), .val (.int (1 : Int32)), .val (.ref (own_ac di dl rt dq dj sa ((p1 &&& (2147483647 : Int32)) % (6 : Int32)))), .unset, .unset, .unset] [(.int ((p1 &&& (2147483647 : Int32)) % (6 : Int32)))])) _
                refine XS.iloadN X57.here hx rfl (hb hby at_27) rfl ?_
                exact kt
              obtain ⟨_, _, ⟨T58, L58, k58, n58⟩, -, X58, ⟨Lc58, hQ58, l58, y58, z58⟩, st58⟩ := Jvm.LawKit.callS X57 hx (y := (⟨"com/example/tardy_post/tardypost/UndeliverableActionUmaStatusPinLaw", "expected", "(IZ)Lcom/example/tardy_post/tardypost/UmaStatus;"⟩ : MethodName)) hown (mvT hZ (hw _ (List.mem_of_getElem? (i := 8) rfl))) (mvT hZ (hw _ (List.mem_of_getElem? (i := 9) rfl))) (mvT hZ (hw _ (List.mem_of_getElem? (i := 3) rfl))) (mvT hZ (hw _ (List.mem_of_getElem? (i := 10) rfl))) (by decide) (backOf (W := 0) (rm2 l Z a0 hw [] ((p1 &&& (2147483647 : Int32)) % (6 : Int32)) (1 : Int32) ds ls rs rf qs qf .null h0 n0 Z0 S_DISC_SUCCESS S_DISCL_SUCCESS S_RTS_SUCCESS S_RTS_FAIL S_DLQ_SUCCESS S_DLQ_FAILED (by rw [own_ex, if_neg hk0, if_neg hk1, if_neg hk2, if_neg hk3])) hZ (hw _ (List.mem_of_getElem? (i := 10) rfl)) (hw _ (List.mem_of_getElem? (i := 3) rfl)) (by decide) (by decide)) (g := (mkF m 28 #[.val (.int p1), .val (.int p2), .val (.int ((p1 &&& (2147483647 : Int32)) % (6 : Int32))), .val (.int (1 : Int32)), .val (.ref (own_ac di dl rt dq dj sa ((p1 &&& (2147483647 : Int32)) % (6 : Int32)))), .unset, .unset, .unset] [(.int (1 : Int32)), (.int ((p1 &&& (2147483647 : Int32)) % (6 : Int32)))])) rfl (by rw [hml]; rfl) (argsL := [(.int ((p1 &&& (2147483647 : Int32)) % (6 : Int32))), (.int (1 : Int32))]) (rest := []) (lenOf pd_1 rfl) rfl (by show 2 * 0 + _ ≤ _; exact Nat.le_of_eq rfl) (hb hby at_28) (fun _ _ => ⟨rfl, e57, (by decide : 0 + 0 ≤ _), (by decide : 0 + 0 ≤ _)⟩)
              dsimp only [Pt.U, Pt.locs, Pt.cells, Pt.slots] at X58 l58 y58 z58 st58 hQ58
              subst l58 y58 z58
              obtain ⟨rfl, N58q, e58⟩ := hQ58
              have N58 := Fr.app N57 N58q
              refine Ends.of st58 ?_
              have hs : (own_ac di dl rt dq dj sa ((p1 &&& (2147483647 : Int32)) % (6 : Int32))) = sa := by rw [own_ac, if_neg hk0, if_neg hk1, if_neg hk2, if_neg hk3, if_neg hk4]
              have Ex : Exa Z h0 (own_ac di dl rt dq dj sa ((p1 &&& (2147483647 : Int32)) % (6 : Int32))) "com/example/tardy_post/tardypost/UndeliverableAction" := by rw [hs]; exact E_SAF
              have Dx : Fld Z h0 (own_ac di dl rt dq dj sa ((p1 &&& (2147483647 : Int32)) % (6 : Int32))) "com/example/tardy_post/tardypost/UndeliverableAction" "done" "Lcom/example/tardy_post/tardypost/UmaStatus;" .null := by rw [hs]; exact D_SAF
              have Gx : Fld Z h0 (own_ac di dl rt dq dj sa ((p1 &&& (2147483647 : Int32)) % (6 : Int32))) "com/example/tardy_post/tardypost/UndeliverableAction" "failed" "Lcom/example/tardy_post/tardypost/UmaStatus;" .null := by rw [hs]; exact G_SAF
              refine Ends.of (F' := T58.setTop (mkF m 36 #[.val (.int p1), .val (.int p2), .val (.int ((p1 &&& (2147483647 : Int32)) % (6 : Int32))), .val (.int (1 : Int32)), .val (.ref (own_ac di dl rt dq dj sa ((p1 &&& (2147483647 : Int32)) % (6 : Int32)))), .val .null, .unset, .unset] [(.int (1 : Int32)), (.ref (own_ac di dl rt dq dj sa ((p1 &&& (2147483647 : Int32)) % (6 : Int32))))])) (fun _ kt => ?_) ?_
              · show Steps p.tables e below (T58.setTop (mkF m 31 #[.val (.int p1), .val (.int p2), .val (.int ((p1 &&& (2147483647 : Int32)) % (6 : Int32))), .val (.int (1 : Int32)), .val (.ref (own_ac di dl rt dq dj sa ((p1 &&& (2147483647 : Int32)) % (6 : Int32)))), .unset, .unset, .unset] [.null])) _
                refine XS.astore X58.here hx rfl (hb hby at_31) rfl rfl (l' := #[.val (.int p1), .val (.int p2), .val (.int ((p1 &&& (2147483647 : Int32)) % (6 : Int32))), .val (.int (1 : Int32)), .val (.ref (own_ac di dl rt dq dj sa ((p1 &&& (2147483647 : Int32)) % (6 : Int32)))), .val .null, .unset, .unset]) rfl ?_
                show Steps p.tables e below (T58.setTop (mkF m 33 #[.val (.int p1), .val (.int p2), .val (.int ((p1 &&& (2147483647 : Int32)) % (6 : Int32))), .val (.int (1 : Int32)), .val (.ref (own_ac di dl rt dq dj sa ((p1 &&& (2147483647 : Int32)) % (6 : Int32)))), .val .null, .unset, .unset] [])) _
                refine XS.aload X58.here hx rfl (hb hby at_33) rfl rfl ?_
                show Steps p.tables e below (T58.setTop (mkF m 35 #[.val (.int p1), .val (.int p2), .val (.int ((p1 &&& (2147483647 : Int32)) % (6 : Int32))), .val (.int (1 : Int32)), .val (.ref (own_ac di dl rt dq dj sa ((p1 &&& (2147483647 : Int32)) % (6 : Int32)))), .val .null, .unset, .unset] [(.ref (own_ac di dl rt dq dj sa ((p1 &&& (2147483647 : Int32)) % (6 : Int32))))])) _
                refine XS.iloadN X58.here hx rfl (hb hby at_35) rfl ?_
                exact kt
              obtain ⟨cq59, kq59, q59a, q59b, q59c⟩ := isOf hZ e58 Ex
              obtain ⟨_, _, ⟨T59, L59, k59, n59⟩, -, X59, ⟨Lc59, hQ59, l59, y59, z59⟩, st59⟩ := X58.virtualBack hx (y := (⟨"com/example/tardy_post/tardypost/UndeliverableAction", "umaStatus", "(Z)Lcom/example/tardy_post/tardypost/UmaStatus;"⟩ : MethodName)) (z := (⟨"com/example/tardy_post/tardypost/UndeliverableAction", "umaStatus", "(Z)Lcom/example/tardy_post/tardypost/UmaStatus;"⟩ : MethodName)) hown (mvT hZ (hw _ (List.mem_of_getElem? (i := 14) rfl))) (mvT hZ (hw _ (List.mem_of_getElem? (i := 15) rfl))) (notFace_of_selects (args := #[]) (mvT hZ (hw _ (List.mem_of_getElem? (i := 17) rfl)))) (mvT hZ (hw _ (List.mem_of_getElem? (i := 17) rfl))) (mvT hZ (hw _ (List.mem_of_getElem? (i := 16) rfl))) (by decide) (backOf (W := 0) (uma_11 l Z a0 hw [] (own_ac di dl rt dq dj sa ((p1 &&& (2147483647 : Int32)) % (6 : Int32))) di h0 n0 Z0 Dx) hZ (hw _ (List.mem_of_getElem? (i := 18) rfl)) (hw _ (List.mem_of_getElem? (i := 6) rfl)) (by decide) (by decide)) q59a q59c (g := (mkF m 36 #[.val (.int p1), .val (.int p2), .val (.int ((p1 &&& (2147483647 : Int32)) % (6 : Int32))), .val (.int (1 : Int32)), .val (.ref (own_ac di dl rt dq dj sa ((p1 &&& (2147483647 : Int32)) % (6 : Int32)))), .val .null, .unset, .unset] [(.int (1 : Int32)), (.ref (own_ac di dl rt dq dj sa ((p1 &&& (2147483647 : Int32)) % (6 : Int32))))])) rfl (by rw [hml]; rfl) (Steps.refl _) (argsL := [(.int (1 : Int32))]) (rest := []) (lenOf pd_2 rfl) rfl (by show 2 * 0 + _ ≤ _; exact Nat.le_of_eq rfl) (hb hby at_36) (fun _ _ => ⟨rfl, e58, (by decide : 0 + 0 ≤ _), (by decide : 0 + 0 ≤ _)⟩)
              dsimp only [Pt.U, Pt.locs, Pt.cells, Pt.slots] at X59 l59 y59 z59 st59 hQ59
              subst l59 y59 z59
              obtain ⟨rfl, N59q, e59⟩ := hQ59
              have N59 := Fr.app N58 N59q
              refine Ends.st st59 ?_
              refine Ends.of (F' := T59.setTop (mkF m 57 #[.val (.int p1), .val (.int p2), .val (.int ((p1 &&& (2147483647 : Int32)) % (6 : Int32))), .val (.int (1 : Int32)), .val (.ref (own_ac di dl rt dq dj sa ((p1 &&& (2147483647 : Int32)) % (6 : Int32)))), .val .null, .val .null, .unset] [(.ref (own_ac di dl rt dq dj sa ((p1 &&& (2147483647 : Int32)) % (6 : Int32)))), (.int (0 : Int32))])) (fun _ kt => ?_) ?_
              · show Steps p.tables e below (T59.setTop (mkF m 39 #[.val (.int p1), .val (.int p2), .val (.int ((p1 &&& (2147483647 : Int32)) % (6 : Int32))), .val (.int (1 : Int32)), .val (.ref (own_ac di dl rt dq dj sa ((p1 &&& (2147483647 : Int32)) % (6 : Int32)))), .val .null, .unset, .unset] [.null])) _
                refine XS.astore X59.here hx rfl (hb hby at_39) rfl rfl (l' := #[.val (.int p1), .val (.int p2), .val (.int ((p1 &&& (2147483647 : Int32)) % (6 : Int32))), .val (.int (1 : Int32)), .val (.ref (own_ac di dl rt dq dj sa ((p1 &&& (2147483647 : Int32)) % (6 : Int32)))), .val .null, .val .null, .unset]) rfl ?_
                show Steps p.tables e below (T59.setTop (mkF m 41 #[.val (.int p1), .val (.int p2), .val (.int ((p1 &&& (2147483647 : Int32)) % (6 : Int32))), .val (.int (1 : Int32)), .val (.ref (own_ac di dl rt dq dj sa ((p1 &&& (2147483647 : Int32)) % (6 : Int32)))), .val .null, .val .null, .unset] [])) _
                refine XS.iloadN X59.here hx rfl (hb hby at_41) rfl ?_
                show Steps p.tables e below (T59.setTop (mkF m 42 #[.val (.int p1), .val (.int p2), .val (.int ((p1 &&& (2147483647 : Int32)) % (6 : Int32))), .val (.int (1 : Int32)), .val (.ref (own_ac di dl rt dq dj sa ((p1 &&& (2147483647 : Int32)) % (6 : Int32)))), .val .null, .val .null, .unset] [(.int (1 : Int32))])) _
                refine XS.ifNo X59.here hx rfl (hb hby at_42) rfl ((if0 _ _).trans (feq (by decide)).1) ?_
                show Steps p.tables e below (T59.setTop (mkF m 45 #[.val (.int p1), .val (.int p2), .val (.int ((p1 &&& (2147483647 : Int32)) % (6 : Int32))), .val (.int (1 : Int32)), .val (.ref (own_ac di dl rt dq dj sa ((p1 &&& (2147483647 : Int32)) % (6 : Int32)))), .val .null, .val .null, .unset] [])) _
                refine XS.aload X59.here hx rfl (hb hby at_45) rfl rfl ?_
                show Steps p.tables e below (T59.setTop (mkF m 47 #[.val (.int p1), .val (.int p2), .val (.int ((p1 &&& (2147483647 : Int32)) % (6 : Int32))), .val (.int (1 : Int32)), .val (.ref (own_ac di dl rt dq dj sa ((p1 &&& (2147483647 : Int32)) % (6 : Int32)))), .val .null, .val .null, .unset] [.null])) _
                refine XS.ifnullYes X59.here hx rfl (pc0 := 47) (pc' := 54) rfl (hb hby at_47) rfl (by decide) (by decide) ?_
                show Steps p.tables e below (T59.setTop (mkF m 54 #[.val (.int p1), .val (.int p2), .val (.int ((p1 &&& (2147483647 : Int32)) % (6 : Int32))), .val (.int (1 : Int32)), .val (.ref (own_ac di dl rt dq dj sa ((p1 &&& (2147483647 : Int32)) % (6 : Int32)))), .val .null, .val .null, .unset] [])) _
                refine XS.iconst X59.here hx rfl (hb hby at_54) ?_
                show Steps p.tables e below (T59.setTop (mkF m 55 #[.val (.int p1), .val (.int p2), .val (.int ((p1 &&& (2147483647 : Int32)) % (6 : Int32))), .val (.int (1 : Int32)), .val (.ref (own_ac di dl rt dq dj sa ((p1 &&& (2147483647 : Int32)) % (6 : Int32)))), .val .null, .val .null, .unset] [(.int (0 : Int32))])) _
                refine XS.aload X59.here hx rfl (hb hby at_55) rfl rfl ?_
                exact kt
              obtain ⟨cq60, kq60, q60a, q60b, q60c⟩ := isOf hZ e59 Ex
              obtain ⟨_, _, ⟨T60, L60, k60, n60⟩, -, X60, ⟨Lc60, hQ60, l60, y60, z60⟩, st60⟩ := X59.virtualBack hx (y := (⟨"com/example/tardy_post/tardypost/UndeliverableAction", "isOffered", "()Z"⟩ : MethodName)) (z := (⟨"com/example/tardy_post/tardypost/UndeliverableAction", "isOffered", "()Z"⟩ : MethodName)) hown (mvT hZ (hw _ (List.mem_of_getElem? (i := 21) rfl))) (mvT hZ (hw _ (List.mem_of_getElem? (i := 22) rfl))) (notFace_of_selects (args := #[]) (mvT hZ (hw _ (List.mem_of_getElem? (i := 24) rfl)))) (mvT hZ (hw _ (List.mem_of_getElem? (i := 24) rfl))) (mvT hZ (hw _ (List.mem_of_getElem? (i := 23) rfl))) (by decide) (backOf (W := 1) (off_1 l Z a0 hw [] (own_ac di dl rt dq dj sa ((p1 &&& (2147483647 : Int32)) % (6 : Int32))) di h0 n0 Z0 Dx) hZ (hw _ (List.mem_of_getElem? (i := 25) rfl)) (hw _ (List.mem_of_getElem? (i := 6) rfl)) (by decide) (by decide)) q60a q60c (g := (mkF m 57 #[.val (.int p1), .val (.int p2), .val (.int ((p1 &&& (2147483647 : Int32)) % (6 : Int32))), .val (.int (1 : Int32)), .val (.ref (own_ac di dl rt dq dj sa ((p1 &&& (2147483647 : Int32)) % (6 : Int32)))), .val .null, .val .null, .unset] [(.ref (own_ac di dl rt dq dj sa ((p1 &&& (2147483647 : Int32)) % (6 : Int32)))), (.int (0 : Int32))])) rfl (by rw [hml]; rfl) (Steps.refl _) (argsL := []) (rest := [(.int (0 : Int32))]) (lenOf pd_3 rfl) rfl (by show 2 * 0 + _ ≤ _; exact Nat.le_of_eq rfl) (hb hby at_57) (fun _ _ => ⟨rfl, e59, (by decide : 0 + 0 ≤ _), (by decide : 0 + 0 ≤ _)⟩)
              dsimp only [Pt.U, Pt.locs, Pt.cells, Pt.slots] at X60 l60 y60 z60 st60 hQ60
              subst l60 y60 z60
              obtain ⟨rfl, N60q, e60⟩ := hQ60
              have N60 := Fr.app N59 N60q
              refine Ends.st st60 ?_
              refine Ends.of (F' := T60.setTop (mkF m 87 #[.val (.int p1), .val (.int p2), .val (.int ((p1 &&& (2147483647 : Int32)) % (6 : Int32))), .val (.int (1 : Int32)), .val (.ref (own_ac di dl rt dq dj sa ((p1 &&& (2147483647 : Int32)) % (6 : Int32)))), .val .null, .val .null, .val (.int (1 : Int32))] [(.int (1 : Int32))])) (fun _ kt => ?_) ?_
              · show Steps p.tables e below (T60.setTop (mkF m 60 #[.val (.int p1), .val (.int p2), .val (.int ((p1 &&& (2147483647 : Int32)) % (6 : Int32))), .val (.int (1 : Int32)), .val (.ref (own_ac di dl rt dq dj sa ((p1 &&& (2147483647 : Int32)) % (6 : Int32)))), .val .null, .val .null, .unset] [(.int (0 : Int32)), (.int (0 : Int32))])) _
                refine XS.icmpNo X60.here hx rfl (hb hby at_60) rfl (teq rfl).2 ?_
                show Steps p.tables e below (T60.setTop (mkF m 63 #[.val (.int p1), .val (.int p2), .val (.int ((p1 &&& (2147483647 : Int32)) % (6 : Int32))), .val (.int (1 : Int32)), .val (.ref (own_ac di dl rt dq dj sa ((p1 &&& (2147483647 : Int32)) % (6 : Int32)))), .val .null, .val .null, .unset] [])) _
                refine XS.iconst X60.here hx rfl (hb hby at_63) ?_
                show Steps p.tables e below (T60.setTop (mkF m 64 #[.val (.int p1), .val (.int p2), .val (.int ((p1 &&& (2147483647 : Int32)) % (6 : Int32))), .val (.int (1 : Int32)), .val (.ref (own_ac di dl rt dq dj sa ((p1 &&& (2147483647 : Int32)) % (6 : Int32)))), .val .null, .val .null, .unset] [(.int (1 : Int32))])) _
                refine XS.goto X60.here hx rfl (pc0 := 64) (pc' := 68) rfl (hb hby at_64) (by decide) (by decide) ?_
                show Steps p.tables e below (T60.setTop (mkF m 68 #[.val (.int p1), .val (.int p2), .val (.int ((p1 &&& (2147483647 : Int32)) % (6 : Int32))), .val (.int (1 : Int32)), .val (.ref (own_ac di dl rt dq dj sa ((p1 &&& (2147483647 : Int32)) % (6 : Int32)))), .val .null, .val .null, .unset] [(.int (1 : Int32))])) _
                refine XS.istore X60.here hx rfl (hb hby at_68) rfl (l' := #[.val (.int p1), .val (.int p2), .val (.int ((p1 &&& (2147483647 : Int32)) % (6 : Int32))), .val (.int (1 : Int32)), .val (.ref (own_ac di dl rt dq dj sa ((p1 &&& (2147483647 : Int32)) % (6 : Int32)))), .val .null, .val .null, .val (.int (1 : Int32))]) rfl ?_
                show Steps p.tables e below (T60.setTop (mkF m 70 #[.val (.int p1), .val (.int p2), .val (.int ((p1 &&& (2147483647 : Int32)) % (6 : Int32))), .val (.int (1 : Int32)), .val (.ref (own_ac di dl rt dq dj sa ((p1 &&& (2147483647 : Int32)) % (6 : Int32)))), .val .null, .val .null, .val (.int (1 : Int32))] [])) _
                refine XS.aload X60.here hx rfl (hb hby at_70) rfl rfl ?_
                show Steps p.tables e below (T60.setTop (mkF m 72 #[.val (.int p1), .val (.int p2), .val (.int ((p1 &&& (2147483647 : Int32)) % (6 : Int32))), .val (.int (1 : Int32)), .val (.ref (own_ac di dl rt dq dj sa ((p1 &&& (2147483647 : Int32)) % (6 : Int32)))), .val .null, .val .null, .val (.int (1 : Int32))] [.null])) _
                refine XS.aload X60.here hx rfl (hb hby at_72) rfl rfl ?_
                show Steps p.tables e below (T60.setTop (mkF m 74 #[.val (.int p1), .val (.int p2), .val (.int ((p1 &&& (2147483647 : Int32)) % (6 : Int32))), .val (.int (1 : Int32)), .val (.ref (own_ac di dl rt dq dj sa ((p1 &&& (2147483647 : Int32)) % (6 : Int32)))), .val .null, .val .null, .val (.int (1 : Int32))] [.null, .null])) _
                refine Jvm.RoadKit.acmp (g := (mkF m 74 #[.val (.int p1), .val (.int p2), .val (.int ((p1 &&& (2147483647 : Int32)) % (6 : Int32))), .val (.int (1 : Int32)), .val (.ref (own_ac di dl rt dq dj sa ((p1 &&& (2147483647 : Int32)) % (6 : Int32)))), .val .null, .val .null, .val (.int (1 : Int32))] [.null, .null])) X60 hx rfl rfl rfl (pc0 := 74) (pc' := 77) (same := true) rfl (hb hby at_74) rfl (decide_eq_true rfl) (by decide) (by decide) ?_
                show Steps p.tables e below (T60.setTop (mkF m 77 #[.val (.int p1), .val (.int p2), .val (.int ((p1 &&& (2147483647 : Int32)) % (6 : Int32))), .val (.int (1 : Int32)), .val (.ref (own_ac di dl rt dq dj sa ((p1 &&& (2147483647 : Int32)) % (6 : Int32)))), .val .null, .val .null, .val (.int (1 : Int32))] [])) _
                refine XS.iload X60.here hx rfl (hb hby at_77) rfl ?_
                show Steps p.tables e below (T60.setTop (mkF m 79 #[.val (.int p1), .val (.int p2), .val (.int ((p1 &&& (2147483647 : Int32)) % (6 : Int32))), .val (.int (1 : Int32)), .val (.ref (own_ac di dl rt dq dj sa ((p1 &&& (2147483647 : Int32)) % (6 : Int32)))), .val .null, .val .null, .val (.int (1 : Int32))] [(.int (1 : Int32))])) _
                refine XS.ifNo X60.here hx rfl (hb hby at_79) rfl ((if0 _ _).trans (feq (by decide)).1) ?_
                show Steps p.tables e below (T60.setTop (mkF m 82 #[.val (.int p1), .val (.int p2), .val (.int ((p1 &&& (2147483647 : Int32)) % (6 : Int32))), .val (.int (1 : Int32)), .val (.ref (own_ac di dl rt dq dj sa ((p1 &&& (2147483647 : Int32)) % (6 : Int32)))), .val .null, .val .null, .val (.int (1 : Int32))] [])) _
                refine XS.iconst X60.here hx rfl (hb hby at_82) ?_
                show Steps p.tables e below (T60.setTop (mkF m 83 #[.val (.int p1), .val (.int p2), .val (.int ((p1 &&& (2147483647 : Int32)) % (6 : Int32))), .val (.int (1 : Int32)), .val (.ref (own_ac di dl rt dq dj sa ((p1 &&& (2147483647 : Int32)) % (6 : Int32)))), .val .null, .val .null, .val (.int (1 : Int32))] [(.int (1 : Int32))])) _
                refine XS.goto X60.here hx rfl (pc0 := 83) (pc' := 87) rfl (hb hby at_83) (by decide) (by decide) ?_
                exact kt
              obtain ⟨fs, hr, hrun, hended, hW, hsame⟩ := X60.leave (v := some (.int (1 : Int32))) (fun h => by rw [Bd.returns] at h; cases h)
              exact ⟨_, _, retN X60 hx (t := .boolean) Bd.returns (by simp) (hb hby at_87) hr, hrun, hended, _, _, rfl, ⟨rfl, N60⟩, ⟨_, rfl⟩, hW, hsame.mono (by decide) (by decide)⟩
set_option maxRecDepth 65536 in
set_option maxHeartbeats 40000000 in
theorem comes_1 {Post : Tables → Env → Array Value → State → Outcome → State → Prop} (hpost : ∀ tb e args s v u, (limb_1_1.after args s (.returned v) u = true ∧ limb_1_2.after args s (.returned v) u = true ∧ True) → FrameEnd s (.returned v) u (Jvm.fieldLocs frame_1_writes args s ++ Jvm.arrayLocs frame_1_arrays args s ++ Jvm.staticLocs frame_1_statics s) 0 0 → Post tb e args s (.returned v) u) :
    ArmFor flags0 classFile x code maxLocals ret World_1 tables_1 room_1 Calls_1 rest_1 Pre_1 Post := by
  intro l hfl _ _ p e ha hc hk s m args below hf hA hF happ hP
  obtain ⟨hcalls, hrest, hpre⟩ := hP
  obtain ⟨-, -, -, hnamed, -, -, -, hat⟩ := (Spec.applies_iff hf).mp happ
  obtain ⟨hg, hn⟩ := and_e (Cond.before_iff.mp (show (Jvm.Cond.and given_1 narrow_1).before args s = true from hpre))
  obtain ⟨g0, gt0⟩ := and_e hg
  obtain ⟨gv0, gt1⟩ := and_e gt0
  obtain ⟨w0, w1, rfl⟩ : ∃ w0 w1 : Value, args = #[w0, w1] := by
    have hs : args.size = 2 := by simpa [Cond.value, given_1] using g0
    obtain ⟨L⟩ := args
    match L, hs with
    | [w0, w1], _ => exact ⟨w0, w1, rfl⟩
  have hw := fun d (hd : d ∈ tables_1) => atoms_spec (ws := Jvm.Cond.code x code maxLocals ret :: tables_1) hat d (List.mem_cons_of_mem _ hd)
  have hfit : Fit s := fun {y c} hc i hi => by
    obtain ⟨ha, rfl⟩ := Array.getElem?_eq_some_iff.mp hc
    have q := List.all_eq_true.mp ((Array.all_eq_true_iff_forall_mem.mp hF) _ (Array.getElem_mem ha)) i (List.mem_range.mpr hi)
    simpa [Array.getElem?_eq_getElem hi] using q
  obtain ⟨i0, ei0⟩ := is_v gv0
  obtain rfl : w0 = (.int i0) := Option.some.inj ei0
  obtain ⟨i1, ei1⟩ := is_v gt1
  obtain rfl : w1 = (.int i1) := Option.some.inj ei1
  obtain ⟨n0, nt0⟩ := and_e hn
  obtain ⟨n1, nt1⟩ := and_e nt0
  obtain ⟨n2, nt2⟩ := and_e nt1
  obtain ⟨n3, nt3⟩ := and_e nt2
  obtain ⟨n4, nt4⟩ := and_e nt3
  obtain ⟨n5, nt5⟩ := and_e nt4
  obtain ⟨n6, nt6⟩ := and_e nt5
  obtain ⟨n7, nt7⟩ := and_e nt6
  obtain ⟨n8, nt8⟩ := and_e nt7
  obtain ⟨n9, nt9⟩ := and_e nt8
  obtain ⟨n10, nt10⟩ := and_e nt9
  obtain ⟨n11, nt11⟩ := and_e nt10
  obtain ⟨n12, nt12⟩ := and_e nt11
  obtain ⟨n13, nt13⟩ := and_e nt12
  obtain ⟨n14, nt14⟩ := and_e nt13
  obtain ⟨n15, nt15⟩ := and_e nt14
  obtain ⟨n16, nt16⟩ := and_e nt15
  obtain ⟨n17, nt17⟩ := and_e nt16
  obtain ⟨n18, nt18⟩ := and_e nt17
  obtain ⟨n19, nt19⟩ := and_e nt18
  obtain ⟨n20, nt20⟩ := and_e nt19
  obtain ⟨n21, nt21⟩ := and_e nt20
  obtain ⟨n22, nt22⟩ := and_e nt21
  have n23 := nt22
  obtain ⟨s_DISC, ev_DISC⟩ := exa_v n0
  have S_DISC := Sta.start ev_DISC (Or.inr ⟨(hw _ (List.mem_of_getElem? (i := 6) rfl)), (hw _ (List.mem_of_getElem? (i := 7) rfl))⟩)
  have E_DISC := Exa.start ev_DISC n0
  obtain ⟨s_DISC_SUCCESS, ev_DISC_SUCCESS⟩ := exa_v n1
  have S_DISC_SUCCESS := Sta.start ev_DISC_SUCCESS (Or.inr ⟨(hw _ (List.mem_of_getElem? (i := 12) rfl)), (hw _ (List.mem_of_getElem? (i := 13) rfl))⟩)
  have E_DISC_SUCCESS := Exa.start ev_DISC_SUCCESS n1
  obtain ⟨s_RTS, ev_RTS⟩ := exa_v n3
  have S_RTS := Sta.start ev_RTS (Or.inr ⟨(hw _ (List.mem_of_getElem? (i := 6) rfl)), (hw _ (List.mem_of_getElem? (i := 27) rfl))⟩)
  have E_RTS := Exa.start ev_RTS n3
  obtain ⟨s_RTS_SUCCESS, ev_RTS_SUCCESS⟩ := exa_v n4
  have S_RTS_SUCCESS := Sta.start ev_RTS_SUCCESS (Or.inr ⟨(hw _ (List.mem_of_getElem? (i := 12) rfl)), (hw _ (List.mem_of_getElem? (i := 29) rfl))⟩)
  have E_RTS_SUCCESS := Exa.start ev_RTS_SUCCESS n4
  obtain ⟨s_RTS_FAIL, ev_RTS_FAIL⟩ := exa_v n6
  have S_RTS_FAIL := Sta.start ev_RTS_FAIL (Or.inr ⟨(hw _ (List.mem_of_getElem? (i := 12) rfl)), (hw _ (List.mem_of_getElem? (i := 31) rfl))⟩)
  have E_RTS_FAIL := Exa.start ev_RTS_FAIL n6
  obtain ⟨s_DLJ, ev_DLJ⟩ := exa_v n8
  have S_DLJ := Sta.start ev_DLJ (Or.inr ⟨(hw _ (List.mem_of_getElem? (i := 6) rfl)), (hw _ (List.mem_of_getElem? (i := 35) rfl))⟩)
  have E_DLJ := Exa.start ev_DLJ n8
  obtain ⟨s_DISCL, ev_DISCL⟩ := exa_v n10
  have S_DISCL := Sta.start ev_DISCL (Or.inr ⟨(hw _ (List.mem_of_getElem? (i := 6) rfl)), (hw _ (List.mem_of_getElem? (i := 37) rfl))⟩)
  have E_DISCL := Exa.start ev_DISCL n10
  obtain ⟨s_DISCL_SUCCESS, ev_DISCL_SUCCESS⟩ := exa_v n11
  have S_DISCL_SUCCESS := Sta.start ev_DISCL_SUCCESS (Or.inr ⟨(hw _ (List.mem_of_getElem? (i := 12) rfl)), (hw _ (List.mem_of_getElem? (i := 39) rfl))⟩)
  have E_DISCL_SUCCESS := Exa.start ev_DISCL_SUCCESS n11
  obtain ⟨s_SAF, ev_SAF⟩ := exa_v n14
  have S_SAF := Sta.start ev_SAF (Or.inr ⟨(hw _ (List.mem_of_getElem? (i := 6) rfl)), (hw _ (List.mem_of_getElem? (i := 41) rfl))⟩)
  have E_SAF := Exa.start ev_SAF n14
  obtain ⟨s_DLQ, ev_DLQ⟩ := exa_v n16
  have S_DLQ := Sta.start ev_DLQ (Or.inr ⟨(hw _ (List.mem_of_getElem? (i := 6) rfl)), (hw _ (List.mem_of_getElem? (i := 43) rfl))⟩)
  have E_DLQ := Exa.start ev_DLQ n16
  obtain ⟨s_DLQ_SUCCESS, ev_DLQ_SUCCESS⟩ := exa_v n17
  have S_DLQ_SUCCESS := Sta.start ev_DLQ_SUCCESS (Or.inr ⟨(hw _ (List.mem_of_getElem? (i := 12) rfl)), (hw _ (List.mem_of_getElem? (i := 45) rfl))⟩)
  have E_DLQ_SUCCESS := Exa.start ev_DLQ_SUCCESS n17
  obtain ⟨s_DLQ_FAILED, ev_DLQ_FAILED⟩ := exa_v n19
  have S_DLQ_FAILED := Sta.start ev_DLQ_FAILED (Or.inr ⟨(hw _ (List.mem_of_getElem? (i := 12) rfl)), (hw _ (List.mem_of_getElem? (i := 47) rfl))⟩)
  have E_DLQ_FAILED := Exa.start ev_DLQ_FAILED n19
  have F_DISC_done := Fld.start ((fld_at ev_DISC).symm.trans (own_eqr n2 ev_DISC_SUCCESS))
  have F_RTS_done := Fld.start ((fld_at ev_RTS).symm.trans (own_eqr n5 ev_RTS_SUCCESS))
  have F_RTS_failed := Fld.start ((fld_at ev_RTS).symm.trans (own_eqr n7 ev_RTS_FAIL))
  have F_DLJ_failed := Fld.start ((fld_at ev_DLJ).symm.trans (null_v n9))
  have F_DISCL_done := Fld.start ((fld_at ev_DISCL).symm.trans (own_eqr n12 ev_DISCL_SUCCESS))
  have F_DISC_failed := Fld.start ((fld_at ev_DISC).symm.trans (null_v n13))
  have F_SAF_failed := Fld.start ((fld_at ev_SAF).symm.trans (null_v n15))
  have F_DLQ_done := Fld.start ((fld_at ev_DLQ).symm.trans (own_eqr n18 ev_DLQ_SUCCESS))
  have F_DLQ_failed := Fld.start ((fld_at ev_DLQ).symm.trans (own_eqr n20 ev_DLQ_FAILED))
  have F_DISCL_failed := Fld.start ((fld_at ev_DISCL).symm.trans (null_v n21))
  have F_DLJ_done := Fld.start ((fld_at ev_DLJ).symm.trans (null_v n22))
  have F_SAF_done := Fld.start ((fld_at ev_SAF).symm.trans (null_v n23))
  obtain ⟨n, o, h1, h2, h3, _, L, rfl, ⟨rfl, N⟩, hq⟩ := rm0 l s _ hw tables_1 i0 i1 s_DISC s_DISCL s_RTS s_DLQ s_DLJ s_SAF s_DISC_SUCCESS s_DISCL_SUCCESS s_RTS_SUCCESS s_RTS_FAIL s_DLQ_SUCCESS s_DLQ_FAILED s.heap s.heap.size (Nat.le_refl _) S_DISC S_DISCL S_RTS S_DLQ S_DLJ S_SAF S_DISC_SUCCESS S_DISCL_SUCCESS S_RTS_SUCCESS S_RTS_FAIL S_DLQ_SUCCESS S_DLQ_FAILED E_DISC E_DISCL E_RTS E_DLQ E_DLJ E_SAF F_DISC_done F_DISCL_done F_RTS_done F_DLQ_done F_DLJ_done F_SAF_done F_DISC_failed F_DISCL_failed F_RTS_failed F_DLQ_failed F_DLJ_failed F_SAF_failed p e ha hc hk s m _ below hf ((Spec.applies_iff_loose hf).mp happ).1 ⟨rfl, State.Warmed39.refl s, rfl⟩ trivial
  refine ⟨n, _, h1, h2, h3, hpost _ _ _ _ _ _ ⟨Cond.after_iff.mpr rfl, Cond.after_iff.mpr (eq_i res_at (Term.int_eval (1)) rfl), trivial⟩ ⟨hq.1, hq.2.1, (hq.2.2.sift fun y hy => Or.inr (N y hy)).mono (by decide) (by decide)⟩⟩
theorem main_1_1 : Claimed_1_1 := comes_1 fun _ _ _ _ _ _ h hF => ⟨h.1, hF⟩
theorem main_1_2 : Claimed_1_2 := comes_1 fun _ _ _ _ _ _ h hF => ⟨h.2.1, hF⟩
end Jvm.Pilot.@@N@@
namespace Jvm.Pilot.@@N@@
open Jvm Jvm.ClassFile Sem Op Lib Jvm.Free Jvm.Stand Jvm.Pilot.@@N@@.Jvm.D
/-! MADE BY PROGRAM (witnessworld.py) out of the Statement's table words and the real class files: 13 classes; the members and pool entries that the words name. The judged class is class 1, her method 1. -/
namespace start1
open Jvm.ClassFile
def u (s : String) : CpInfo := .utf8 (stringToUtf16 s)
/-- a pool by its gaps: so many unusable entries, then the entry; so many at the end -/
def gap : Nat → List CpInfo → List CpInfo
  | 0, r => r
  | n + 1, r => .unusable :: gap n r
def poolList (es : List (Nat × CpInfo)) (last : Nat) : List CpInfo := es.foldr (fun e r => gap e.1 (e.2 :: r)) (gap last [])
def pool (es : List (Nat × CpInfo)) (last : Nat) : Array CpInfo := ⟨poolList es last⟩
def fileOf (pool : Array CpInfo) (this : Nat) (attrs : Array Attribute := #[]) (ms : Array MethodInfo := #[]) (fl : Nat := 33) (sup : Nat := 0) (ifs : Array Nat := #[]) (fds : Array FieldInfo := #[]) : ClassFile where
  minorVersion := 0
  majorVersion := 65
  constantPool := pool
  accessFlags := fl
  thisClass := this
  superClass := sup
  interfaces := ifs
  fields := fds
  methods := ms
  attributes := attrs
def plain (name : String) (sup : Option ClassId) : Class where
  name := name
  kind := .ordinary
  loader := none
  accessFlags := 33
  super := sup
  interfaces := #[]
  cf := none
  fields := #[]
  methods := #[]
  instanceTypes := #[]
  staticTypes := #[]
  resolved := #[]
  callSites := []
  init := .initialized
  statics := none
  mirror := none

def pool0 : Array CpInfo := pool [(5, u "<init>"), (0, u "()V"), (1, .class_ 10), (1, u "java/lang/Object")] 113

def k0m0 : Method := { name := "<init>", desc := "()V", sig := { parameters := [], returnType := none }, accessFlags := 1, code := none }
/-- java/lang/Object -/
def k0 : Class := { plain "java/lang/Object" none with
  accessFlags := 33
  interfaces := #[]
  cf := some (fileOf pool0 8 #[] #[{ accessFlags := 1, nameIndex := 5, descriptorIndex := 6, attributes := #[] }] 33 0 #[] #[])
  fields := #[]
  methods := #[k0m0]
  instanceTypes := #[]
  staticTypes := #[]
  resolved := Array.replicate 124 none
  statics := none }

def pool1 : Array CpInfo := pool [(2, .class_ 4), (1, u "java/lang/Object"), (0, u "<init>"), (0, u "()V"), (0, .integer 2147483647), (0, .methodref 9 10), (0, .class_ 11), (0, .nameAndType 12 13), (0, u "com/example/tardy_post/tardypost/UndeliverableActionUmaStatusPinLaw"), (0, u "action"), (0, u "(I)Lcom/example/tardy_post/tardypost/UndeliverableAction;"), (0, .methodref 9 15), (0, .nameAndType 16 17), (0, u "expected"), (0, u "(IZ)Lcom/example/tardy_post/tardypost/UmaStatus;"), (0, .methodref 19 20), (0, .class_ 21), (0, .nameAndType 22 23), (0, u "com/example/tardy_post/tardypost/UndeliverableAction"), (0, u "umaStatus"), (0, u "(Z)Lcom/example/tardy_post/tardypost/UmaStatus;"), (0, .methodref 19 25), (0, .nameAndType 26 27), (0, u "isOffered"), (0, u "()Z"), (0, .fieldref 19 29), (0, .nameAndType 30 31), (0, u "DISC"), (0, u "Lcom/example/tardy_post/tardypost/UndeliverableAction;"), (0, .fieldref 19 33), (0, .nameAndType 34 31), (0, u "DISCL"), (0, .fieldref 19 36), (0, .nameAndType 37 31), (0, u "RTS"), (0, .fieldref 19 39), (0, .nameAndType 40 31), (0, u "DLQ"), (0, .fieldref 19 42), (0, .nameAndType 43 31), (0, u "DLJ"), (0, .fieldref 19 45), (0, .nameAndType 46 31), (0, u "SAF"), (0, .fieldref 48 49), (0, .class_ 50), (0, .nameAndType 51 52), (0, u "com/example/tardy_post/tardypost/UmaStatus"), (0, u "DISC_SUCCESS"), (0, u "Lcom/example/tardy_post/tardypost/UmaStatus;"), (0, .fieldref 48 54), (0, .nameAndType 55 52), (0, u "DISCL_SUCCESS"), (0, .fieldref 48 57), (0, .nameAndType 58 52), (0, u "RTS_SUCCESS"), (0, .fieldref 48 60), (0, .nameAndType 61 52), (0, u "RTS_FAIL"), (0, .fieldref 48 63), (0, .nameAndType 64 52), (0, u "DLQ_SUCCESS"), (0, .fieldref 48 66), (0, .nameAndType 67 52), (0, u "DLQ_FAILED"), (2, u "law"), (0, u "(II)Z")] 3

def k1m0 : Method := { name := "<init>", desc := "()V", sig := { parameters := [], returnType := none }, accessFlags := 2, code := none }
def k1c1 : Code := { maxStack := 2, maxLocals := 8, code := code, exceptionTable := #[], attributes := #[] }
def k1m1 : Method := { name := "law", desc := "(II)Z", sig := { parameters := [.int, .int], returnType := some .boolean }, accessFlags := 9, code := some k1c1 }
def k1c2 : Code := { maxStack := 2, maxLocals := 1, code := method_3_code, exceptionTable := #[], attributes := #[] }
def k1m2 : Method := { name := "action", desc := "(I)Lcom/example/tardy_post/tardypost/UndeliverableAction;", sig := { parameters := [.int], returnType := some (.object "com/example/tardy_post/tardypost/UndeliverableAction") }, accessFlags := 10, code := some k1c2 }
def k1c3 : Code := { maxStack := 2, maxLocals := 2, code := method_4_code, exceptionTable := #[], attributes := #[] }
def k1m3 : Method := { name := "expected", desc := "(IZ)Lcom/example/tardy_post/tardypost/UmaStatus;", sig := { parameters := [.int, .boolean], returnType := some (.object "com/example/tardy_post/tardypost/UmaStatus") }, accessFlags := 10, code := some k1c3 }
/-- com/example/tardy_post/tardypost/UndeliverableActionUmaStatusPinLaw -/
def k1 : Class := { plain "com/example/tardy_post/tardypost/UndeliverableActionUmaStatusPinLaw" (some 0) with
  accessFlags := 49
  interfaces := #[]
  cf := some (fileOf pool1 9 #[] #[{ accessFlags := 2, nameIndex := 5, descriptorIndex := 6, attributes := #[] }, { accessFlags := 9, nameIndex := 70, descriptorIndex := 71, attributes := #[] }, { accessFlags := 10, nameIndex := 12, descriptorIndex := 13, attributes := #[] }, { accessFlags := 10, nameIndex := 16, descriptorIndex := 17, attributes := #[] }] 49 2 #[] #[])
  fields := #[]
  methods := #[k1m0, k1m1, k1m2, k1m3]
  instanceTypes := #[]
  staticTypes := #[]
  resolved := Array.replicate 75 none
  statics := none }

def pool2 : Array CpInfo := pool [(1, .class_ 2), (0, u "java/lang/constant/Constable"), (0, .class_ 4), (0, u "java/lang/Object")] 6

/-- java/lang/constant/Constable -/
def k2 : Class := { plain "java/lang/constant/Constable" (some 0) with
  accessFlags := 1537
  interfaces := #[]
  cf := some (fileOf pool2 1 #[] #[] 1537 3 #[] #[])
  fields := #[]
  methods := #[]
  instanceTypes := #[]
  staticTypes := #[]
  resolved := Array.replicate 11 none
  statics := none }

def pool3 : Array CpInfo := pool [(1, .class_ 2), (0, u "java/lang/Comparable"), (0, .class_ 4), (0, u "java/lang/Object")] 7

/-- java/lang/Comparable -/
def k3 : Class := { plain "java/lang/Comparable" (some 0) with
  accessFlags := 1537
  interfaces := #[]
  cf := some (fileOf pool3 1 #[] #[] 1537 3 #[] #[])
  fields := #[]
  methods := #[]
  instanceTypes := #[]
  staticTypes := #[]
  resolved := Array.replicate 12 none
  statics := none }

def pool4 : Array CpInfo := pool [(1, .class_ 2), (0, u "java/io/Serializable"), (0, .class_ 4), (0, u "java/lang/Object")] 2

/-- java/io/Serializable -/
def k4 : Class := { plain "java/io/Serializable" (some 0) with
  accessFlags := 1537
  interfaces := #[]
  cf := some (fileOf pool4 1 #[] #[] 1537 3 #[] #[])
  fields := #[]
  methods := #[]
  instanceTypes := #[]
  staticTypes := #[]
  resolved := Array.replicate 7 none
  statics := none }

def pool5 : Array CpInfo := pool [(2, .class_ 4), (1, u "java/lang/Enum"), (0, u "name"), (0, u "Ljava/lang/String;"), (2, u "ordinal"), (0, u "I"), (1, .class_ 14), (1, u "java/lang/Object"), (4, u "hash"), (86, .class_ 108), (1, u "java/lang/Enum$EnumDesc"), (2, .class_ 112), (0, u "java/lang/constant/Constable"), (0, .class_ 114), (0, u "java/lang/Comparable"), (0, .class_ 116), (0, u "java/io/Serializable")] 87

/-- java/lang/Enum -/
def k5 : Class := { plain "java/lang/Enum" (some 0) with
  accessFlags := 1057
  interfaces := #[2, 3, 4]
  cf := some (fileOf pool5 2 #[.nestMembers #[106]] #[] 1057 12 #[111, 113, 115] #[{ accessFlags := 18, nameIndex := 5, descriptorIndex := 6, attributes := #[] }, { accessFlags := 18, nameIndex := 9, descriptorIndex := 10, attributes := #[] }, { accessFlags := 2, nameIndex := 19, descriptorIndex := 10, attributes := #[] }])
  fields := #[{ name := "name", type := (.object "java/lang/String"), accessFlags := 18, slot := 0, constantValue := 0 }, { name := "ordinal", type := .int, accessFlags := 18, slot := 1, constantValue := 0 }, { name := "hash", type := .int, accessFlags := 2, slot := 2, constantValue := 0 }]
  methods := #[]
  instanceTypes := #[(.object "java/lang/String"), .int, .int]
  staticTypes := #[]
  resolved := Array.replicate 204 none
  statics := none }

def pool6 : Array CpInfo := pool [(1, .class_ 2), (0, u "com/example/tardy_post/tardypost/UndeliverableAction"), (2, u "DISC"), (0, u "Lcom/example/tardy_post/tardypost/UndeliverableAction;"), (2, u "DISCL"), (2, u "RTS"), (2, u "DLQ"), (2, u "DLJ"), (2, u "SAF"), (2, u "$VALUES"), (0, u "[Lcom/example/tardy_post/tardypost/UndeliverableAction;"), (6, .class_ 34), (1, u "java/lang/Enum"), (6, .fieldref 1 42), (0, .nameAndType 43 44), (0, u "done"), (0, u "Lcom/example/tardy_post/tardypost/UmaStatus;"), (0, .fieldref 1 46), (0, .nameAndType 47 44), (0, u "failed"), (2, u "putsAside"), (0, u "Z"), (12, u "isOffered"), (0, u "()Z"), (89, u "umaStatus"), (0, u "(Z)Lcom/example/tardy_post/tardypost/UmaStatus;")] 28

def k6c0 : Code := { maxStack := 1, maxLocals := 1, code := prog_102_method_4_code, exceptionTable := #[], attributes := #[] }
def k6m0 : Method := { name := "isOffered", desc := "()Z", sig := { parameters := [], returnType := some .boolean }, accessFlags := 0, code := some k6c0 }
def k6c1 : Code := { maxStack := 1, maxLocals := 2, code := prog_102_method_6_code, exceptionTable := #[], attributes := #[] }
def k6m1 : Method := { name := "umaStatus", desc := "(Z)Lcom/example/tardy_post/tardypost/UmaStatus;", sig := { parameters := [.boolean], returnType := some (.object "com/example/tardy_post/tardypost/UmaStatus") }, accessFlags := 0, code := some k6c1 }
/-- com/example/tardy_post/tardypost/UndeliverableAction -/
def k6 : Class := { plain "com/example/tardy_post/tardypost/UndeliverableAction" (some 5) with
  accessFlags := 16432
  interfaces := #[]
  cf := some (fileOf pool6 1 #[] #[{ accessFlags := 0, nameIndex := 64, descriptorIndex := 65, attributes := #[] }, { accessFlags := 0, nameIndex := 155, descriptorIndex := 156, attributes := #[] }] 16432 32 #[] #[{ accessFlags := 16409, nameIndex := 5, descriptorIndex := 6, attributes := #[] }, { accessFlags := 16409, nameIndex := 9, descriptorIndex := 6, attributes := #[] }, { accessFlags := 16409, nameIndex := 12, descriptorIndex := 6, attributes := #[] }, { accessFlags := 16409, nameIndex := 15, descriptorIndex := 6, attributes := #[] }, { accessFlags := 16409, nameIndex := 18, descriptorIndex := 6, attributes := #[] }, { accessFlags := 16409, nameIndex := 21, descriptorIndex := 6, attributes := #[] }, { accessFlags := 18, nameIndex := 43, descriptorIndex := 44, attributes := #[] }, { accessFlags := 18, nameIndex := 47, descriptorIndex := 44, attributes := #[] }, { accessFlags := 18, nameIndex := 50, descriptorIndex := 51, attributes := #[] }, { accessFlags := 4122, nameIndex := 24, descriptorIndex := 25, attributes := #[] }])
  fields := #[{ name := "DISC", type := (.object "com/example/tardy_post/tardypost/UndeliverableAction"), accessFlags := 16409, slot := 0, constantValue := 0 }, { name := "DISCL", type := (.object "com/example/tardy_post/tardypost/UndeliverableAction"), accessFlags := 16409, slot := 1, constantValue := 0 }, { name := "RTS", type := (.object "com/example/tardy_post/tardypost/UndeliverableAction"), accessFlags := 16409, slot := 2, constantValue := 0 }, { name := "DLQ", type := (.object "com/example/tardy_post/tardypost/UndeliverableAction"), accessFlags := 16409, slot := 3, constantValue := 0 }, { name := "DLJ", type := (.object "com/example/tardy_post/tardypost/UndeliverableAction"), accessFlags := 16409, slot := 4, constantValue := 0 }, { name := "SAF", type := (.object "com/example/tardy_post/tardypost/UndeliverableAction"), accessFlags := 16409, slot := 5, constantValue := 0 }, { name := "done", type := (.object "com/example/tardy_post/tardypost/UmaStatus"), accessFlags := 18, slot := 3, constantValue := 0 }, { name := "failed", type := (.object "com/example/tardy_post/tardypost/UmaStatus"), accessFlags := 18, slot := 4, constantValue := 0 }, { name := "putsAside", type := .boolean, accessFlags := 18, slot := 5, constantValue := 0 }, { name := "$VALUES", type := (.array (.object "com/example/tardy_post/tardypost/UndeliverableAction")), accessFlags := 4122, slot := 6, constantValue := 0 }]
  methods := #[k6m0, k6m1]
  instanceTypes := #[(.object "java/lang/String"), .int, .int, (.object "com/example/tardy_post/tardypost/UmaStatus"), (.object "com/example/tardy_post/tardypost/UmaStatus"), .boolean]
  staticTypes := #[(.object "com/example/tardy_post/tardypost/UndeliverableAction"), (.object "com/example/tardy_post/tardypost/UndeliverableAction"), (.object "com/example/tardy_post/tardypost/UndeliverableAction"), (.object "com/example/tardy_post/tardypost/UndeliverableAction"), (.object "com/example/tardy_post/tardypost/UndeliverableAction"), (.object "com/example/tardy_post/tardypost/UndeliverableAction"), (.array (.object "com/example/tardy_post/tardypost/UndeliverableAction"))]
  resolved := Array.replicate 185 none
  statics := some 0 }

def pool7 : Array CpInfo := pool [(1, .class_ 2), (0, u "com/example/tardy_post/tardypost/UmaStatus"), (2, u "UMA_NA"), (0, u "Lcom/example/tardy_post/tardypost/UmaStatus;"), (2, u "NO_UMA"), (2, u "DISC_SUCCESS"), (2, u "DISCL_SUCCESS"), (2, u "RTS_SUCCESS"), (2, u "RTS_FAIL"), (2, u "DLQ_SUCCESS"), (2, u "DLQ_FAILED"), (2, u "$VALUES"), (0, u "[Lcom/example/tardy_post/tardypost/UmaStatus;"), (6, .class_ 40), (1, u "java/lang/Enum")] 30

/-- com/example/tardy_post/tardypost/UmaStatus -/
def k7 : Class := { plain "com/example/tardy_post/tardypost/UmaStatus" (some 5) with
  accessFlags := 16432
  interfaces := #[]
  cf := some (fileOf pool7 1 #[] #[] 16432 38 #[] #[{ accessFlags := 16409, nameIndex := 5, descriptorIndex := 6, attributes := #[] }, { accessFlags := 16409, nameIndex := 9, descriptorIndex := 6, attributes := #[] }, { accessFlags := 16409, nameIndex := 12, descriptorIndex := 6, attributes := #[] }, { accessFlags := 16409, nameIndex := 15, descriptorIndex := 6, attributes := #[] }, { accessFlags := 16409, nameIndex := 18, descriptorIndex := 6, attributes := #[] }, { accessFlags := 16409, nameIndex := 21, descriptorIndex := 6, attributes := #[] }, { accessFlags := 16409, nameIndex := 24, descriptorIndex := 6, attributes := #[] }, { accessFlags := 16409, nameIndex := 27, descriptorIndex := 6, attributes := #[] }, { accessFlags := 4122, nameIndex := 30, descriptorIndex := 31, attributes := #[] }])
  fields := #[{ name := "UMA_NA", type := (.object "com/example/tardy_post/tardypost/UmaStatus"), accessFlags := 16409, slot := 0, constantValue := 0 }, { name := "NO_UMA", type := (.object "com/example/tardy_post/tardypost/UmaStatus"), accessFlags := 16409, slot := 1, constantValue := 0 }, { name := "DISC_SUCCESS", type := (.object "com/example/tardy_post/tardypost/UmaStatus"), accessFlags := 16409, slot := 2, constantValue := 0 }, { name := "DISCL_SUCCESS", type := (.object "com/example/tardy_post/tardypost/UmaStatus"), accessFlags := 16409, slot := 3, constantValue := 0 }, { name := "RTS_SUCCESS", type := (.object "com/example/tardy_post/tardypost/UmaStatus"), accessFlags := 16409, slot := 4, constantValue := 0 }, { name := "RTS_FAIL", type := (.object "com/example/tardy_post/tardypost/UmaStatus"), accessFlags := 16409, slot := 5, constantValue := 0 }, { name := "DLQ_SUCCESS", type := (.object "com/example/tardy_post/tardypost/UmaStatus"), accessFlags := 16409, slot := 6, constantValue := 0 }, { name := "DLQ_FAILED", type := (.object "com/example/tardy_post/tardypost/UmaStatus"), accessFlags := 16409, slot := 7, constantValue := 0 }, { name := "$VALUES", type := (.array (.object "com/example/tardy_post/tardypost/UmaStatus")), accessFlags := 4122, slot := 8, constantValue := 0 }]
  methods := #[]
  instanceTypes := #[(.object "java/lang/String"), .int, .int]
  staticTypes := #[(.object "com/example/tardy_post/tardypost/UmaStatus"), (.object "com/example/tardy_post/tardypost/UmaStatus"), (.object "com/example/tardy_post/tardypost/UmaStatus"), (.object "com/example/tardy_post/tardypost/UmaStatus"), (.object "com/example/tardy_post/tardypost/UmaStatus"), (.object "com/example/tardy_post/tardypost/UmaStatus"), (.object "com/example/tardy_post/tardypost/UmaStatus"), (.object "com/example/tardy_post/tardypost/UmaStatus"), (.array (.object "com/example/tardy_post/tardypost/UmaStatus"))]
  resolved := Array.replicate 71 none
  statics := some 1 }

def pool8 : Array CpInfo := pool [(1, u "java/lang/Cloneable"), (0, .class_ 1), (0, u "java/lang/Object"), (0, .class_ 3)] 3

/-- java/lang/Cloneable -/
def k8 : Class := { plain "java/lang/Cloneable" (some 0) with
  accessFlags := 1537
  interfaces := #[]
  cf := some (fileOf pool8 2 #[] #[] 1537 4 #[] #[])
  fields := #[]
  methods := #[]
  instanceTypes := #[]
  staticTypes := #[]
  resolved := Array.replicate 8 none
  statics := none }

/-- the primitive byte -/
def k9 : Class := { plain "byte" none with kind := .primitive 'B', accessFlags := 0x411 }
/-- [B -/
def k10 : Class := { plain "[B" (some 0) with kind := .array 9 .byte, interfaces := #[8, 4], accessFlags := 1041 }

/-- the primitive int -/
def k11 : Class := { plain "int" none with kind := .primitive 'I', accessFlags := 0x411 }
/-- [I -/
def k12 : Class := { plain "[I" (some 0) with kind := .array 11 .int, interfaces := #[8, 4], accessFlags := 1041 }

def heap : Heap := #[{ cls := 6, slots := #[.ref 8, .ref 9, .ref 10, .ref 11, .ref 12, .ref 13, .null], vm := .statics 6 },
  { cls := 7, slots := #[.null, .null, .ref 2, .ref 3, .ref 4, .ref 5, .ref 6, .ref 7, .null], vm := .statics 7 },
  { cls := 7, slots := #[.null, .int 0, .int 0], vm := .none },
  { cls := 7, slots := #[.null, .int 1, .int 0], vm := .none },
  { cls := 7, slots := #[.null, .int 2, .int 0], vm := .none },
  { cls := 7, slots := #[.null, .int 3, .int 0], vm := .none },
  { cls := 7, slots := #[.null, .int 4, .int 0], vm := .none },
  { cls := 7, slots := #[.null, .int 5, .int 0], vm := .none },
  { cls := 6, slots := #[.null, .int 0, .int 0, .ref 2, .null, .int 0], vm := .none },
  { cls := 6, slots := #[.null, .int 1, .int 0, .ref 3, .null, .int 0], vm := .none },
  { cls := 6, slots := #[.null, .int 2, .int 0, .ref 4, .ref 5, .int 0], vm := .none },
  { cls := 6, slots := #[.null, .int 3, .int 0, .ref 6, .ref 7, .int 0], vm := .none },
  { cls := 6, slots := #[.null, .int 4, .int 0, .null, .null, .int 0], vm := .none },
  { cls := 6, slots := #[.null, .int 5, .int 0, .null, .null, .int 0], vm := .none }]
def classes : Array Class := #[k0, k1, k2, k3, k4, k5, k6, k7, k8, k9, k10, k11, k12]
def interned : List (Array UInt16 × Addr) := []
def slotsUsed : Nat := 70
def theMethod : MethodId := ⟨1, 1⟩
def args0 : Array Value := #[.int 2, .int 1]
def aboutOver (below : List Frame) : State where
  vm := { classes := classes, interned := interned.toArray }
  heap := heap
  slotsUsed := slotsUsed
  threads := #[{ frames := .invoking theMethod args0 :: below }]
def below0 : List Frame := [.native { method := ⟨0, 0⟩, args := #[] }]
def about1 : State := aboutOver below0
def p0 : Program := .bare "" "" ""
def e0 : Env := launch0.env 0 0 0
theorem w_frames : about1.frames = Frame.invoking theMethod args0 :: below0 := rfl
set_option maxRecDepth 65536 in
theorem w_args : argsFit about1.vm theMethod args0 = true := by decide +kernel
set_option maxRecDepth 65536 in
theorem w_heap : heapFits about1 = true := by decide +kernel
set_option maxRecDepth 65536 in
theorem w_runnable : about1.curStatus? = some .runnable := by decide +kernel
set_option maxRecDepth 65536 in
theorem w_alone : about1.alone = true := by decide +kernel
set_option maxRecDepth 65536 in
theorem w_named : about1.methodNamed? x = some theMethod := by decide +kernel
set_option maxRecDepth 65536 in
theorem w_hears : about1.hears theMethod below0 = true := by decide +kernel
set_option maxRecDepth 65536 in
theorem w_ripe : about1.ripe theMethod args0 below0 = true := by decide +kernel
theorem w_running : about1.status = .running := rfl
set_option maxRecDepth 65536 in
theorem w_room : about1.hasRoom e0.platform room_1 = true :=
  launch0.hasRoom_least _ room_1 (by decide +kernel) (by decide +kernel) (by decide +kernel) (by decide +kernel) (by decide +kernel) (by decide +kernel)
theorem allAtoms_all (ts : List Jvm.Cond) (a : Array Jvm.Value) (st : Jvm.State) : (allAtoms ts).before a st = ts.all (fun c => c.before a st) := by
  induction ts with
  | nil => rfl
  | cons c t ih =>
    show (Jvm.Cond.and c (allAtoms t)).before a st = _
    rw [Jvm.Cond.before_and, ih, List.all_cons]
def words1 : List Jvm.Cond := Jvm.Cond.code x code maxLocals ret :: tables_1
/-- a 'code' word, met by the world's own term for the bytes: nothing is compared byte by byte -/
theorem code_word {y : MethodName} {bytes : ByteArray} {mx : Nat} {rt : Option FieldType} {a : Array Value} {s : State} {m : MethodId} {meth : Method} {c : Code} (h1 : s.methodNamed? y = some m) (h2 : s.vm.method? m = some meth) (h3 : meth.code = some c) (h4 : c.code = bytes)
    (h5 : (c.maxLocals == mx && c.exceptionTable.isEmpty && decide (c.maxStack ≤ mostOperands) && decide (meth.sig.returnType = rt) && !meth.locks && decide (parseMethodDescriptor y.desc = some meth.sig)) = true) : (Jvm.Cond.code y bytes mx rt).before a s = true := by
  simp only [Bool.and_eq_true, beq_iff_eq, Bool.not_eq_true', decide_eq_true_eq] at h5
  obtain ⟨⟨⟨⟨⟨g1, g2⟩, g3⟩, g4⟩, g5⟩, g6⟩ := h5
  simp [Cond.before, Cond.holds, Cond.value, h1, h2, h3, h4, g1, g2, g3, g4, g5, g6]
def isCode : Jvm.Cond → Bool
  | .code _ _ _ _ => true
  | _ => false
theorem all_split {L : List Jvm.Cond} {P : Jvm.Cond → Bool} (h1 : L.all (fun c => isCode c || P c) = true) (h2 : ∀ c ∈ L.filter isCode, P c = true) : L.all P = true := by
  refine List.all_eq_true.mpr fun c hc => ?_
  have h := List.all_eq_true.mp h1 c hc
  rcases Bool.eq_false_or_eq_true (isCode c) with hi | hi
  · exact h2 c (List.mem_filter.mpr ⟨hc, hi⟩)
  · simpa [hi] using h
set_option maxRecDepth 65536 in
theorem w_c0 : (Jvm.Cond.code x code maxLocals ret).before args0 about1 = true := code_word (m := ⟨1, 1⟩) (meth := k1m1) (c := k1c1) (by decide +kernel) rfl rfl rfl (by decide +kernel)
set_option maxRecDepth 65536 in
theorem w_c1 : (Jvm.Cond.code ({ cls := "com/example/tardy_post/tardypost/UndeliverableActionUmaStatusPinLaw", name := "action", desc := "(I)Lcom/example/tardy_post/tardypost/UndeliverableAction;" } : Jvm.MethodName) method_3_code (1 : Nat) (Option.some (Jvm.ClassFile.FieldType.object "com/example/tardy_post/tardypost/UndeliverableAction"))).before args0 about1 = true := code_word (m := ⟨1, 2⟩) (meth := k1m2) (c := k1c2) (by decide +kernel) rfl rfl rfl (by decide +kernel)
set_option maxRecDepth 65536 in
theorem w_c2 : (Jvm.Cond.code ({ cls := "com/example/tardy_post/tardypost/UndeliverableActionUmaStatusPinLaw", name := "expected", desc := "(IZ)Lcom/example/tardy_post/tardypost/UmaStatus;" } : Jvm.MethodName) method_4_code (2 : Nat) (Option.some (Jvm.ClassFile.FieldType.object "com/example/tardy_post/tardypost/UmaStatus"))).before args0 about1 = true := code_word (m := ⟨1, 3⟩) (meth := k1m3) (c := k1c3) (by decide +kernel) rfl rfl rfl (by decide +kernel)
set_option maxRecDepth 65536 in
theorem w_c3 : (Jvm.Cond.code ({ cls := "com/example/tardy_post/tardypost/UndeliverableAction", name := "umaStatus", desc := "(Z)Lcom/example/tardy_post/tardypost/UmaStatus;" } : Jvm.MethodName) prog_102_method_6_code (2 : Nat) (Option.some (Jvm.ClassFile.FieldType.object "com/example/tardy_post/tardypost/UmaStatus"))).before args0 about1 = true := code_word (m := ⟨6, 1⟩) (meth := k6m1) (c := k6c1) (by decide +kernel) rfl rfl rfl (by decide +kernel)
set_option maxRecDepth 65536 in
theorem w_c4 : (Jvm.Cond.code ({ cls := "com/example/tardy_post/tardypost/UndeliverableAction", name := "isOffered", desc := "()Z" } : Jvm.MethodName) prog_102_method_4_code (1 : Nat) (Option.some Jvm.ClassFile.FieldType.boolean)).before args0 about1 = true := code_word (m := ⟨6, 0⟩) (meth := k6m0) (c := k6c0) (by decide +kernel) rfl rfl rfl (by decide +kernel)
def codes1 : List Jvm.Cond := [Jvm.Cond.code x code maxLocals ret, Jvm.Cond.code ({ cls := "com/example/tardy_post/tardypost/UndeliverableActionUmaStatusPinLaw", name := "action", desc := "(I)Lcom/example/tardy_post/tardypost/UndeliverableAction;" } : Jvm.MethodName) method_3_code (1 : Nat) (Option.some (Jvm.ClassFile.FieldType.object "com/example/tardy_post/tardypost/UndeliverableAction")), Jvm.Cond.code ({ cls := "com/example/tardy_post/tardypost/UndeliverableActionUmaStatusPinLaw", name := "expected", desc := "(IZ)Lcom/example/tardy_post/tardypost/UmaStatus;" } : Jvm.MethodName) method_4_code (2 : Nat) (Option.some (Jvm.ClassFile.FieldType.object "com/example/tardy_post/tardypost/UmaStatus")), Jvm.Cond.code ({ cls := "com/example/tardy_post/tardypost/UndeliverableAction", name := "umaStatus", desc := "(Z)Lcom/example/tardy_post/tardypost/UmaStatus;" } : Jvm.MethodName) prog_102_method_6_code (2 : Nat) (Option.some (Jvm.ClassFile.FieldType.object "com/example/tardy_post/tardypost/UmaStatus")), Jvm.Cond.code ({ cls := "com/example/tardy_post/tardypost/UndeliverableAction", name := "isOffered", desc := "()Z" } : Jvm.MethodName) prog_102_method_4_code (1 : Nat) (Option.some Jvm.ClassFile.FieldType.boolean)]
set_option maxRecDepth 65536 in
theorem codes_eq : words1.filter isCode = codes1 := rfl
theorem w_codes : ∀ c ∈ words1.filter isCode, c.before args0 about1 = true := by
  rw [codes_eq]
  intro c hc
  simp only [codes1, List.mem_cons, List.not_mem_nil, or_false] at hc
  rcases hc with rfl | rfl | rfl | rfl | rfl
  · exact w_c0
  · exact w_c1
  · exact w_c2
  · exact w_c3
  · exact w_c4
set_option maxRecDepth 65536 in
theorem w_t1 : (words1.take 24).all (fun c => isCode c || c.before args0 about1) = true := by decide +kernel
set_option maxRecDepth 65536 in
theorem w_t2 : ((words1.drop 24).take 24).all (fun c => isCode c || c.before args0 about1) = true := by decide +kernel
set_option maxRecDepth 65536 in
theorem w_t3 : ((words1.drop 24).drop 24).all (fun c => isCode c || c.before args0 about1) = true := by decide +kernel
theorem w_tables : (allAtoms (Jvm.Cond.code x code maxLocals ret :: tables_1)).before args0 about1 = true := by
  rw [allAtoms_all]
  show words1.all (fun c => c.before args0 about1) = true
  refine all_split ?_ w_codes
  rw [← List.take_append_drop 24 words1, List.all_append, w_t1, ← List.take_append_drop 24 (words1.drop 24), List.all_append, w_t2, w_t3]
  rfl
set_option maxRecDepth 65536 in
theorem w_case : (Jvm.Cond.and given_1 narrow_1).before args0 about1 = true := by decide +kernel
theorem w_applies : (headSpec (Jvm.Cond.code x code maxLocals ret :: tables_1) room_1).applies x e0.platform about1 = true :=
  (Spec.applies_iff w_frames).mpr ⟨w_running, w_runnable, w_alone, w_named, w_hears, w_ripe, w_room, w_tables⟩
theorem atStart : AtStart classFile x code maxLocals ret World_1 tables_1 room_1 Calls_1 rest_1 Pre_1 launch0 p0 e0 about1 theMethod args0 below0 :=
  ⟨lists_1, trivial, launch0.admits_env _ _ _, launch0.least_env, fairChoices_fair.cas, fairChoices_fair.clock, w_frames, w_args, w_heap, w_applies, trivial, trivial, w_case⟩
end start1
theorem witness_1 : WitnessClaimed_1 := ⟨start1.p0, start1.e0, start1.about1, start1.theMethod, start1.args0, start1.below0, start1.atStart⟩
end Jvm.Pilot.@@N@@
