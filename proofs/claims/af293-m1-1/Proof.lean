import JvmDerived
import JvmDerived.Pilot.@@N@@Statement
import JvmDerived.Pilot.@@N@@Code
set_option linter.unusedVariables false
set_option linter.unusedSimpArgs false
namespace Jvm.RoadKit
open Sem ClassFile Op Lib Jvm.Stand Jvm.Free Jvm.LawKit
section New
variable {p : Program} {l : Launch} {e : Env} {R : Room} {s : State} {m : MethodId} {args : Array Value} {below : List Frame} {meth : Method} {c : Code} {T : State} {locs : List Loc} {cells slots : Nat}
theorem retI (X : Stand p l e R s m args below meth c T locs cells slots) (hx : p.tables.exec = Jvm.exec) {pc : Nat} {Ls : Array Slot} {z : Int32} {rest : List Value} (hret : meth.sig.returnType = some .int) (hd : decode c.code pc = .ok (.ireturn, 1)) {fs : List Frame}
    (hl : ∀ (f : JFrame) (acts : List Action), f.method = m → f.locked = none → f.entered = [] → (doReturn e (T.setTop f) acts (some (.int z))).1 = T.setFrames fs) : Steps p.tables e below (T.setTop (mkF m pc Ls (.int z :: rest))) (T.setFrames fs) := by
  have hm' : T.vm.method? m = some meth := X.method'
  have hn : narrow .int (.int z) = .int z := rfl
  show Steps p.tables e below (T.setTop { method := m, pc := pc, locals := Ls, stack := _ :: rest, locked := none }) _
  jvm_step X.here [X.here.top, hx, hd, hm', hret, hn]
  first | (intro acts; rw [hl _ acts rfl rfl rfl]) | rw [hl _ _ rfl rfl rfl]
  exact Steps.refl _
end New
end Jvm.RoadKit
namespace Jvm.Pilot.@@N@@
open Jvm Jvm.ClassFile Sem Op Lib Jvm.Free Jvm.Stand Jvm.LawKit Jvm.RoadKit Bundle Jvm.Pilot.@@N@@.Jvm.D
/-- from the state F the walk ends as Q says (what it returns, the heap, the places written) -/
def Ends (p : Program) (e : Env) (below : List Frame) (s : State) (R : Room) (Q : Option Value → Heap → List Loc → Prop) (F : State) : Prop :=
  ∃ t o, Steps p.tables e below F t ∧ t.status = .running ∧ Ended t below o ∧ ∃ v L, o = .returned v ∧ Q v t.heap L ∧ FrameEnd s o t L R.cells R.slots
theorem Ends.of {p : Program} {e : Env} {below : List Frame} {s : State} {R : Room} {Q : Option Value → Heap → List Loc → Prop} {F F' : State} (h : ∀ t, Steps p.tables e below F' t → Steps p.tables e below F t) (k : Ends p e below s R Q F') : Ends p e below s R Q F := by
  obtain ⟨t, o, h1, r⟩ := k
  exact ⟨t, o, h t h1, r⟩
theorem Ends.st {p : Program} {e : Env} {below : List Frame} {s : State} {R : Room} {Q : Option Value → Heap → List Loc → Prop} {F F' : State} (h : Steps p.tables e below F F') (k : Ends p e below s R Q F') : Ends p e below s R Q F := Ends.of (fun _ q => h.trans q) k
theorem own_eqi {args : Array Value} {first s : State} {o : Option Outcome} {idx : List Nat} {t : Term} {k : Int32} (h : (Jvm.Cond.eq t (Term.int k)).value args first o s idx = some true) : t.eval args first o idx s = some (.int k) := by
  simp only [Cond.value, Term.eval] at h
  cases ht : t.eval args first o idx s with
  | none => simp [ht] at h
  | some x => cases x <;> simp [ht] at h ⊢; exact h
theorem own_eqr {args : Array Value} {first s : State} {o : Option Outcome} {idx : List Nat} {t u : Term} {b : Addr} (h : (Jvm.Cond.eq t u).value args first o s idx = some true) (hu : u.eval args first o idx s = some (.ref b)) : t.eval args first o idx s = some (.ref b) := by
  simp only [Cond.value, hu] at h
  cases ht : t.eval args first o idx s with
  | none => simp [ht] at h
  | some x => cases x <;> simp [ht] at h ⊢; exact h

def own_st (un fo nf mn tl iv it : Addr) (t : Int32) : Addr :=
  if t = (401 : Int32) then un else if t = (403 : Int32) then fo else if t = (404 : Int32) then nf else if t = (405 : Int32) then mn else if t = (413 : Int32) then tl else if t = (414 : Int32) then tl else if t = (431 : Int32) then tl else if t < (400 : Int32) then it else if t < (500 : Int32) then iv else it
theorem own_ne {t k : Int32} (h : t < (400 : Int32) ∨ (499 : Int32) < t) (h1 : ¬ k < (400 : Int32)) (h2 : ¬ (499 : Int32) < k) : ¬ t = k := fun q => by
  subst q
  exact h.elim h1 h2
theorem own_it {un fo nf mn tl iv it : Addr} {t : Int32} (h : t < (400 : Int32) ∨ (499 : Int32) < t) : own_st un fo nf mn tl iv it t = it := by
  rw [own_st, if_neg (own_ne h (by decide) (by decide)), if_neg (own_ne h (by decide) (by decide)), if_neg (own_ne h (by decide) (by decide)), if_neg (own_ne h (by decide) (by decide)), if_neg (own_ne h (by decide) (by decide)), if_neg (own_ne h (by decide) (by decide)), if_neg (own_ne h (by decide) (by decide))]
  by_cases h1 : t < (400 : Int32)
  · rw [if_pos h1]
  · rw [if_neg h1]
    have h2 : ¬ t < (500 : Int32) := by
      have h3 := h.resolve_left h1
      rw [Int32.lt_iff_toInt_lt] at h3 ⊢
      have e1 : ((499 : Int32)).toInt = 499 := by decide
      have e2 : ((500 : Int32)).toInt = 500 := by decide
      omega
    rw [if_neg h2]
theorem own_iv {un fo nf mn tl iv it : Addr} {t : Int32} (h0 : ¬ t < (400 : Int32)) (h9 : ¬ (499 : Int32) < t) (h1 : ¬ t = (413 : Int32)) (h2 : ¬ t = (414 : Int32)) (h3 : ¬ t = (431 : Int32)) (h4 : ¬ t = (401 : Int32)) (h5 : ¬ t = (403 : Int32)) (h6 : ¬ t = (404 : Int32)) (h7 : ¬ t = (405 : Int32)) : own_st un fo nf mn tl iv it t = iv := by
  have h8 : t < (500 : Int32) := by
    rw [Int32.lt_iff_toInt_lt] at h9 ⊢
    have e1 : ((499 : Int32)).toInt = 499 := by decide
    have e2 : ((500 : Int32)).toInt = 500 := by decide
    omega
  rw [own_st, if_neg h4, if_neg h5, if_neg h6, if_neg h7, if_neg h1, if_neg h2, if_neg h3, if_neg h0, if_pos h8]
theorem pd_0 : parseMethodDescriptor "(I)Lcom/example/tenantd/tenantd/server/Problem;" = some ⟨[.int], some (.object "com/example/tenantd/tenantd/server/Problem")⟩ := by decide +kernel
theorem pd_1 : parseMethodDescriptor "()I" = some ⟨[], some .int⟩ := by decide +kernel
theorem d1_0 : decode prog_57_method_7_code 0 = .ok (.iload_n 0, 1) := by decide +kernel
theorem d1_1 : decode prog_57_method_7_code 1 = .ok (.sipush 401, 3) := by decide +kernel
theorem d1_4 : decode prog_57_method_7_code 4 = .ok (.if_icmp .ne 10, 3) := by decide +kernel
theorem d1_7 : decode prog_57_method_7_code 7 = .ok (.getstatic 13, 3) := by decide +kernel
theorem d1_10 : decode prog_57_method_7_code 10 = .ok (.astore_n 1, 1) := by decide +kernel
theorem d1_11 : decode prog_57_method_7_code 11 = .ok (.goto 98, 3) := by decide +kernel
theorem d1_14 : decode prog_57_method_7_code 14 = .ok (.iload_n 0, 1) := by decide +kernel
theorem d1_15 : decode prog_57_method_7_code 15 = .ok (.sipush 403, 3) := by decide +kernel
theorem d1_18 : decode prog_57_method_7_code 18 = .ok (.if_icmp .ne 10, 3) := by decide +kernel
theorem d1_21 : decode prog_57_method_7_code 21 = .ok (.getstatic 16, 3) := by decide +kernel
theorem d1_24 : decode prog_57_method_7_code 24 = .ok (.astore_n 1, 1) := by decide +kernel
theorem d1_25 : decode prog_57_method_7_code 25 = .ok (.goto 84, 3) := by decide +kernel
theorem d1_28 : decode prog_57_method_7_code 28 = .ok (.iload_n 0, 1) := by decide +kernel
theorem d1_29 : decode prog_57_method_7_code 29 = .ok (.sipush 404, 3) := by decide +kernel
theorem d1_32 : decode prog_57_method_7_code 32 = .ok (.if_icmp .ne 10, 3) := by decide +kernel
theorem d1_35 : decode prog_57_method_7_code 35 = .ok (.getstatic 19, 3) := by decide +kernel
theorem d1_38 : decode prog_57_method_7_code 38 = .ok (.astore_n 1, 1) := by decide +kernel
theorem d1_39 : decode prog_57_method_7_code 39 = .ok (.goto 70, 3) := by decide +kernel
theorem d1_42 : decode prog_57_method_7_code 42 = .ok (.iload_n 0, 1) := by decide +kernel
theorem d1_43 : decode prog_57_method_7_code 43 = .ok (.sipush 405, 3) := by decide +kernel
theorem d1_46 : decode prog_57_method_7_code 46 = .ok (.if_icmp .ne 10, 3) := by decide +kernel
theorem d1_49 : decode prog_57_method_7_code 49 = .ok (.getstatic 22, 3) := by decide +kernel
theorem d1_52 : decode prog_57_method_7_code 52 = .ok (.astore_n 1, 1) := by decide +kernel
theorem d1_53 : decode prog_57_method_7_code 53 = .ok (.goto 56, 3) := by decide +kernel
theorem d1_56 : decode prog_57_method_7_code 56 = .ok (.iload_n 0, 1) := by decide +kernel
theorem d1_57 : decode prog_57_method_7_code 57 = .ok (.sipush 413, 3) := by decide +kernel
theorem d1_60 : decode prog_57_method_7_code 60 = .ok (.if_icmp .eq 17, 3) := by decide +kernel
theorem d1_63 : decode prog_57_method_7_code 63 = .ok (.iload_n 0, 1) := by decide +kernel
theorem d1_64 : decode prog_57_method_7_code 64 = .ok (.sipush 414, 3) := by decide +kernel
theorem d1_67 : decode prog_57_method_7_code 67 = .ok (.if_icmp .eq 10, 3) := by decide +kernel
theorem d1_70 : decode prog_57_method_7_code 70 = .ok (.iload_n 0, 1) := by decide +kernel
theorem d1_71 : decode prog_57_method_7_code 71 = .ok (.sipush 431, 3) := by decide +kernel
theorem d1_74 : decode prog_57_method_7_code 74 = .ok (.if_icmp .ne 10, 3) := by decide +kernel
theorem d1_77 : decode prog_57_method_7_code 77 = .ok (.getstatic 31, 3) := by decide +kernel
theorem d1_80 : decode prog_57_method_7_code 80 = .ok (.astore_n 1, 1) := by decide +kernel
theorem d1_81 : decode prog_57_method_7_code 81 = .ok (.goto 28, 3) := by decide +kernel
theorem d1_84 : decode prog_57_method_7_code 84 = .ok (.iload_n 0, 1) := by decide +kernel
theorem d1_85 : decode prog_57_method_7_code 85 = .ok (.sipush 400, 3) := by decide +kernel
theorem d1_88 : decode prog_57_method_7_code 88 = .ok (.if_icmp .lt 17, 3) := by decide +kernel
theorem d1_91 : decode prog_57_method_7_code 91 = .ok (.iload_n 0, 1) := by decide +kernel
theorem d1_92 : decode prog_57_method_7_code 92 = .ok (.sipush 500, 3) := by decide +kernel
theorem d1_95 : decode prog_57_method_7_code 95 = .ok (.if_icmp .ge 10, 3) := by decide +kernel
theorem d1_98 : decode prog_57_method_7_code 98 = .ok (.getstatic 3, 3) := by decide +kernel
theorem d1_101 : decode prog_57_method_7_code 101 = .ok (.astore_n 1, 1) := by decide +kernel
theorem d1_102 : decode prog_57_method_7_code 102 = .ok (.goto 7, 3) := by decide +kernel
theorem d1_105 : decode prog_57_method_7_code 105 = .ok (.getstatic 34, 3) := by decide +kernel
theorem d1_108 : decode prog_57_method_7_code 108 = .ok (.astore_n 1, 1) := by decide +kernel
theorem d1_109 : decode prog_57_method_7_code 109 = .ok (.aload_n 1, 1) := by decide +kernel
theorem d1_110 : decode prog_57_method_7_code 110 = .ok (.areturn, 1) := by decide +kernel
theorem pn_0 : plainName "com/example/tenantd/tenantd/server/Problem" = true := by first | (simp [plainName, overriddenIn]; done) | decide +kernel
def Q1 (Z : State) (p1 : Int32) (un : Addr) (fo : Addr) (nf : Addr) (mn : Addr) (tl : Addr) (iv : Addr) (it : Addr) (h0 : Heap) (n0 : Nat) (v : Option Value) (h : Heap) (L : List Loc) : Prop := v = some (.ref (own_st un fo nf mn tl iv it p1)) ∧ Fr n0 L ∧ h = h0
set_option maxRecDepth 65536 in
set_option maxHeartbeats 40000000 in
theorem rm1 (l : Launch) (Z : State) (a0 : Array Value) (hw : ∀ d ∈ tables_1, d.before a0 Z = true) (ws : List Jvm.Cond) (p1 : Int32) (un : Addr) (fo : Addr) (nf : Addr) (mn : Addr) (tl : Addr) (iv : Addr) (it : Addr) (h0 : Heap) (n0 : Nat) (Z0 : n0 ≤ h0.size) (S_UNAUTHORIZED : Sta Z h0 "com/example/tenantd/tenantd/server/Problem" "UNAUTHORIZED" "Lcom/example/tenantd/tenantd/server/Problem;" (.ref un)) (S_FORBIDDEN : Sta Z h0 "com/example/tenantd/tenantd/server/Problem" "FORBIDDEN" "Lcom/example/tenantd/tenantd/server/Problem;" (.ref fo)) (S_NOT_FOUND : Sta Z h0 "com/example/tenantd/tenantd/server/Problem" "NOT_FOUND" "Lcom/example/tenantd/tenantd/server/Problem;" (.ref nf)) (S_METHOD_NOT_ALLOWED : Sta Z h0 "com/example/tenantd/tenantd/server/Problem" "METHOD_NOT_ALLOWED" "Lcom/example/tenantd/tenantd/server/Problem;" (.ref mn)) (S_TOO_LARGE : Sta Z h0 "com/example/tenantd/tenantd/server/Problem" "TOO_LARGE" "Lcom/example/tenantd/tenantd/server/Problem;" (.ref tl)) (S_INVALID_REQUEST : Sta Z h0 "com/example/tenantd/tenantd/server/Problem" "INVALID_REQUEST" "Lcom/example/tenantd/tenantd/server/Problem;" (.ref iv)) (S_INTERNAL : Sta Z h0 "com/example/tenantd/tenantd/server/Problem" "INTERNAL" "Lcom/example/tenantd/tenantd/server/Problem;" (.ref it)) :
    MetFree l (⟨"com/example/tenantd/tenantd/server/Problem", "forStatus", "(I)Lcom/example/tenantd/tenantd/server/Problem;"⟩ : MethodName) (head1 (Jvm.Cond.code (⟨"com/example/tenantd/tenantd/server/Problem", "forStatus", "(I)Lcom/example/tenantd/tenantd/server/Problem;"⟩ : MethodName) prog_57_method_7_code 2 (some (.object "com/example/tenantd/tenantd/server/Problem")) :: ws) ({ frames := 0, cells := 0, slots := 0, locals := 0 } : Room)) (fun a U => a = #[(.int p1)] ∧ Z.Warmed39 U.vm ∧ U.heap = h0) (fun _ _ _ _ _ => True) (fun _ U o U' => ∃ v L, o = .returned v ∧ Q1 Z p1 un fo nf mn tl iv it h0 n0 v U'.heap L ∧ FrameEnd U o U' L ({ frames := 0, cells := 0, slots := 0, locals := 0 } : Room).cells ({ frames := 0, cells := 0, slots := 0, locals := 0 } : Room).slots) := by
  refine MetFree.of_bodySF (plainFor_of_name pn_0) hisR ?_
  intro p e s m args below meth c s₁ Bd hml0 hP hK
  obtain ⟨rfl, hZ, hh⟩ := hP
  have hx := Bd.exec
  have hby := Bd.bytes
  have hml : c.maxLocals = 2 := hml0
  have hown : s.vm.findClass "com/example/tenantd/tenantd/server/Problem" = some m.cls := findClass_of_methodNamed Bd.named
  have hnm := (name_of_methodNamed Bd.named Bd.method).1
  have X0 : Stand p l e ({ frames := 0, cells := 0, slots := 0, locals := 0 } : Room) s m #[(.int p1)] below meth c s₁ [] 0 0 := Stand.of_body Bd
  have e0 : s₁.heap = h0 := by rw [← hh, Bd.state]; rfl
  have N0 := Fr.nil n0
  have eF : entryFrame m #[(.int p1)] 2 = mkF m 0 #[.val (.int p1), .unset] [] := by first | (simp [entryFrame, mkF, argsToLocals, Value.category]; done) | rfl
  show Ends p e below s ({ frames := 0, cells := 0, slots := 0, locals := 0 } : Room) (Q1 Z p1 un fo nf mn tl iv it h0 n0) (s₁.setTop (entryFrame m #[(.int p1)] 2))
  rw [eF]
  refine Ends.of (F' := s₁.setTop (mkF m 4 #[.val (.int p1), .unset] [(.int (401 : Int32)), (.int p1)])) (fun _ kt => ?_) ?_
  · show Steps p.tables e below (s₁.setTop (mkF m 0 #[.val (.int p1), .unset] [])) _
    refine XS.iloadN X0.here hx rfl (hb hby d1_0) rfl ?_
    show Steps p.tables e below (s₁.setTop (mkF m 1 #[.val (.int p1), .unset] [(.int p1)])) _
    refine XS.sipush X0.here hx rfl (hb hby d1_1) ?_
    exact kt
  by_cases hc4 : p1 = (401 : Int32)
  · refine Ends.of (F' := s₁.setTop (mkF m 7 #[.val (.int p1), .unset] [])) (fun _ kt => ?_) ?_
    · show Steps p.tables e below (s₁.setTop (mkF m 4 #[.val (.int p1), .unset] [(.int (401 : Int32)), (.int p1)])) _
      refine XS.icmpNo X0.here hx rfl (hb hby d1_4) rfl (teq hc4).2 ?_
      exact kt
    obtain ⟨T1, X1, e1, st1⟩ := getS2 X0 hx hZ hown (host := "") (Or.inl (hw _ (List.mem_of_getElem? (i := 20) rfl))) Via.refl e0 S_UNAUTHORIZED (g := (mkF m 7 #[.val (.int p1), .unset] [])) rfl (hb hby d1_7)
    refine Ends.of st1 ?_
    refine Ends.of (F' := T1.setTop (mkF m 110 #[.val (.int p1), .val (.ref un)] [(.ref un)])) (fun _ kt => ?_) ?_
    · show Steps p.tables e below (T1.setTop (mkF m 10 #[.val (.int p1), .unset] [(.ref un)])) _
      refine XS.astoreN X1.here hx rfl (hb hby d1_10) rfl rfl (l' := #[.val (.int p1), .val (.ref un)]) rfl ?_
      show Steps p.tables e below (T1.setTop (mkF m 11 #[.val (.int p1), .val (.ref un)] [])) _
      refine XS.goto X1.here hx rfl (pc0 := 11) (pc' := 109) rfl (hb hby d1_11) (by decide) (by decide) ?_
      show Steps p.tables e below (T1.setTop (mkF m 109 #[.val (.int p1), .val (.ref un)] [])) _
      refine XS.aloadN X1.here hx rfl (hb hby d1_109) rfl rfl ?_
      exact kt
    obtain ⟨fs, hr, hrun, hended, hW, hsame⟩ := X1.leave (v := some (.ref un)) (fun h => by rw [Bd.returns] at h; cases h)
    refine ⟨_, _, ?_, hrun, hended, _, _, rfl, ⟨by rw [own_st, if_pos hc4], N0, e1⟩, ⟨_, rfl⟩, hW, hsame.mono (by decide) (by decide)⟩
    show Steps p.tables e below (T1.setTop (mkF m 110 #[.val (.int p1), .val (.ref un)] [(.ref un)])) _
    jvm_step X1.here [X1.here.top, hx, (hb hby d1_110), X1.method', Bd.returns, Value.isRef, FieldType.isReference]
    first | (intro acts; rw [hr _ acts rfl rfl rfl]) | rw [hr _ _ rfl rfl rfl]
    exact Steps.refl _
  · refine Ends.of (F' := s₁.setTop (mkF m 18 #[.val (.int p1), .unset] [(.int (403 : Int32)), (.int p1)])) (fun _ kt => ?_) ?_
    · show Steps p.tables e below (s₁.setTop (mkF m 4 #[.val (.int p1), .unset] [(.int (401 : Int32)), (.int p1)])) _
      refine XS.icmpYes X0.here hx rfl (pc0 := 4) (pc' := 14) rfl (hb hby d1_4) rfl (feq hc4).2 (by decide) (by decide) ?_
      show Steps p.tables e below (s₁.setTop (mkF m 14 #[.val (.int p1), .unset] [])) _
      refine XS.iloadN X0.here hx rfl (hb hby d1_14) rfl ?_
      show Steps p.tables e below (s₁.setTop (mkF m 15 #[.val (.int p1), .unset] [(.int p1)])) _
      refine XS.sipush X0.here hx rfl (hb hby d1_15) ?_
      exact kt
    by_cases hc18 : p1 = (403 : Int32)
    · refine Ends.of (F' := s₁.setTop (mkF m 21 #[.val (.int p1), .unset] [])) (fun _ kt => ?_) ?_
      · show Steps p.tables e below (s₁.setTop (mkF m 18 #[.val (.int p1), .unset] [(.int (403 : Int32)), (.int p1)])) _
        refine XS.icmpNo X0.here hx rfl (hb hby d1_18) rfl (teq hc18).2 ?_
        exact kt
      obtain ⟨T2, X2, e2, st2⟩ := getS2 X0 hx hZ hown (host := "") (Or.inl (hw _ (List.mem_of_getElem? (i := 11) rfl))) Via.refl e0 S_FORBIDDEN (g := (mkF m 21 #[.val (.int p1), .unset] [])) rfl (hb hby d1_21)
      refine Ends.of st2 ?_
      refine Ends.of (F' := T2.setTop (mkF m 110 #[.val (.int p1), .val (.ref fo)] [(.ref fo)])) (fun _ kt => ?_) ?_
      · show Steps p.tables e below (T2.setTop (mkF m 24 #[.val (.int p1), .unset] [(.ref fo)])) _
        refine XS.astoreN X2.here hx rfl (hb hby d1_24) rfl rfl (l' := #[.val (.int p1), .val (.ref fo)]) rfl ?_
        show Steps p.tables e below (T2.setTop (mkF m 25 #[.val (.int p1), .val (.ref fo)] [])) _
        refine XS.goto X2.here hx rfl (pc0 := 25) (pc' := 109) rfl (hb hby d1_25) (by decide) (by decide) ?_
        show Steps p.tables e below (T2.setTop (mkF m 109 #[.val (.int p1), .val (.ref fo)] [])) _
        refine XS.aloadN X2.here hx rfl (hb hby d1_109) rfl rfl ?_
        exact kt
      obtain ⟨fs, hr, hrun, hended, hW, hsame⟩ := X2.leave (v := some (.ref fo)) (fun h => by rw [Bd.returns] at h; cases h)
      refine ⟨_, _, ?_, hrun, hended, _, _, rfl, ⟨by rw [own_st, if_neg hc4, if_pos hc18], N0, e2⟩, ⟨_, rfl⟩, hW, hsame.mono (by decide) (by decide)⟩
      show Steps p.tables e below (T2.setTop (mkF m 110 #[.val (.int p1), .val (.ref fo)] [(.ref fo)])) _
      jvm_step X2.here [X2.here.top, hx, (hb hby d1_110), X2.method', Bd.returns, Value.isRef, FieldType.isReference]
      first | (intro acts; rw [hr _ acts rfl rfl rfl]) | rw [hr _ _ rfl rfl rfl]
      exact Steps.refl _
    · refine Ends.of (F' := s₁.setTop (mkF m 32 #[.val (.int p1), .unset] [(.int (404 : Int32)), (.int p1)])) (fun _ kt => ?_) ?_
      · show Steps p.tables e below (s₁.setTop (mkF m 18 #[.val (.int p1), .unset] [(.int (403 : Int32)), (.int p1)])) _
        refine XS.icmpYes X0.here hx rfl (pc0 := 18) (pc' := 28) rfl (hb hby d1_18) rfl (feq hc18).2 (by decide) (by decide) ?_
        show Steps p.tables e below (s₁.setTop (mkF m 28 #[.val (.int p1), .unset] [])) _
        refine XS.iloadN X0.here hx rfl (hb hby d1_28) rfl ?_
        show Steps p.tables e below (s₁.setTop (mkF m 29 #[.val (.int p1), .unset] [(.int p1)])) _
        refine XS.sipush X0.here hx rfl (hb hby d1_29) ?_
        exact kt
      by_cases hc32 : p1 = (404 : Int32)
      · refine Ends.of (F' := s₁.setTop (mkF m 35 #[.val (.int p1), .unset] [])) (fun _ kt => ?_) ?_
        · show Steps p.tables e below (s₁.setTop (mkF m 32 #[.val (.int p1), .unset] [(.int (404 : Int32)), (.int p1)])) _
          refine XS.icmpNo X0.here hx rfl (hb hby d1_32) rfl (teq hc32).2 ?_
          exact kt
        obtain ⟨T3, X3, e3, st3⟩ := getS2 X0 hx hZ hown (host := "") (Or.inl (hw _ (List.mem_of_getElem? (i := 22) rfl))) Via.refl e0 S_NOT_FOUND (g := (mkF m 35 #[.val (.int p1), .unset] [])) rfl (hb hby d1_35)
        refine Ends.of st3 ?_
        refine Ends.of (F' := T3.setTop (mkF m 110 #[.val (.int p1), .val (.ref nf)] [(.ref nf)])) (fun _ kt => ?_) ?_
        · show Steps p.tables e below (T3.setTop (mkF m 38 #[.val (.int p1), .unset] [(.ref nf)])) _
          refine XS.astoreN X3.here hx rfl (hb hby d1_38) rfl rfl (l' := #[.val (.int p1), .val (.ref nf)]) rfl ?_
          show Steps p.tables e below (T3.setTop (mkF m 39 #[.val (.int p1), .val (.ref nf)] [])) _
          refine XS.goto X3.here hx rfl (pc0 := 39) (pc' := 109) rfl (hb hby d1_39) (by decide) (by decide) ?_
          show Steps p.tables e below (T3.setTop (mkF m 109 #[.val (.int p1), .val (.ref nf)] [])) _
          refine XS.aloadN X3.here hx rfl (hb hby d1_109) rfl rfl ?_
          exact kt
        obtain ⟨fs, hr, hrun, hended, hW, hsame⟩ := X3.leave (v := some (.ref nf)) (fun h => by rw [Bd.returns] at h; cases h)
        refine ⟨_, _, ?_, hrun, hended, _, _, rfl, ⟨by rw [own_st, if_neg hc4, if_neg hc18, if_pos hc32], N0, e3⟩, ⟨_, rfl⟩, hW, hsame.mono (by decide) (by decide)⟩
        show Steps p.tables e below (T3.setTop (mkF m 110 #[.val (.int p1), .val (.ref nf)] [(.ref nf)])) _
        jvm_step X3.here [X3.here.top, hx, (hb hby d1_110), X3.method', Bd.returns, Value.isRef, FieldType.isReference]
        first | (intro acts; rw [hr _ acts rfl rfl rfl]) | rw [hr _ _ rfl rfl rfl]
        exact Steps.refl _
      · refine Ends.of (F' := s₁.setTop (mkF m 46 #[.val (.int p1), .unset] [(.int (405 : Int32)), (.int p1)])) (fun _ kt => ?_) ?_
        · show Steps p.tables e below (s₁.setTop (mkF m 32 #[.val (.int p1), .unset] [(.int (404 : Int32)), (.int p1)])) _
          refine XS.icmpYes X0.here hx rfl (pc0 := 32) (pc' := 42) rfl (hb hby d1_32) rfl (feq hc32).2 (by decide) (by decide) ?_
          show Steps p.tables e below (s₁.setTop (mkF m 42 #[.val (.int p1), .unset] [])) _
          refine XS.iloadN X0.here hx rfl (hb hby d1_42) rfl ?_
          show Steps p.tables e below (s₁.setTop (mkF m 43 #[.val (.int p1), .unset] [(.int p1)])) _
          refine XS.sipush X0.here hx rfl (hb hby d1_43) ?_
          exact kt
        by_cases hc46 : p1 = (405 : Int32)
        · refine Ends.of (F' := s₁.setTop (mkF m 49 #[.val (.int p1), .unset] [])) (fun _ kt => ?_) ?_
          · show Steps p.tables e below (s₁.setTop (mkF m 46 #[.val (.int p1), .unset] [(.int (405 : Int32)), (.int p1)])) _
            refine XS.icmpNo X0.here hx rfl (hb hby d1_46) rfl (teq hc46).2 ?_
            exact kt
          obtain ⟨T4, X4, e4, st4⟩ := getS2 X0 hx hZ hown (host := "") (Or.inl (hw _ (List.mem_of_getElem? (i := 27) rfl))) Via.refl e0 S_METHOD_NOT_ALLOWED (g := (mkF m 49 #[.val (.int p1), .unset] [])) rfl (hb hby d1_49)
          refine Ends.of st4 ?_
          refine Ends.of (F' := T4.setTop (mkF m 110 #[.val (.int p1), .val (.ref mn)] [(.ref mn)])) (fun _ kt => ?_) ?_
          · show Steps p.tables e below (T4.setTop (mkF m 52 #[.val (.int p1), .unset] [(.ref mn)])) _
            refine XS.astoreN X4.here hx rfl (hb hby d1_52) rfl rfl (l' := #[.val (.int p1), .val (.ref mn)]) rfl ?_
            show Steps p.tables e below (T4.setTop (mkF m 53 #[.val (.int p1), .val (.ref mn)] [])) _
            refine XS.goto X4.here hx rfl (pc0 := 53) (pc' := 109) rfl (hb hby d1_53) (by decide) (by decide) ?_
            show Steps p.tables e below (T4.setTop (mkF m 109 #[.val (.int p1), .val (.ref mn)] [])) _
            refine XS.aloadN X4.here hx rfl (hb hby d1_109) rfl rfl ?_
            exact kt
          obtain ⟨fs, hr, hrun, hended, hW, hsame⟩ := X4.leave (v := some (.ref mn)) (fun h => by rw [Bd.returns] at h; cases h)
          refine ⟨_, _, ?_, hrun, hended, _, _, rfl, ⟨by rw [own_st, if_neg hc4, if_neg hc18, if_neg hc32, if_pos hc46], N0, e4⟩, ⟨_, rfl⟩, hW, hsame.mono (by decide) (by decide)⟩
          show Steps p.tables e below (T4.setTop (mkF m 110 #[.val (.int p1), .val (.ref mn)] [(.ref mn)])) _
          jvm_step X4.here [X4.here.top, hx, (hb hby d1_110), X4.method', Bd.returns, Value.isRef, FieldType.isReference]
          first | (intro acts; rw [hr _ acts rfl rfl rfl]) | rw [hr _ _ rfl rfl rfl]
          exact Steps.refl _
        · refine Ends.of (F' := s₁.setTop (mkF m 60 #[.val (.int p1), .unset] [(.int (413 : Int32)), (.int p1)])) (fun _ kt => ?_) ?_
          · show Steps p.tables e below (s₁.setTop (mkF m 46 #[.val (.int p1), .unset] [(.int (405 : Int32)), (.int p1)])) _
            refine XS.icmpYes X0.here hx rfl (pc0 := 46) (pc' := 56) rfl (hb hby d1_46) rfl (feq hc46).2 (by decide) (by decide) ?_
            show Steps p.tables e below (s₁.setTop (mkF m 56 #[.val (.int p1), .unset] [])) _
            refine XS.iloadN X0.here hx rfl (hb hby d1_56) rfl ?_
            show Steps p.tables e below (s₁.setTop (mkF m 57 #[.val (.int p1), .unset] [(.int p1)])) _
            refine XS.sipush X0.here hx rfl (hb hby d1_57) ?_
            exact kt
          by_cases hc60 : p1 = (413 : Int32)
          · refine Ends.of (F' := s₁.setTop (mkF m 77 #[.val (.int p1), .unset] [])) (fun _ kt => ?_) ?_
            · show Steps p.tables e below (s₁.setTop (mkF m 60 #[.val (.int p1), .unset] [(.int (413 : Int32)), (.int p1)])) _
              refine XS.icmpYes X0.here hx rfl (pc0 := 60) (pc' := 77) rfl (hb hby d1_60) rfl (teq hc60).1 (by decide) (by decide) ?_
              exact kt
            obtain ⟨T5, X5, e5, st5⟩ := getS2 X0 hx hZ hown (host := "") (Or.inl (hw _ (List.mem_of_getElem? (i := 24) rfl))) Via.refl e0 S_TOO_LARGE (g := (mkF m 77 #[.val (.int p1), .unset] [])) rfl (hb hby d1_77)
            refine Ends.of st5 ?_
            refine Ends.of (F' := T5.setTop (mkF m 110 #[.val (.int p1), .val (.ref tl)] [(.ref tl)])) (fun _ kt => ?_) ?_
            · show Steps p.tables e below (T5.setTop (mkF m 80 #[.val (.int p1), .unset] [(.ref tl)])) _
              refine XS.astoreN X5.here hx rfl (hb hby d1_80) rfl rfl (l' := #[.val (.int p1), .val (.ref tl)]) rfl ?_
              show Steps p.tables e below (T5.setTop (mkF m 81 #[.val (.int p1), .val (.ref tl)] [])) _
              refine XS.goto X5.here hx rfl (pc0 := 81) (pc' := 109) rfl (hb hby d1_81) (by decide) (by decide) ?_
              show Steps p.tables e below (T5.setTop (mkF m 109 #[.val (.int p1), .val (.ref tl)] [])) _
              refine XS.aloadN X5.here hx rfl (hb hby d1_109) rfl rfl ?_
              exact kt
            obtain ⟨fs, hr, hrun, hended, hW, hsame⟩ := X5.leave (v := some (.ref tl)) (fun h => by rw [Bd.returns] at h; cases h)
            refine ⟨_, _, ?_, hrun, hended, _, _, rfl, ⟨by rw [own_st, if_neg hc4, if_neg hc18, if_neg hc32, if_neg hc46, if_pos hc60], N0, e5⟩, ⟨_, rfl⟩, hW, hsame.mono (by decide) (by decide)⟩
            show Steps p.tables e below (T5.setTop (mkF m 110 #[.val (.int p1), .val (.ref tl)] [(.ref tl)])) _
            jvm_step X5.here [X5.here.top, hx, (hb hby d1_110), X5.method', Bd.returns, Value.isRef, FieldType.isReference]
            first | (intro acts; rw [hr _ acts rfl rfl rfl]) | rw [hr _ _ rfl rfl rfl]
            exact Steps.refl _
          · refine Ends.of (F' := s₁.setTop (mkF m 67 #[.val (.int p1), .unset] [(.int (414 : Int32)), (.int p1)])) (fun _ kt => ?_) ?_
            · show Steps p.tables e below (s₁.setTop (mkF m 60 #[.val (.int p1), .unset] [(.int (413 : Int32)), (.int p1)])) _
              refine XS.icmpNo X0.here hx rfl (hb hby d1_60) rfl (feq hc60).1 ?_
              show Steps p.tables e below (s₁.setTop (mkF m 63 #[.val (.int p1), .unset] [])) _
              refine XS.iloadN X0.here hx rfl (hb hby d1_63) rfl ?_
              show Steps p.tables e below (s₁.setTop (mkF m 64 #[.val (.int p1), .unset] [(.int p1)])) _
              refine XS.sipush X0.here hx rfl (hb hby d1_64) ?_
              exact kt
            by_cases hc67 : p1 = (414 : Int32)
            · refine Ends.of (F' := s₁.setTop (mkF m 77 #[.val (.int p1), .unset] [])) (fun _ kt => ?_) ?_
              · show Steps p.tables e below (s₁.setTop (mkF m 67 #[.val (.int p1), .unset] [(.int (414 : Int32)), (.int p1)])) _
                refine XS.icmpYes X0.here hx rfl (pc0 := 67) (pc' := 77) rfl (hb hby d1_67) rfl (teq hc67).1 (by decide) (by decide) ?_
                exact kt
              obtain ⟨T6, X6, e6, st6⟩ := getS2 X0 hx hZ hown (host := "") (Or.inl (hw _ (List.mem_of_getElem? (i := 24) rfl))) Via.refl e0 S_TOO_LARGE (g := (mkF m 77 #[.val (.int p1), .unset] [])) rfl (hb hby d1_77)
              refine Ends.of st6 ?_
              refine Ends.of (F' := T6.setTop (mkF m 110 #[.val (.int p1), .val (.ref tl)] [(.ref tl)])) (fun _ kt => ?_) ?_
              · show Steps p.tables e below (T6.setTop (mkF m 80 #[.val (.int p1), .unset] [(.ref tl)])) _
                refine XS.astoreN X6.here hx rfl (hb hby d1_80) rfl rfl (l' := #[.val (.int p1), .val (.ref tl)]) rfl ?_
                show Steps p.tables e below (T6.setTop (mkF m 81 #[.val (.int p1), .val (.ref tl)] [])) _
                refine XS.goto X6.here hx rfl (pc0 := 81) (pc' := 109) rfl (hb hby d1_81) (by decide) (by decide) ?_
                show Steps p.tables e below (T6.setTop (mkF m 109 #[.val (.int p1), .val (.ref tl)] [])) _
                refine XS.aloadN X6.here hx rfl (hb hby d1_109) rfl rfl ?_
                exact kt
              obtain ⟨fs, hr, hrun, hended, hW, hsame⟩ := X6.leave (v := some (.ref tl)) (fun h => by rw [Bd.returns] at h; cases h)
              refine ⟨_, _, ?_, hrun, hended, _, _, rfl, ⟨by rw [own_st, if_neg hc4, if_neg hc18, if_neg hc32, if_neg hc46, if_neg hc60, if_pos hc67], N0, e6⟩, ⟨_, rfl⟩, hW, hsame.mono (by decide) (by decide)⟩
              show Steps p.tables e below (T6.setTop (mkF m 110 #[.val (.int p1), .val (.ref tl)] [(.ref tl)])) _
              jvm_step X6.here [X6.here.top, hx, (hb hby d1_110), X6.method', Bd.returns, Value.isRef, FieldType.isReference]
              first | (intro acts; rw [hr _ acts rfl rfl rfl]) | rw [hr _ _ rfl rfl rfl]
              exact Steps.refl _
            · refine Ends.of (F' := s₁.setTop (mkF m 74 #[.val (.int p1), .unset] [(.int (431 : Int32)), (.int p1)])) (fun _ kt => ?_) ?_
              · show Steps p.tables e below (s₁.setTop (mkF m 67 #[.val (.int p1), .unset] [(.int (414 : Int32)), (.int p1)])) _
                refine XS.icmpNo X0.here hx rfl (hb hby d1_67) rfl (feq hc67).1 ?_
                show Steps p.tables e below (s₁.setTop (mkF m 70 #[.val (.int p1), .unset] [])) _
                refine XS.iloadN X0.here hx rfl (hb hby d1_70) rfl ?_
                show Steps p.tables e below (s₁.setTop (mkF m 71 #[.val (.int p1), .unset] [(.int p1)])) _
                refine XS.sipush X0.here hx rfl (hb hby d1_71) ?_
                exact kt
              by_cases hc74 : p1 = (431 : Int32)
              · refine Ends.of (F' := s₁.setTop (mkF m 77 #[.val (.int p1), .unset] [])) (fun _ kt => ?_) ?_
                · show Steps p.tables e below (s₁.setTop (mkF m 74 #[.val (.int p1), .unset] [(.int (431 : Int32)), (.int p1)])) _
                  refine XS.icmpNo X0.here hx rfl (hb hby d1_74) rfl (teq hc74).2 ?_
                  exact kt
                obtain ⟨T7, X7, e7, st7⟩ := getS2 X0 hx hZ hown (host := "") (Or.inl (hw _ (List.mem_of_getElem? (i := 24) rfl))) Via.refl e0 S_TOO_LARGE (g := (mkF m 77 #[.val (.int p1), .unset] [])) rfl (hb hby d1_77)
                refine Ends.of st7 ?_
                refine Ends.of (F' := T7.setTop (mkF m 110 #[.val (.int p1), .val (.ref tl)] [(.ref tl)])) (fun _ kt => ?_) ?_
                · show Steps p.tables e below (T7.setTop (mkF m 80 #[.val (.int p1), .unset] [(.ref tl)])) _
                  refine XS.astoreN X7.here hx rfl (hb hby d1_80) rfl rfl (l' := #[.val (.int p1), .val (.ref tl)]) rfl ?_
                  show Steps p.tables e below (T7.setTop (mkF m 81 #[.val (.int p1), .val (.ref tl)] [])) _
                  refine XS.goto X7.here hx rfl (pc0 := 81) (pc' := 109) rfl (hb hby d1_81) (by decide) (by decide) ?_
                  show Steps p.tables e below (T7.setTop (mkF m 109 #[.val (.int p1), .val (.ref tl)] [])) _
                  refine XS.aloadN X7.here hx rfl (hb hby d1_109) rfl rfl ?_
                  exact kt
                obtain ⟨fs, hr, hrun, hended, hW, hsame⟩ := X7.leave (v := some (.ref tl)) (fun h => by rw [Bd.returns] at h; cases h)
                refine ⟨_, _, ?_, hrun, hended, _, _, rfl, ⟨by rw [own_st, if_neg hc4, if_neg hc18, if_neg hc32, if_neg hc46, if_neg hc60, if_neg hc67, if_pos hc74], N0, e7⟩, ⟨_, rfl⟩, hW, hsame.mono (by decide) (by decide)⟩
                show Steps p.tables e below (T7.setTop (mkF m 110 #[.val (.int p1), .val (.ref tl)] [(.ref tl)])) _
                jvm_step X7.here [X7.here.top, hx, (hb hby d1_110), X7.method', Bd.returns, Value.isRef, FieldType.isReference]
                first | (intro acts; rw [hr _ acts rfl rfl rfl]) | rw [hr _ _ rfl rfl rfl]
                exact Steps.refl _
              · refine Ends.of (F' := s₁.setTop (mkF m 88 #[.val (.int p1), .unset] [(.int (400 : Int32)), (.int p1)])) (fun _ kt => ?_) ?_
                · show Steps p.tables e below (s₁.setTop (mkF m 74 #[.val (.int p1), .unset] [(.int (431 : Int32)), (.int p1)])) _
                  refine XS.icmpYes X0.here hx rfl (pc0 := 74) (pc' := 84) rfl (hb hby d1_74) rfl (feq hc74).2 (by decide) (by decide) ?_
                  show Steps p.tables e below (s₁.setTop (mkF m 84 #[.val (.int p1), .unset] [])) _
                  refine XS.iloadN X0.here hx rfl (hb hby d1_84) rfl ?_
                  show Steps p.tables e below (s₁.setTop (mkF m 85 #[.val (.int p1), .unset] [(.int p1)])) _
                  refine XS.sipush X0.here hx rfl (hb hby d1_85) ?_
                  exact kt
                by_cases hc88 : p1 < (400 : Int32)
                · refine Ends.of (F' := s₁.setTop (mkF m 105 #[.val (.int p1), .unset] [])) (fun _ kt => ?_) ?_
                  · show Steps p.tables e below (s₁.setTop (mkF m 88 #[.val (.int p1), .unset] [(.int (400 : Int32)), (.int p1)])) _
                    refine XS.icmpYes X0.here hx rfl (pc0 := 88) (pc' := 105) rfl (hb hby d1_88) rfl (tlt hc88).1 (by decide) (by decide) ?_
                    exact kt
                  obtain ⟨T8, X8, e8, st8⟩ := getS2 X0 hx hZ hown (host := "") (Or.inl (hw _ (List.mem_of_getElem? (i := 5) rfl))) Via.refl e0 S_INTERNAL (g := (mkF m 105 #[.val (.int p1), .unset] [])) rfl (hb hby d1_105)
                  refine Ends.of st8 ?_
                  refine Ends.of (F' := T8.setTop (mkF m 110 #[.val (.int p1), .val (.ref it)] [(.ref it)])) (fun _ kt => ?_) ?_
                  · show Steps p.tables e below (T8.setTop (mkF m 108 #[.val (.int p1), .unset] [(.ref it)])) _
                    refine XS.astoreN X8.here hx rfl (hb hby d1_108) rfl rfl (l' := #[.val (.int p1), .val (.ref it)]) rfl ?_
                    show Steps p.tables e below (T8.setTop (mkF m 109 #[.val (.int p1), .val (.ref it)] [])) _
                    refine XS.aloadN X8.here hx rfl (hb hby d1_109) rfl rfl ?_
                    exact kt
                  obtain ⟨fs, hr, hrun, hended, hW, hsame⟩ := X8.leave (v := some (.ref it)) (fun h => by rw [Bd.returns] at h; cases h)
                  refine ⟨_, _, ?_, hrun, hended, _, _, rfl, ⟨by rw [own_st, if_neg hc4, if_neg hc18, if_neg hc32, if_neg hc46, if_neg hc60, if_neg hc67, if_neg hc74, if_pos hc88], N0, e8⟩, ⟨_, rfl⟩, hW, hsame.mono (by decide) (by decide)⟩
                  show Steps p.tables e below (T8.setTop (mkF m 110 #[.val (.int p1), .val (.ref it)] [(.ref it)])) _
                  jvm_step X8.here [X8.here.top, hx, (hb hby d1_110), X8.method', Bd.returns, Value.isRef, FieldType.isReference]
                  first | (intro acts; rw [hr _ acts rfl rfl rfl]) | rw [hr _ _ rfl rfl rfl]
                  exact Steps.refl _
                · refine Ends.of (F' := s₁.setTop (mkF m 95 #[.val (.int p1), .unset] [(.int (500 : Int32)), (.int p1)])) (fun _ kt => ?_) ?_
                  · show Steps p.tables e below (s₁.setTop (mkF m 88 #[.val (.int p1), .unset] [(.int (400 : Int32)), (.int p1)])) _
                    refine XS.icmpNo X0.here hx rfl (hb hby d1_88) rfl (flt hc88).1 ?_
                    show Steps p.tables e below (s₁.setTop (mkF m 91 #[.val (.int p1), .unset] [])) _
                    refine XS.iloadN X0.here hx rfl (hb hby d1_91) rfl ?_
                    show Steps p.tables e below (s₁.setTop (mkF m 92 #[.val (.int p1), .unset] [(.int p1)])) _
                    refine XS.sipush X0.here hx rfl (hb hby d1_92) ?_
                    exact kt
                  by_cases hc95 : p1 < (500 : Int32)
                  · refine Ends.of (F' := s₁.setTop (mkF m 98 #[.val (.int p1), .unset] [])) (fun _ kt => ?_) ?_
                    · show Steps p.tables e below (s₁.setTop (mkF m 95 #[.val (.int p1), .unset] [(.int (500 : Int32)), (.int p1)])) _
                      refine XS.icmpNo X0.here hx rfl (hb hby d1_95) rfl (tlt hc95).2.1 ?_
                      exact kt
                    obtain ⟨T9, X9, e9, st9⟩ := getS2 X0 hx hZ hown (host := "") (Or.inl (hw _ (List.mem_of_getElem? (i := 8) rfl))) Via.refl e0 S_INVALID_REQUEST (g := (mkF m 98 #[.val (.int p1), .unset] [])) rfl (hb hby d1_98)
                    refine Ends.of st9 ?_
                    refine Ends.of (F' := T9.setTop (mkF m 110 #[.val (.int p1), .val (.ref iv)] [(.ref iv)])) (fun _ kt => ?_) ?_
                    · show Steps p.tables e below (T9.setTop (mkF m 101 #[.val (.int p1), .unset] [(.ref iv)])) _
                      refine XS.astoreN X9.here hx rfl (hb hby d1_101) rfl rfl (l' := #[.val (.int p1), .val (.ref iv)]) rfl ?_
                      show Steps p.tables e below (T9.setTop (mkF m 102 #[.val (.int p1), .val (.ref iv)] [])) _
                      refine XS.goto X9.here hx rfl (pc0 := 102) (pc' := 109) rfl (hb hby d1_102) (by decide) (by decide) ?_
                      show Steps p.tables e below (T9.setTop (mkF m 109 #[.val (.int p1), .val (.ref iv)] [])) _
                      refine XS.aloadN X9.here hx rfl (hb hby d1_109) rfl rfl ?_
                      exact kt
                    obtain ⟨fs, hr, hrun, hended, hW, hsame⟩ := X9.leave (v := some (.ref iv)) (fun h => by rw [Bd.returns] at h; cases h)
                    refine ⟨_, _, ?_, hrun, hended, _, _, rfl, ⟨by rw [own_st, if_neg hc4, if_neg hc18, if_neg hc32, if_neg hc46, if_neg hc60, if_neg hc67, if_neg hc74, if_neg hc88, if_pos hc95], N0, e9⟩, ⟨_, rfl⟩, hW, hsame.mono (by decide) (by decide)⟩
                    show Steps p.tables e below (T9.setTop (mkF m 110 #[.val (.int p1), .val (.ref iv)] [(.ref iv)])) _
                    jvm_step X9.here [X9.here.top, hx, (hb hby d1_110), X9.method', Bd.returns, Value.isRef, FieldType.isReference]
                    first | (intro acts; rw [hr _ acts rfl rfl rfl]) | rw [hr _ _ rfl rfl rfl]
                    exact Steps.refl _
                  · refine Ends.of (F' := s₁.setTop (mkF m 105 #[.val (.int p1), .unset] [])) (fun _ kt => ?_) ?_
                    · show Steps p.tables e below (s₁.setTop (mkF m 95 #[.val (.int p1), .unset] [(.int (500 : Int32)), (.int p1)])) _
                      refine XS.icmpYes X0.here hx rfl (pc0 := 95) (pc' := 105) rfl (hb hby d1_95) rfl (flt hc95).2.1 (by decide) (by decide) ?_
                      exact kt
                    obtain ⟨T10, X10, e10, st10⟩ := getS2 X0 hx hZ hown (host := "") (Or.inl (hw _ (List.mem_of_getElem? (i := 5) rfl))) Via.refl e0 S_INTERNAL (g := (mkF m 105 #[.val (.int p1), .unset] [])) rfl (hb hby d1_105)
                    refine Ends.of st10 ?_
                    refine Ends.of (F' := T10.setTop (mkF m 110 #[.val (.int p1), .val (.ref it)] [(.ref it)])) (fun _ kt => ?_) ?_
                    · show Steps p.tables e below (T10.setTop (mkF m 108 #[.val (.int p1), .unset] [(.ref it)])) _
                      refine XS.astoreN X10.here hx rfl (hb hby d1_108) rfl rfl (l' := #[.val (.int p1), .val (.ref it)]) rfl ?_
                      show Steps p.tables e below (T10.setTop (mkF m 109 #[.val (.int p1), .val (.ref it)] [])) _
                      refine XS.aloadN X10.here hx rfl (hb hby d1_109) rfl rfl ?_
                      exact kt
                    obtain ⟨fs, hr, hrun, hended, hW, hsame⟩ := X10.leave (v := some (.ref it)) (fun h => by rw [Bd.returns] at h; cases h)
                    refine ⟨_, _, ?_, hrun, hended, _, _, rfl, ⟨by rw [own_st, if_neg hc4, if_neg hc18, if_neg hc32, if_neg hc46, if_neg hc60, if_neg hc67, if_neg hc74, if_neg hc88, if_neg hc95], N0, e10⟩, ⟨_, rfl⟩, hW, hsame.mono (by decide) (by decide)⟩
                    show Steps p.tables e below (T10.setTop (mkF m 110 #[.val (.int p1), .val (.ref it)] [(.ref it)])) _
                    jvm_step X10.here [X10.here.top, hx, (hb hby d1_110), X10.method', Bd.returns, Value.isRef, FieldType.isReference]
                    first | (intro acts; rw [hr _ acts rfl rfl rfl]) | rw [hr _ _ rfl rfl rfl]
                    exact Steps.refl _
theorem d2_0 : decode prog_57_method_4_code 0 = .ok (.aload_n 0, 1) := by decide +kernel
theorem d2_1 : decode prog_57_method_4_code 1 = .ok (.getfield 56, 3) := by decide +kernel
theorem d2_4 : decode prog_57_method_4_code 4 = .ok (.ireturn, 1) := by decide +kernel
def Q2 (Z : State) (a1 : Addr) (w2 : Int32) (h0 : Heap) (n0 : Nat) (v : Option Value) (h : Heap) (L : List Loc) : Prop := v = some (.int w2) ∧ Fr n0 L ∧ h = h0
set_option maxRecDepth 65536 in
set_option maxHeartbeats 40000000 in
theorem rm2 (l : Launch) (Z : State) (a0 : Array Value) (hw : ∀ d ∈ tables_1, d.before a0 Z = true) (ws : List Jvm.Cond) (a1 : Addr) (w2 : Int32) (h0 : Heap) (n0 : Nat) (Z0 : n0 ≤ h0.size) (F : Fld Z h0 a1 "com/example/tenantd/tenantd/server/Problem" "status" "I" (.int w2)) :
    MetFree l (⟨"com/example/tenantd/tenantd/server/Problem", "status", "()I"⟩ : MethodName) (head1 (Jvm.Cond.code (⟨"com/example/tenantd/tenantd/server/Problem", "status", "()I"⟩ : MethodName) prog_57_method_4_code 1 (some .int) :: ws) ({ frames := 0, cells := 0, slots := 0, locals := 0 } : Room)) (fun a U => a = #[(.ref a1)] ∧ Z.Warmed39 U.vm ∧ U.heap = h0) (fun _ _ _ _ _ => True) (fun _ U o U' => ∃ v L, o = .returned v ∧ Q2 Z a1 w2 h0 n0 v U'.heap L ∧ FrameEnd U o U' L ({ frames := 0, cells := 0, slots := 0, locals := 0 } : Room).cells ({ frames := 0, cells := 0, slots := 0, locals := 0 } : Room).slots) := by
  refine MetFree.of_bodySF (plainFor_of_name pn_0) hisR ?_
  intro p e s m args below meth c s₁ Bd hml0 hP hK
  obtain ⟨rfl, hZ, hh⟩ := hP
  have hx := Bd.exec
  have hby := Bd.bytes
  have hml : c.maxLocals = 1 := hml0
  have hown : s.vm.findClass "com/example/tenantd/tenantd/server/Problem" = some m.cls := findClass_of_methodNamed Bd.named
  have hnm := (name_of_methodNamed Bd.named Bd.method).1
  have X0 : Stand p l e ({ frames := 0, cells := 0, slots := 0, locals := 0 } : Room) s m #[(.ref a1)] below meth c s₁ [] 0 0 := Stand.of_body Bd
  have e0 : s₁.heap = h0 := by rw [← hh, Bd.state]; rfl
  have N0 := Fr.nil n0
  have eF : entryFrame m #[(.ref a1)] 1 = mkF m 0 #[.val (.ref a1)] [] := by first | (simp [entryFrame, mkF, argsToLocals, Value.category]; done) | rfl
  show Ends p e below s ({ frames := 0, cells := 0, slots := 0, locals := 0 } : Room) (Q2 Z a1 w2 h0 n0) (s₁.setTop (entryFrame m #[(.ref a1)] 1))
  rw [eF]
  refine Ends.of (F' := s₁.setTop (mkF m 1 #[.val (.ref a1)] [(.ref a1)])) (fun _ kt => ?_) ?_
  · show Steps p.tables e below (s₁.setTop (mkF m 0 #[.val (.ref a1)] [])) _
    refine XS.aloadN X0.here hx rfl (hb hby d2_0) rfl rfl ?_
    exact kt
  obtain ⟨T11, X11, e11, st11⟩ := getF X0 hx hZ hown (host := "") (Or.inl (hw _ (List.mem_of_getElem? (i := 18) rfl))) Via.refl e0 F (g := (mkF m 1 #[.val (.ref a1)] [(.ref a1)])) rfl rfl (hb hby d2_1)
  refine Ends.of st11 ?_
  obtain ⟨fs, hr, hrun, hended, hW, hsame⟩ := X11.leave (v := some (.int w2)) (fun h => by rw [Bd.returns] at h; cases h)
  exact ⟨_, _, retI X11 hx Bd.returns (hb hby d2_4) hr, hrun, hended, _, _, rfl, ⟨rfl, N0, e11⟩, ⟨_, rfl⟩, hW, hsame.mono (by decide) (by decide)⟩
theorem pn_1 : plainName "com/example/tenantd/tenantd/server/ProblemForStatusPinLaw" = true := by first | (simp [plainName, overriddenIn]; done) | decide +kernel
def Q0 (Z : State) (p1 : Int32) (p2 : Int32) (un : Addr) (fo : Addr) (nf : Addr) (mn : Addr) (tl : Addr) (iv : Addr) (it : Addr) (h0 : Heap) (n0 : Nat) (v : Option Value) (h : Heap) (L : List Loc) : Prop := v = some (.int (1 : Int32)) ∧ Fr n0 L
set_option maxRecDepth 65536 in
set_option maxHeartbeats 40000000 in
theorem rm0 (l : Launch) (Z : State) (a0 : Array Value) (hw : ∀ d ∈ tables_1, d.before a0 Z = true) (ws : List Jvm.Cond) (p1 : Int32) (p2 : Int32) (un : Addr) (fo : Addr) (nf : Addr) (mn : Addr) (tl : Addr) (iv : Addr) (it : Addr) (h0 : Heap) (n0 : Nat) (Z0 : n0 ≤ h0.size) (S_UNAUTHORIZED : Sta Z h0 "com/example/tenantd/tenantd/server/Problem" "UNAUTHORIZED" "Lcom/example/tenantd/tenantd/server/Problem;" (.ref un)) (S_FORBIDDEN : Sta Z h0 "com/example/tenantd/tenantd/server/Problem" "FORBIDDEN" "Lcom/example/tenantd/tenantd/server/Problem;" (.ref fo)) (S_NOT_FOUND : Sta Z h0 "com/example/tenantd/tenantd/server/Problem" "NOT_FOUND" "Lcom/example/tenantd/tenantd/server/Problem;" (.ref nf)) (S_METHOD_NOT_ALLOWED : Sta Z h0 "com/example/tenantd/tenantd/server/Problem" "METHOD_NOT_ALLOWED" "Lcom/example/tenantd/tenantd/server/Problem;" (.ref mn)) (S_TOO_LARGE : Sta Z h0 "com/example/tenantd/tenantd/server/Problem" "TOO_LARGE" "Lcom/example/tenantd/tenantd/server/Problem;" (.ref tl)) (S_INVALID_REQUEST : Sta Z h0 "com/example/tenantd/tenantd/server/Problem" "INVALID_REQUEST" "Lcom/example/tenantd/tenantd/server/Problem;" (.ref iv)) (S_INTERNAL : Sta Z h0 "com/example/tenantd/tenantd/server/Problem" "INTERNAL" "Lcom/example/tenantd/tenantd/server/Problem;" (.ref it)) (E_UNAUTHORIZED : Exa Z h0 un "com/example/tenantd/tenantd/server/Problem") (E_FORBIDDEN : Exa Z h0 fo "com/example/tenantd/tenantd/server/Problem") (E_NOT_FOUND : Exa Z h0 nf "com/example/tenantd/tenantd/server/Problem") (E_METHOD_NOT_ALLOWED : Exa Z h0 mn "com/example/tenantd/tenantd/server/Problem") (F_UNAUTHORIZED : Fld Z h0 un "com/example/tenantd/tenantd/server/Problem" "status" "I" (.int (401 : Int32))) (F_FORBIDDEN : Fld Z h0 fo "com/example/tenantd/tenantd/server/Problem" "status" "I" (.int (403 : Int32))) (F_NOT_FOUND : Fld Z h0 nf "com/example/tenantd/tenantd/server/Problem" "status" "I" (.int (404 : Int32))) (F_METHOD_NOT_ALLOWED : Fld Z h0 mn "com/example/tenantd/tenantd/server/Problem" "status" "I" (.int (405 : Int32))) :
    MetFree l x (head1 (Jvm.Cond.code x code maxLocals ret :: ws) room_1) (fun a U => a = #[(.int p1), (.int p2)] ∧ Z.Warmed39 U.vm ∧ U.heap = h0) (fun _ _ _ _ _ => True) (fun _ U o U' => ∃ v L, o = .returned v ∧ Q0 Z p1 p2 un fo nf mn tl iv it h0 n0 v U'.heap L ∧ FrameEnd U o U' L room_1.cells room_1.slots) := by
  refine MetFree.of_bodySF (plainFor_of_name pn_1) hisR ?_
  intro p e s m args below meth c s₁ Bd hml0 hP hK
  obtain ⟨rfl, hZ, hh⟩ := hP
  have hx := Bd.exec
  have hby := Bd.bytes
  have hml : c.maxLocals = 5 := hml0
  have hown : s.vm.findClass "com/example/tenantd/tenantd/server/ProblemForStatusPinLaw" = some m.cls := findClass_of_methodNamed Bd.named
  have hnm := (name_of_methodNamed Bd.named Bd.method).1
  have X0 : Stand p l e room_1 s m #[(.int p1), (.int p2)] below meth c s₁ [] 0 0 := Stand.of_body Bd
  have e0 : s₁.heap = h0 := by rw [← hh, Bd.state]; rfl
  have N0 := Fr.nil n0
  have eF : entryFrame m #[(.int p1), (.int p2)] maxLocals = mkF m 0 #[.val (.int p1), .val (.int p2), .unset, .unset, .unset] [] := by first | (simp [entryFrame, mkF, argsToLocals, Value.category, maxLocals]; done) | rfl
  show Ends p e below s room_1 (Q0 Z p1 p2 un fo nf mn tl iv it h0 n0) (s₁.setTop (entryFrame m #[(.int p1), (.int p2)] maxLocals))
  rw [eF]
  have blk : ∀ t : Int32, Ends p e below s room_1 (Q0 Z p1 p2 un fo nf mn tl iv it h0 n0) (s₁.setTop (mkF m 23 #[.val (.int p1), .val (.int p2), .val (.int t), .unset, .unset] [])) := by
    intro t
    refine Ends.of (F' := s₁.setTop (mkF m 24 #[.val (.int p1), .val (.int p2), .val (.int t), .unset, .unset] [(.int t)])) (fun _ kt => ?_) ?_
    · show Steps p.tables e below (s₁.setTop (mkF m 23 #[.val (.int p1), .val (.int p2), .val (.int t), .unset, .unset] [])) _
      refine XS.iloadN X0.here hx rfl (hb hby at_23) rfl ?_
      exact kt
    obtain ⟨_, _, ⟨T12, L12, k12, n12⟩, -, X12, ⟨Lc12, hQ12, l12, y12, z12⟩, st12⟩ := Jvm.LawKit.callS X0 hx (y := (⟨"com/example/tenantd/tenantd/server/Problem", "forStatus", "(I)Lcom/example/tenantd/tenantd/server/Problem;"⟩ : MethodName)) hown (mvT hZ (hw _ (List.mem_of_getElem? (i := 1) rfl))) (mvT hZ (hw _ (List.mem_of_getElem? (i := 2) rfl))) (mvT hZ (hw _ (List.mem_of_getElem? (i := 3) rfl))) (mvT hZ (hw _ (List.mem_of_getElem? (i := 4) rfl))) (by decide) (backOf (W := 0) (rm1 l Z a0 hw [] t un fo nf mn tl iv it h0 n0 Z0 S_UNAUTHORIZED S_FORBIDDEN S_NOT_FOUND S_METHOD_NOT_ALLOWED S_TOO_LARGE S_INVALID_REQUEST S_INTERNAL) hZ (hw _ (List.mem_of_getElem? (i := 4) rfl)) (hw _ (List.mem_of_getElem? (i := 3) rfl)) (by decide) (by decide)) (g := (mkF m 24 #[.val (.int p1), .val (.int p2), .val (.int t), .unset, .unset] [(.int t)])) rfl (by rw [hml]; rfl) (argsL := [(.int t)]) (rest := []) (lenOf pd_0 rfl) rfl (by show 2 * 0 + _ ≤ _; exact Nat.le_of_eq rfl) (hb hby at_24) (fun _ _ => ⟨rfl, e0, (by decide : 0 + 0 ≤ _), (by decide : 0 + 0 ≤ _)⟩)
    dsimp only [Pt.U, Pt.locs, Pt.cells, Pt.slots] at X12 l12 y12 z12 st12 hQ12
    subst l12 y12 z12
    obtain ⟨rfl, N12q, e12⟩ := hQ12
    have N12 := Fr.app N0 N12q
    refine Ends.of st12 ?_
    refine Ends.of (F' := T12.setTop (mkF m 38 #[.val (.int p1), .val (.int p2), .val (.int t), .val (.ref (own_st un fo nf mn tl iv it t)), .unset] [(.int (400 : Int32)), (.int t)])) (fun _ kt => ?_) ?_
    · show Steps p.tables e below (T12.setTop (mkF m 27 #[.val (.int p1), .val (.int p2), .val (.int t), .unset, .unset] [(.ref (own_st un fo nf mn tl iv it t))])) _
      refine XS.astoreN X12.here hx rfl (hb hby at_27) rfl rfl (l' := #[.val (.int p1), .val (.int p2), .val (.int t), .val (.ref (own_st un fo nf mn tl iv it t)), .unset]) rfl ?_
      show Steps p.tables e below (T12.setTop (mkF m 28 #[.val (.int p1), .val (.int p2), .val (.int t), .val (.ref (own_st un fo nf mn tl iv it t)), .unset] [])) _
      refine XS.aloadN X12.here hx rfl (hb hby at_28) rfl rfl ?_
      show Steps p.tables e below (T12.setTop (mkF m 29 #[.val (.int p1), .val (.int p2), .val (.int t), .val (.ref (own_st un fo nf mn tl iv it t)), .unset] [(.ref (own_st un fo nf mn tl iv it t))])) _
      refine XS.ifnonnullYes X12.here hx rfl (pc0 := 29) (pc' := 34) rfl (hb hby at_29) rfl (by decide) (by decide) ?_
      show Steps p.tables e below (T12.setTop (mkF m 34 #[.val (.int p1), .val (.int p2), .val (.int t), .val (.ref (own_st un fo nf mn tl iv it t)), .unset] [])) _
      refine XS.iloadN X12.here hx rfl (hb hby at_34) rfl ?_
      show Steps p.tables e below (T12.setTop (mkF m 35 #[.val (.int p1), .val (.int p2), .val (.int t), .val (.ref (own_st un fo nf mn tl iv it t)), .unset] [(.int t)])) _
      refine XS.sipush X12.here hx rfl (hb hby at_35) ?_
      exact kt
    by_cases h0t : t < (400 : Int32)
    · refine Ends.of (F' := T12.setTop (mkF m 61 #[.val (.int p1), .val (.int p2), .val (.int t), .val (.ref (own_st un fo nf mn tl iv it t)), .val (.int (0 : Int32))] [(.ref (own_st un fo nf mn tl iv it t))])) (fun _ kt => ?_) ?_
      · show Steps p.tables e below (T12.setTop (mkF m 38 #[.val (.int p1), .val (.int p2), .val (.int t), .val (.ref (own_st un fo nf mn tl iv it t)), .unset] [(.int (400 : Int32)), (.int t)])) _
        refine XS.icmpYes X12.here hx rfl (pc0 := 38) (pc' := 52) rfl (hb hby at_38) rfl (tlt h0t).1 (by decide) (by decide) ?_
        show Steps p.tables e below (T12.setTop (mkF m 52 #[.val (.int p1), .val (.int p2), .val (.int t), .val (.ref (own_st un fo nf mn tl iv it t)), .unset] [])) _
        refine XS.iconst X12.here hx rfl (hb hby at_52) ?_
        show Steps p.tables e below (T12.setTop (mkF m 53 #[.val (.int p1), .val (.int p2), .val (.int t), .val (.ref (own_st un fo nf mn tl iv it t)), .unset] [(.int (0 : Int32))])) _
        refine XS.istore X12.here hx rfl (hb hby at_53) rfl (l' := #[.val (.int p1), .val (.int p2), .val (.int t), .val (.ref (own_st un fo nf mn tl iv it t)), .val (.int (0 : Int32))]) rfl ?_
        show Steps p.tables e below (T12.setTop (mkF m 55 #[.val (.int p1), .val (.int p2), .val (.int t), .val (.ref (own_st un fo nf mn tl iv it t)), .val (.int (0 : Int32))] [])) _
        refine XS.iload X12.here hx rfl (hb hby at_55) rfl ?_
        show Steps p.tables e below (T12.setTop (mkF m 57 #[.val (.int p1), .val (.int p2), .val (.int t), .val (.ref (own_st un fo nf mn tl iv it t)), .val (.int (0 : Int32))] [(.int (0 : Int32))])) _
        refine XS.ifNo X12.here hx rfl (hb hby at_57) rfl ((if0 _ _).trans (teq rfl).2) ?_
        show Steps p.tables e below (T12.setTop (mkF m 60 #[.val (.int p1), .val (.int p2), .val (.int t), .val (.ref (own_st un fo nf mn tl iv it t)), .val (.int (0 : Int32))] [])) _
        refine XS.aloadN X12.here hx rfl (hb hby at_60) rfl rfl ?_
        exact kt
      obtain ⟨T13, X13, e13, st13⟩ := getS2 X12 hx hZ hown (host := "") (Or.inl (hw _ (List.mem_of_getElem? (i := 7) rfl))) Via.refl e12 S_INTERNAL (g := (mkF m 61 #[.val (.int p1), .val (.int p2), .val (.int t), .val (.ref (own_st un fo nf mn tl iv it t)), .val (.int (0 : Int32))] [(.ref (own_st un fo nf mn tl iv it t))])) rfl (hb hby at_61)
      refine Ends.of st13 ?_
      refine Ends.of (F' := T13.setTop (mkF m 72 #[.val (.int p1), .val (.int p2), .val (.int t), .val (.ref (own_st un fo nf mn tl iv it t)), .val (.int (0 : Int32))] [(.int (1 : Int32))])) (fun _ kt => ?_) ?_
      · show Steps p.tables e below (T13.setTop (mkF m 64 #[.val (.int p1), .val (.int p2), .val (.int t), .val (.ref (own_st un fo nf mn tl iv it t)), .val (.int (0 : Int32))] [(.ref it), (.ref (own_st un fo nf mn tl iv it t))])) _
        refine Jvm.RoadKit.acmp (g := (mkF m 64 #[.val (.int p1), .val (.int p2), .val (.int t), .val (.ref (own_st un fo nf mn tl iv it t)), .val (.int (0 : Int32))] [(.ref it), (.ref (own_st un fo nf mn tl iv it t))])) X13 hx rfl rfl rfl (pc0 := 64) (pc' := 67) (same := true) rfl (hb hby at_64) rfl (decide_eq_true (congrArg Value.ref (own_it (Or.inl h0t)))) (by decide) (by decide) ?_
        show Steps p.tables e below (T13.setTop (mkF m 67 #[.val (.int p1), .val (.int p2), .val (.int t), .val (.ref (own_st un fo nf mn tl iv it t)), .val (.int (0 : Int32))] [])) _
        refine XS.iconst X13.here hx rfl (hb hby at_67) ?_
        show Steps p.tables e below (T13.setTop (mkF m 68 #[.val (.int p1), .val (.int p2), .val (.int t), .val (.ref (own_st un fo nf mn tl iv it t)), .val (.int (0 : Int32))] [(.int (1 : Int32))])) _
        refine XS.goto X13.here hx rfl (pc0 := 68) (pc' := 72) rfl (hb hby at_68) (by decide) (by decide) ?_
        exact kt
      obtain ⟨fs, hr, hrun, hended, hW, hsame⟩ := X13.leave (v := some (.int (1 : Int32))) (fun h => by rw [Bd.returns] at h; cases h)
      exact ⟨_, _, retN X13 hx (t := .boolean) Bd.returns (by simp) (hb hby at_72) hr, hrun, hended, _, _, rfl, ⟨rfl, N12⟩, ⟨_, rfl⟩, hW, hsame.mono (by decide) (by decide)⟩
    · refine Ends.of (F' := T12.setTop (mkF m 45 #[.val (.int p1), .val (.int p2), .val (.int t), .val (.ref (own_st un fo nf mn tl iv it t)), .unset] [(.int (499 : Int32)), (.int t)])) (fun _ kt => ?_) ?_
      · show Steps p.tables e below (T12.setTop (mkF m 38 #[.val (.int p1), .val (.int p2), .val (.int t), .val (.ref (own_st un fo nf mn tl iv it t)), .unset] [(.int (400 : Int32)), (.int t)])) _
        refine XS.icmpNo X12.here hx rfl (hb hby at_38) rfl (flt h0t).1 ?_
        show Steps p.tables e below (T12.setTop (mkF m 41 #[.val (.int p1), .val (.int p2), .val (.int t), .val (.ref (own_st un fo nf mn tl iv it t)), .unset] [])) _
        refine XS.iloadN X12.here hx rfl (hb hby at_41) rfl ?_
        show Steps p.tables e below (T12.setTop (mkF m 42 #[.val (.int p1), .val (.int p2), .val (.int t), .val (.ref (own_st un fo nf mn tl iv it t)), .unset] [(.int t)])) _
        refine XS.sipush X12.here hx rfl (hb hby at_42) ?_
        exact kt
      by_cases h9t : (499 : Int32) < t
      · refine Ends.of (F' := T12.setTop (mkF m 61 #[.val (.int p1), .val (.int p2), .val (.int t), .val (.ref (own_st un fo nf mn tl iv it t)), .val (.int (0 : Int32))] [(.ref (own_st un fo nf mn tl iv it t))])) (fun _ kt => ?_) ?_
        · show Steps p.tables e below (T12.setTop (mkF m 45 #[.val (.int p1), .val (.int p2), .val (.int t), .val (.ref (own_st un fo nf mn tl iv it t)), .unset] [(.int (499 : Int32)), (.int t)])) _
          refine XS.icmpYes X12.here hx rfl (pc0 := 45) (pc' := 52) rfl (hb hby at_45) rfl (tlt h9t).2.2.1 (by decide) (by decide) ?_
          show Steps p.tables e below (T12.setTop (mkF m 52 #[.val (.int p1), .val (.int p2), .val (.int t), .val (.ref (own_st un fo nf mn tl iv it t)), .unset] [])) _
          refine XS.iconst X12.here hx rfl (hb hby at_52) ?_
          show Steps p.tables e below (T12.setTop (mkF m 53 #[.val (.int p1), .val (.int p2), .val (.int t), .val (.ref (own_st un fo nf mn tl iv it t)), .unset] [(.int (0 : Int32))])) _
          refine XS.istore X12.here hx rfl (hb hby at_53) rfl (l' := #[.val (.int p1), .val (.int p2), .val (.int t), .val (.ref (own_st un fo nf mn tl iv it t)), .val (.int (0 : Int32))]) rfl ?_
          show Steps p.tables e below (T12.setTop (mkF m 55 #[.val (.int p1), .val (.int p2), .val (.int t), .val (.ref (own_st un fo nf mn tl iv it t)), .val (.int (0 : Int32))] [])) _
          refine XS.iload X12.here hx rfl (hb hby at_55) rfl ?_
          show Steps p.tables e below (T12.setTop (mkF m 57 #[.val (.int p1), .val (.int p2), .val (.int t), .val (.ref (own_st un fo nf mn tl iv it t)), .val (.int (0 : Int32))] [(.int (0 : Int32))])) _
          refine XS.ifNo X12.here hx rfl (hb hby at_57) rfl ((if0 _ _).trans (teq rfl).2) ?_
          show Steps p.tables e below (T12.setTop (mkF m 60 #[.val (.int p1), .val (.int p2), .val (.int t), .val (.ref (own_st un fo nf mn tl iv it t)), .val (.int (0 : Int32))] [])) _
          refine XS.aloadN X12.here hx rfl (hb hby at_60) rfl rfl ?_
          exact kt
        obtain ⟨T14, X14, e14, st14⟩ := getS2 X12 hx hZ hown (host := "") (Or.inl (hw _ (List.mem_of_getElem? (i := 7) rfl))) Via.refl e12 S_INTERNAL (g := (mkF m 61 #[.val (.int p1), .val (.int p2), .val (.int t), .val (.ref (own_st un fo nf mn tl iv it t)), .val (.int (0 : Int32))] [(.ref (own_st un fo nf mn tl iv it t))])) rfl (hb hby at_61)
        refine Ends.of st14 ?_
        refine Ends.of (F' := T14.setTop (mkF m 72 #[.val (.int p1), .val (.int p2), .val (.int t), .val (.ref (own_st un fo nf mn tl iv it t)), .val (.int (0 : Int32))] [(.int (1 : Int32))])) (fun _ kt => ?_) ?_
        · show Steps p.tables e below (T14.setTop (mkF m 64 #[.val (.int p1), .val (.int p2), .val (.int t), .val (.ref (own_st un fo nf mn tl iv it t)), .val (.int (0 : Int32))] [(.ref it), (.ref (own_st un fo nf mn tl iv it t))])) _
          refine Jvm.RoadKit.acmp (g := (mkF m 64 #[.val (.int p1), .val (.int p2), .val (.int t), .val (.ref (own_st un fo nf mn tl iv it t)), .val (.int (0 : Int32))] [(.ref it), (.ref (own_st un fo nf mn tl iv it t))])) X14 hx rfl rfl rfl (pc0 := 64) (pc' := 67) (same := true) rfl (hb hby at_64) rfl (decide_eq_true (congrArg Value.ref (own_it (Or.inr h9t)))) (by decide) (by decide) ?_
          show Steps p.tables e below (T14.setTop (mkF m 67 #[.val (.int p1), .val (.int p2), .val (.int t), .val (.ref (own_st un fo nf mn tl iv it t)), .val (.int (0 : Int32))] [])) _
          refine XS.iconst X14.here hx rfl (hb hby at_67) ?_
          show Steps p.tables e below (T14.setTop (mkF m 68 #[.val (.int p1), .val (.int p2), .val (.int t), .val (.ref (own_st un fo nf mn tl iv it t)), .val (.int (0 : Int32))] [(.int (1 : Int32))])) _
          refine XS.goto X14.here hx rfl (pc0 := 68) (pc' := 72) rfl (hb hby at_68) (by decide) (by decide) ?_
          exact kt
        obtain ⟨fs, hr, hrun, hended, hW, hsame⟩ := X14.leave (v := some (.int (1 : Int32))) (fun h => by rw [Bd.returns] at h; cases h)
        exact ⟨_, _, retN X14 hx (t := .boolean) Bd.returns (by simp) (hb hby at_72) hr, hrun, hended, _, _, rfl, ⟨rfl, N12⟩, ⟨_, rfl⟩, hW, hsame.mono (by decide) (by decide)⟩
      · refine Ends.of (F' := T12.setTop (mkF m 77 #[.val (.int p1), .val (.int p2), .val (.int t), .val (.ref (own_st un fo nf mn tl iv it t)), .val (.int (1 : Int32))] [(.int (413 : Int32)), (.int t)])) (fun _ kt => ?_) ?_
        · show Steps p.tables e below (T12.setTop (mkF m 45 #[.val (.int p1), .val (.int p2), .val (.int t), .val (.ref (own_st un fo nf mn tl iv it t)), .unset] [(.int (499 : Int32)), (.int t)])) _
          refine XS.icmpNo X12.here hx rfl (hb hby at_45) rfl (flt h9t).2.2.1 ?_
          show Steps p.tables e below (T12.setTop (mkF m 48 #[.val (.int p1), .val (.int p2), .val (.int t), .val (.ref (own_st un fo nf mn tl iv it t)), .unset] [])) _
          refine XS.iconst X12.here hx rfl (hb hby at_48) ?_
          show Steps p.tables e below (T12.setTop (mkF m 49 #[.val (.int p1), .val (.int p2), .val (.int t), .val (.ref (own_st un fo nf mn tl iv it t)), .unset] [(.int (1 : Int32))])) _
          refine XS.goto X12.here hx rfl (pc0 := 49) (pc' := 53) rfl (hb hby at_49) (by decide) (by decide) ?_
          show Steps p.tables e below (T12.setTop (mkF m 53 #[.val (.int p1), .val (.int p2), .val (.int t), .val (.ref (own_st un fo nf mn tl iv it t)), .unset] [(.int (1 : Int32))])) _
          refine XS.istore X12.here hx rfl (hb hby at_53) rfl (l' := #[.val (.int p1), .val (.int p2), .val (.int t), .val (.ref (own_st un fo nf mn tl iv it t)), .val (.int (1 : Int32))]) rfl ?_
          show Steps p.tables e below (T12.setTop (mkF m 55 #[.val (.int p1), .val (.int p2), .val (.int t), .val (.ref (own_st un fo nf mn tl iv it t)), .val (.int (1 : Int32))] [])) _
          refine XS.iload X12.here hx rfl (hb hby at_55) rfl ?_
          show Steps p.tables e below (T12.setTop (mkF m 57 #[.val (.int p1), .val (.int p2), .val (.int t), .val (.ref (own_st un fo nf mn tl iv it t)), .val (.int (1 : Int32))] [(.int (1 : Int32))])) _
          refine XS.ifYes X12.here hx rfl (pc0 := 57) (pc' := 73) rfl (hb hby at_57) rfl ((if0 _ _).trans (feq (by decide)).2) (by decide) (by decide) ?_
          show Steps p.tables e below (T12.setTop (mkF m 73 #[.val (.int p1), .val (.int p2), .val (.int t), .val (.ref (own_st un fo nf mn tl iv it t)), .val (.int (1 : Int32))] [])) _
          refine XS.iloadN X12.here hx rfl (hb hby at_73) rfl ?_
          show Steps p.tables e below (T12.setTop (mkF m 74 #[.val (.int p1), .val (.int p2), .val (.int t), .val (.ref (own_st un fo nf mn tl iv it t)), .val (.int (1 : Int32))] [(.int t)])) _
          refine XS.sipush X12.here hx rfl (hb hby at_74) ?_
          exact kt
        by_cases h413 : t = (413 : Int32)
        · refine Ends.of (F' := T12.setTop (mkF m 95 #[.val (.int p1), .val (.int p2), .val (.int t), .val (.ref (own_st un fo nf mn tl iv it t)), .val (.int (1 : Int32))] [(.ref (own_st un fo nf mn tl iv it t))])) (fun _ kt => ?_) ?_
          · show Steps p.tables e below (T12.setTop (mkF m 77 #[.val (.int p1), .val (.int p2), .val (.int t), .val (.ref (own_st un fo nf mn tl iv it t)), .val (.int (1 : Int32))] [(.int (413 : Int32)), (.int t)])) _
            refine XS.icmpYes X12.here hx rfl (pc0 := 77) (pc' := 94) rfl (hb hby at_77) rfl (teq h413).1 (by decide) (by decide) ?_
            show Steps p.tables e below (T12.setTop (mkF m 94 #[.val (.int p1), .val (.int p2), .val (.int t), .val (.ref (own_st un fo nf mn tl iv it t)), .val (.int (1 : Int32))] [])) _
            refine XS.aloadN X12.here hx rfl (hb hby at_94) rfl rfl ?_
            exact kt
          obtain ⟨T15, X15, e15, st15⟩ := getS2 X12 hx hZ hown (host := "") (Or.inl (hw _ (List.mem_of_getElem? (i := 26) rfl))) Via.refl e12 S_TOO_LARGE (g := (mkF m 95 #[.val (.int p1), .val (.int p2), .val (.int t), .val (.ref (own_st un fo nf mn tl iv it t)), .val (.int (1 : Int32))] [(.ref (own_st un fo nf mn tl iv it t))])) rfl (hb hby at_95)
          refine Ends.of st15 ?_
          refine Ends.of (F' := T15.setTop (mkF m 106 #[.val (.int p1), .val (.int p2), .val (.int t), .val (.ref (own_st un fo nf mn tl iv it t)), .val (.int (1 : Int32))] [(.int (1 : Int32))])) (fun _ kt => ?_) ?_
          · show Steps p.tables e below (T15.setTop (mkF m 98 #[.val (.int p1), .val (.int p2), .val (.int t), .val (.ref (own_st un fo nf mn tl iv it t)), .val (.int (1 : Int32))] [(.ref tl), (.ref (own_st un fo nf mn tl iv it t))])) _
            refine Jvm.RoadKit.acmp (g := (mkF m 98 #[.val (.int p1), .val (.int p2), .val (.int t), .val (.ref (own_st un fo nf mn tl iv it t)), .val (.int (1 : Int32))] [(.ref tl), (.ref (own_st un fo nf mn tl iv it t))])) X15 hx rfl rfl rfl (pc0 := 98) (pc' := 101) (same := true) rfl (hb hby at_98) rfl (decide_eq_true (congrArg Value.ref (by rw [h413]; rfl))) (by decide) (by decide) ?_
            show Steps p.tables e below (T15.setTop (mkF m 101 #[.val (.int p1), .val (.int p2), .val (.int t), .val (.ref (own_st un fo nf mn tl iv it t)), .val (.int (1 : Int32))] [])) _
            refine XS.iconst X15.here hx rfl (hb hby at_101) ?_
            show Steps p.tables e below (T15.setTop (mkF m 102 #[.val (.int p1), .val (.int p2), .val (.int t), .val (.ref (own_st un fo nf mn tl iv it t)), .val (.int (1 : Int32))] [(.int (1 : Int32))])) _
            refine XS.goto X15.here hx rfl (pc0 := 102) (pc' := 106) rfl (hb hby at_102) (by decide) (by decide) ?_
            exact kt
          obtain ⟨fs, hr, hrun, hended, hW, hsame⟩ := X15.leave (v := some (.int (1 : Int32))) (fun h => by rw [Bd.returns] at h; cases h)
          exact ⟨_, _, retN X15 hx (t := .boolean) Bd.returns (by simp) (hb hby at_106) hr, hrun, hended, _, _, rfl, ⟨rfl, N12⟩, ⟨_, rfl⟩, hW, hsame.mono (by decide) (by decide)⟩
        · refine Ends.of (F' := T12.setTop (mkF m 84 #[.val (.int p1), .val (.int p2), .val (.int t), .val (.ref (own_st un fo nf mn tl iv it t)), .val (.int (1 : Int32))] [(.int (414 : Int32)), (.int t)])) (fun _ kt => ?_) ?_
          · show Steps p.tables e below (T12.setTop (mkF m 77 #[.val (.int p1), .val (.int p2), .val (.int t), .val (.ref (own_st un fo nf mn tl iv it t)), .val (.int (1 : Int32))] [(.int (413 : Int32)), (.int t)])) _
            refine XS.icmpNo X12.here hx rfl (hb hby at_77) rfl (feq h413).1 ?_
            show Steps p.tables e below (T12.setTop (mkF m 80 #[.val (.int p1), .val (.int p2), .val (.int t), .val (.ref (own_st un fo nf mn tl iv it t)), .val (.int (1 : Int32))] [])) _
            refine XS.iloadN X12.here hx rfl (hb hby at_80) rfl ?_
            show Steps p.tables e below (T12.setTop (mkF m 81 #[.val (.int p1), .val (.int p2), .val (.int t), .val (.ref (own_st un fo nf mn tl iv it t)), .val (.int (1 : Int32))] [(.int t)])) _
            refine XS.sipush X12.here hx rfl (hb hby at_81) ?_
            exact kt
          by_cases h414 : t = (414 : Int32)
          · refine Ends.of (F' := T12.setTop (mkF m 95 #[.val (.int p1), .val (.int p2), .val (.int t), .val (.ref (own_st un fo nf mn tl iv it t)), .val (.int (1 : Int32))] [(.ref (own_st un fo nf mn tl iv it t))])) (fun _ kt => ?_) ?_
            · show Steps p.tables e below (T12.setTop (mkF m 84 #[.val (.int p1), .val (.int p2), .val (.int t), .val (.ref (own_st un fo nf mn tl iv it t)), .val (.int (1 : Int32))] [(.int (414 : Int32)), (.int t)])) _
              refine XS.icmpYes X12.here hx rfl (pc0 := 84) (pc' := 94) rfl (hb hby at_84) rfl (teq h414).1 (by decide) (by decide) ?_
              show Steps p.tables e below (T12.setTop (mkF m 94 #[.val (.int p1), .val (.int p2), .val (.int t), .val (.ref (own_st un fo nf mn tl iv it t)), .val (.int (1 : Int32))] [])) _
              refine XS.aloadN X12.here hx rfl (hb hby at_94) rfl rfl ?_
              exact kt
            obtain ⟨T16, X16, e16, st16⟩ := getS2 X12 hx hZ hown (host := "") (Or.inl (hw _ (List.mem_of_getElem? (i := 26) rfl))) Via.refl e12 S_TOO_LARGE (g := (mkF m 95 #[.val (.int p1), .val (.int p2), .val (.int t), .val (.ref (own_st un fo nf mn tl iv it t)), .val (.int (1 : Int32))] [(.ref (own_st un fo nf mn tl iv it t))])) rfl (hb hby at_95)
            refine Ends.of st16 ?_
            refine Ends.of (F' := T16.setTop (mkF m 106 #[.val (.int p1), .val (.int p2), .val (.int t), .val (.ref (own_st un fo nf mn tl iv it t)), .val (.int (1 : Int32))] [(.int (1 : Int32))])) (fun _ kt => ?_) ?_
            · show Steps p.tables e below (T16.setTop (mkF m 98 #[.val (.int p1), .val (.int p2), .val (.int t), .val (.ref (own_st un fo nf mn tl iv it t)), .val (.int (1 : Int32))] [(.ref tl), (.ref (own_st un fo nf mn tl iv it t))])) _
              refine Jvm.RoadKit.acmp (g := (mkF m 98 #[.val (.int p1), .val (.int p2), .val (.int t), .val (.ref (own_st un fo nf mn tl iv it t)), .val (.int (1 : Int32))] [(.ref tl), (.ref (own_st un fo nf mn tl iv it t))])) X16 hx rfl rfl rfl (pc0 := 98) (pc' := 101) (same := true) rfl (hb hby at_98) rfl (decide_eq_true (congrArg Value.ref (by rw [h414]; rfl))) (by decide) (by decide) ?_
              show Steps p.tables e below (T16.setTop (mkF m 101 #[.val (.int p1), .val (.int p2), .val (.int t), .val (.ref (own_st un fo nf mn tl iv it t)), .val (.int (1 : Int32))] [])) _
              refine XS.iconst X16.here hx rfl (hb hby at_101) ?_
              show Steps p.tables e below (T16.setTop (mkF m 102 #[.val (.int p1), .val (.int p2), .val (.int t), .val (.ref (own_st un fo nf mn tl iv it t)), .val (.int (1 : Int32))] [(.int (1 : Int32))])) _
              refine XS.goto X16.here hx rfl (pc0 := 102) (pc' := 106) rfl (hb hby at_102) (by decide) (by decide) ?_
              exact kt
            obtain ⟨fs, hr, hrun, hended, hW, hsame⟩ := X16.leave (v := some (.int (1 : Int32))) (fun h => by rw [Bd.returns] at h; cases h)
            exact ⟨_, _, retN X16 hx (t := .boolean) Bd.returns (by simp) (hb hby at_106) hr, hrun, hended, _, _, rfl, ⟨rfl, N12⟩, ⟨_, rfl⟩, hW, hsame.mono (by decide) (by decide)⟩
          · refine Ends.of (F' := T12.setTop (mkF m 91 #[.val (.int p1), .val (.int p2), .val (.int t), .val (.ref (own_st un fo nf mn tl iv it t)), .val (.int (1 : Int32))] [(.int (431 : Int32)), (.int t)])) (fun _ kt => ?_) ?_
            · show Steps p.tables e below (T12.setTop (mkF m 84 #[.val (.int p1), .val (.int p2), .val (.int t), .val (.ref (own_st un fo nf mn tl iv it t)), .val (.int (1 : Int32))] [(.int (414 : Int32)), (.int t)])) _
              refine XS.icmpNo X12.here hx rfl (hb hby at_84) rfl (feq h414).1 ?_
              show Steps p.tables e below (T12.setTop (mkF m 87 #[.val (.int p1), .val (.int p2), .val (.int t), .val (.ref (own_st un fo nf mn tl iv it t)), .val (.int (1 : Int32))] [])) _
              refine XS.iloadN X12.here hx rfl (hb hby at_87) rfl ?_
              show Steps p.tables e below (T12.setTop (mkF m 88 #[.val (.int p1), .val (.int p2), .val (.int t), .val (.ref (own_st un fo nf mn tl iv it t)), .val (.int (1 : Int32))] [(.int t)])) _
              refine XS.sipush X12.here hx rfl (hb hby at_88) ?_
              exact kt
            by_cases h431 : t = (431 : Int32)
            · refine Ends.of (F' := T12.setTop (mkF m 95 #[.val (.int p1), .val (.int p2), .val (.int t), .val (.ref (own_st un fo nf mn tl iv it t)), .val (.int (1 : Int32))] [(.ref (own_st un fo nf mn tl iv it t))])) (fun _ kt => ?_) ?_
              · show Steps p.tables e below (T12.setTop (mkF m 91 #[.val (.int p1), .val (.int p2), .val (.int t), .val (.ref (own_st un fo nf mn tl iv it t)), .val (.int (1 : Int32))] [(.int (431 : Int32)), (.int t)])) _
                refine XS.icmpNo X12.here hx rfl (hb hby at_91) rfl (teq h431).2 ?_
                show Steps p.tables e below (T12.setTop (mkF m 94 #[.val (.int p1), .val (.int p2), .val (.int t), .val (.ref (own_st un fo nf mn tl iv it t)), .val (.int (1 : Int32))] [])) _
                refine XS.aloadN X12.here hx rfl (hb hby at_94) rfl rfl ?_
                exact kt
              obtain ⟨T17, X17, e17, st17⟩ := getS2 X12 hx hZ hown (host := "") (Or.inl (hw _ (List.mem_of_getElem? (i := 26) rfl))) Via.refl e12 S_TOO_LARGE (g := (mkF m 95 #[.val (.int p1), .val (.int p2), .val (.int t), .val (.ref (own_st un fo nf mn tl iv it t)), .val (.int (1 : Int32))] [(.ref (own_st un fo nf mn tl iv it t))])) rfl (hb hby at_95)
              refine Ends.of st17 ?_
              refine Ends.of (F' := T17.setTop (mkF m 106 #[.val (.int p1), .val (.int p2), .val (.int t), .val (.ref (own_st un fo nf mn tl iv it t)), .val (.int (1 : Int32))] [(.int (1 : Int32))])) (fun _ kt => ?_) ?_
              · show Steps p.tables e below (T17.setTop (mkF m 98 #[.val (.int p1), .val (.int p2), .val (.int t), .val (.ref (own_st un fo nf mn tl iv it t)), .val (.int (1 : Int32))] [(.ref tl), (.ref (own_st un fo nf mn tl iv it t))])) _
                refine Jvm.RoadKit.acmp (g := (mkF m 98 #[.val (.int p1), .val (.int p2), .val (.int t), .val (.ref (own_st un fo nf mn tl iv it t)), .val (.int (1 : Int32))] [(.ref tl), (.ref (own_st un fo nf mn tl iv it t))])) X17 hx rfl rfl rfl (pc0 := 98) (pc' := 101) (same := true) rfl (hb hby at_98) rfl (decide_eq_true (congrArg Value.ref (by rw [h431]; rfl))) (by decide) (by decide) ?_
                show Steps p.tables e below (T17.setTop (mkF m 101 #[.val (.int p1), .val (.int p2), .val (.int t), .val (.ref (own_st un fo nf mn tl iv it t)), .val (.int (1 : Int32))] [])) _
                refine XS.iconst X17.here hx rfl (hb hby at_101) ?_
                show Steps p.tables e below (T17.setTop (mkF m 102 #[.val (.int p1), .val (.int p2), .val (.int t), .val (.ref (own_st un fo nf mn tl iv it t)), .val (.int (1 : Int32))] [(.int (1 : Int32))])) _
                refine XS.goto X17.here hx rfl (pc0 := 102) (pc' := 106) rfl (hb hby at_102) (by decide) (by decide) ?_
                exact kt
              obtain ⟨fs, hr, hrun, hended, hW, hsame⟩ := X17.leave (v := some (.int (1 : Int32))) (fun h => by rw [Bd.returns] at h; cases h)
              exact ⟨_, _, retN X17 hx (t := .boolean) Bd.returns (by simp) (hb hby at_106) hr, hrun, hended, _, _, rfl, ⟨rfl, N12⟩, ⟨_, rfl⟩, hW, hsame.mono (by decide) (by decide)⟩
            · refine Ends.of (F' := T12.setTop (mkF m 111 #[.val (.int p1), .val (.int p2), .val (.int t), .val (.ref (own_st un fo nf mn tl iv it t)), .val (.int (1 : Int32))] [(.int (401 : Int32)), (.int t)])) (fun _ kt => ?_) ?_
              · show Steps p.tables e below (T12.setTop (mkF m 91 #[.val (.int p1), .val (.int p2), .val (.int t), .val (.ref (own_st un fo nf mn tl iv it t)), .val (.int (1 : Int32))] [(.int (431 : Int32)), (.int t)])) _
                refine XS.icmpYes X12.here hx rfl (pc0 := 91) (pc' := 107) rfl (hb hby at_91) rfl (feq h431).2 (by decide) (by decide) ?_
                show Steps p.tables e below (T12.setTop (mkF m 107 #[.val (.int p1), .val (.int p2), .val (.int t), .val (.ref (own_st un fo nf mn tl iv it t)), .val (.int (1 : Int32))] [])) _
                refine XS.iloadN X12.here hx rfl (hb hby at_107) rfl ?_
                show Steps p.tables e below (T12.setTop (mkF m 108 #[.val (.int p1), .val (.int p2), .val (.int t), .val (.ref (own_st un fo nf mn tl iv it t)), .val (.int (1 : Int32))] [(.int t)])) _
                refine XS.sipush X12.here hx rfl (hb hby at_108) ?_
                exact kt
              by_cases h401 : t = (401 : Int32)
              · have hs : (own_st un fo nf mn tl iv it t) = un := by rw [h401]; rfl
                have Ex : Exa Z h0 (own_st un fo nf mn tl iv it t) "com/example/tenantd/tenantd/server/Problem" := by rw [hs]; exact E_UNAUTHORIZED
                have Fx : Fld Z h0 (own_st un fo nf mn tl iv it t) "com/example/tenantd/tenantd/server/Problem" "status" "I" (.int (401 : Int32)) := by rw [hs]; exact F_UNAUTHORIZED
                refine Ends.of (F' := T12.setTop (mkF m 136 #[.val (.int p1), .val (.int p2), .val (.int t), .val (.ref (own_st un fo nf mn tl iv it t)), .val (.int (1 : Int32))] [(.ref (own_st un fo nf mn tl iv it t))])) (fun _ kt => ?_) ?_
                · show Steps p.tables e below (T12.setTop (mkF m 111 #[.val (.int p1), .val (.int p2), .val (.int t), .val (.ref (own_st un fo nf mn tl iv it t)), .val (.int (1 : Int32))] [(.int (401 : Int32)), (.int t)])) _
                  refine XS.icmpYes X12.here hx rfl (pc0 := 111) (pc' := 135) rfl (hb hby at_111) rfl (teq h401).1 (by decide) (by decide) ?_
                  show Steps p.tables e below (T12.setTop (mkF m 135 #[.val (.int p1), .val (.int p2), .val (.int t), .val (.ref (own_st un fo nf mn tl iv it t)), .val (.int (1 : Int32))] [])) _
                  refine XS.aloadN X12.here hx rfl (hb hby at_135) rfl rfl ?_
                  exact kt
                obtain ⟨cq18, kq18, q18a, q18b, q18c⟩ := isOf hZ e12 Ex
                obtain ⟨_, _, ⟨T18, L18, k18, n18⟩, -, X18, ⟨Lc18, hQ18, l18, y18, z18⟩, st18⟩ := X12.virtualBack hx (y := (⟨"com/example/tenantd/tenantd/server/Problem", "status", "()I"⟩ : MethodName)) (z := (⟨"com/example/tenantd/tenantd/server/Problem", "status", "()I"⟩ : MethodName)) hown (mvT hZ (hw _ (List.mem_of_getElem? (i := 13) rfl))) (mvT hZ (hw _ (List.mem_of_getElem? (i := 14) rfl))) (notFace_of_selects (args := #[]) (mvT hZ (hw _ (List.mem_of_getElem? (i := 16) rfl)))) (mvT hZ (hw _ (List.mem_of_getElem? (i := 16) rfl))) (mvT hZ (hw _ (List.mem_of_getElem? (i := 15) rfl))) (by decide) (backOf (W := 0) (rm2 l Z a0 hw [] (own_st un fo nf mn tl iv it t) (401 : Int32) h0 n0 Z0 Fx) hZ (hw _ (List.mem_of_getElem? (i := 17) rfl)) (hw _ (List.mem_of_getElem? (i := 3) rfl)) (by decide) (by decide)) q18a q18c (g := (mkF m 136 #[.val (.int p1), .val (.int p2), .val (.int t), .val (.ref (own_st un fo nf mn tl iv it t)), .val (.int (1 : Int32))] [(.ref (own_st un fo nf mn tl iv it t))])) rfl (by rw [hml]; rfl) (Steps.refl _) (argsL := []) (rest := []) (lenOf pd_1 rfl) rfl (by show 2 * 0 + _ ≤ _; exact Nat.le_of_eq rfl) (hb hby at_136) (fun _ _ => ⟨rfl, e12, (by decide : 0 + 0 ≤ _), (by decide : 0 + 0 ≤ _)⟩)
                dsimp only [Pt.U, Pt.locs, Pt.cells, Pt.slots] at X18 l18 y18 z18 st18 hQ18
                subst l18 y18 z18
                obtain ⟨rfl, N18q, e18⟩ := hQ18
                have N18 := Fr.app N12 N18q
                refine Ends.st st18 ?_
                refine Ends.of (F' := T18.setTop (mkF m 148 #[.val (.int p1), .val (.int p2), .val (.int t), .val (.ref (own_st un fo nf mn tl iv it t)), .val (.int (1 : Int32))] [(.int (1 : Int32))])) (fun _ kt => ?_) ?_
                · show Steps p.tables e below (T18.setTop (mkF m 139 #[.val (.int p1), .val (.int p2), .val (.int t), .val (.ref (own_st un fo nf mn tl iv it t)), .val (.int (1 : Int32))] [(.int (401 : Int32))])) _
                  refine XS.iloadN X18.here hx rfl (hb hby at_139) rfl ?_
                  show Steps p.tables e below (T18.setTop (mkF m 140 #[.val (.int p1), .val (.int p2), .val (.int t), .val (.ref (own_st un fo nf mn tl iv it t)), .val (.int (1 : Int32))] [(.int t), (.int (401 : Int32))])) _
                  refine XS.icmpNo X18.here hx rfl (hb hby at_140) rfl (teq h401.symm).2 ?_
                  show Steps p.tables e below (T18.setTop (mkF m 143 #[.val (.int p1), .val (.int p2), .val (.int t), .val (.ref (own_st un fo nf mn tl iv it t)), .val (.int (1 : Int32))] [])) _
                  refine XS.iconst X18.here hx rfl (hb hby at_143) ?_
                  show Steps p.tables e below (T18.setTop (mkF m 144 #[.val (.int p1), .val (.int p2), .val (.int t), .val (.ref (own_st un fo nf mn tl iv it t)), .val (.int (1 : Int32))] [(.int (1 : Int32))])) _
                  refine XS.goto X18.here hx rfl (pc0 := 144) (pc' := 148) rfl (hb hby at_144) (by decide) (by decide) ?_
                  exact kt
                obtain ⟨fs, hr, hrun, hended, hW, hsame⟩ := X18.leave (v := some (.int (1 : Int32))) (fun h => by rw [Bd.returns] at h; cases h)
                exact ⟨_, _, retN X18 hx (t := .boolean) Bd.returns (by simp) (hb hby at_148) hr, hrun, hended, _, _, rfl, ⟨rfl, N18⟩, ⟨_, rfl⟩, hW, hsame.mono (by decide) (by decide)⟩
              · refine Ends.of (F' := T12.setTop (mkF m 118 #[.val (.int p1), .val (.int p2), .val (.int t), .val (.ref (own_st un fo nf mn tl iv it t)), .val (.int (1 : Int32))] [(.int (403 : Int32)), (.int t)])) (fun _ kt => ?_) ?_
                · show Steps p.tables e below (T12.setTop (mkF m 111 #[.val (.int p1), .val (.int p2), .val (.int t), .val (.ref (own_st un fo nf mn tl iv it t)), .val (.int (1 : Int32))] [(.int (401 : Int32)), (.int t)])) _
                  refine XS.icmpNo X12.here hx rfl (hb hby at_111) rfl (feq h401).1 ?_
                  show Steps p.tables e below (T12.setTop (mkF m 114 #[.val (.int p1), .val (.int p2), .val (.int t), .val (.ref (own_st un fo nf mn tl iv it t)), .val (.int (1 : Int32))] [])) _
                  refine XS.iloadN X12.here hx rfl (hb hby at_114) rfl ?_
                  show Steps p.tables e below (T12.setTop (mkF m 115 #[.val (.int p1), .val (.int p2), .val (.int t), .val (.ref (own_st un fo nf mn tl iv it t)), .val (.int (1 : Int32))] [(.int t)])) _
                  refine XS.sipush X12.here hx rfl (hb hby at_115) ?_
                  exact kt
                by_cases h403 : t = (403 : Int32)
                · have hs : (own_st un fo nf mn tl iv it t) = fo := by rw [h403]; rfl
                  have Ex : Exa Z h0 (own_st un fo nf mn tl iv it t) "com/example/tenantd/tenantd/server/Problem" := by rw [hs]; exact E_FORBIDDEN
                  have Fx : Fld Z h0 (own_st un fo nf mn tl iv it t) "com/example/tenantd/tenantd/server/Problem" "status" "I" (.int (403 : Int32)) := by rw [hs]; exact F_FORBIDDEN
                  refine Ends.of (F' := T12.setTop (mkF m 136 #[.val (.int p1), .val (.int p2), .val (.int t), .val (.ref (own_st un fo nf mn tl iv it t)), .val (.int (1 : Int32))] [(.ref (own_st un fo nf mn tl iv it t))])) (fun _ kt => ?_) ?_
                  · show Steps p.tables e below (T12.setTop (mkF m 118 #[.val (.int p1), .val (.int p2), .val (.int t), .val (.ref (own_st un fo nf mn tl iv it t)), .val (.int (1 : Int32))] [(.int (403 : Int32)), (.int t)])) _
                    refine XS.icmpYes X12.here hx rfl (pc0 := 118) (pc' := 135) rfl (hb hby at_118) rfl (teq h403).1 (by decide) (by decide) ?_
                    show Steps p.tables e below (T12.setTop (mkF m 135 #[.val (.int p1), .val (.int p2), .val (.int t), .val (.ref (own_st un fo nf mn tl iv it t)), .val (.int (1 : Int32))] [])) _
                    refine XS.aloadN X12.here hx rfl (hb hby at_135) rfl rfl ?_
                    exact kt
                  obtain ⟨cq19, kq19, q19a, q19b, q19c⟩ := isOf hZ e12 Ex
                  obtain ⟨_, _, ⟨T19, L19, k19, n19⟩, -, X19, ⟨Lc19, hQ19, l19, y19, z19⟩, st19⟩ := X12.virtualBack hx (y := (⟨"com/example/tenantd/tenantd/server/Problem", "status", "()I"⟩ : MethodName)) (z := (⟨"com/example/tenantd/tenantd/server/Problem", "status", "()I"⟩ : MethodName)) hown (mvT hZ (hw _ (List.mem_of_getElem? (i := 13) rfl))) (mvT hZ (hw _ (List.mem_of_getElem? (i := 14) rfl))) (notFace_of_selects (args := #[]) (mvT hZ (hw _ (List.mem_of_getElem? (i := 16) rfl)))) (mvT hZ (hw _ (List.mem_of_getElem? (i := 16) rfl))) (mvT hZ (hw _ (List.mem_of_getElem? (i := 15) rfl))) (by decide) (backOf (W := 0) (rm2 l Z a0 hw [] (own_st un fo nf mn tl iv it t) (403 : Int32) h0 n0 Z0 Fx) hZ (hw _ (List.mem_of_getElem? (i := 17) rfl)) (hw _ (List.mem_of_getElem? (i := 3) rfl)) (by decide) (by decide)) q19a q19c (g := (mkF m 136 #[.val (.int p1), .val (.int p2), .val (.int t), .val (.ref (own_st un fo nf mn tl iv it t)), .val (.int (1 : Int32))] [(.ref (own_st un fo nf mn tl iv it t))])) rfl (by rw [hml]; rfl) (Steps.refl _) (argsL := []) (rest := []) (lenOf pd_1 rfl) rfl (by show 2 * 0 + _ ≤ _; exact Nat.le_of_eq rfl) (hb hby at_136) (fun _ _ => ⟨rfl, e12, (by decide : 0 + 0 ≤ _), (by decide : 0 + 0 ≤ _)⟩)
                  dsimp only [Pt.U, Pt.locs, Pt.cells, Pt.slots] at X19 l19 y19 z19 st19 hQ19
                  subst l19 y19 z19
                  obtain ⟨rfl, N19q, e19⟩ := hQ19
                  have N19 := Fr.app N12 N19q
                  refine Ends.st st19 ?_
                  refine Ends.of (F' := T19.setTop (mkF m 148 #[.val (.int p1), .val (.int p2), .val (.int t), .val (.ref (own_st un fo nf mn tl iv it t)), .val (.int (1 : Int32))] [(.int (1 : Int32))])) (fun _ kt => ?_) ?_
                  · show Steps p.tables e below (T19.setTop (mkF m 139 #[.val (.int p1), .val (.int p2), .val (.int t), .val (.ref (own_st un fo nf mn tl iv it t)), .val (.int (1 : Int32))] [(.int (403 : Int32))])) _
                    refine XS.iloadN X19.here hx rfl (hb hby at_139) rfl ?_
                    show Steps p.tables e below (T19.setTop (mkF m 140 #[.val (.int p1), .val (.int p2), .val (.int t), .val (.ref (own_st un fo nf mn tl iv it t)), .val (.int (1 : Int32))] [(.int t), (.int (403 : Int32))])) _
                    refine XS.icmpNo X19.here hx rfl (hb hby at_140) rfl (teq h403.symm).2 ?_
                    show Steps p.tables e below (T19.setTop (mkF m 143 #[.val (.int p1), .val (.int p2), .val (.int t), .val (.ref (own_st un fo nf mn tl iv it t)), .val (.int (1 : Int32))] [])) _
                    refine XS.iconst X19.here hx rfl (hb hby at_143) ?_
                    show Steps p.tables e below (T19.setTop (mkF m 144 #[.val (.int p1), .val (.int p2), .val (.int t), .val (.ref (own_st un fo nf mn tl iv it t)), .val (.int (1 : Int32))] [(.int (1 : Int32))])) _
                    refine XS.goto X19.here hx rfl (pc0 := 144) (pc' := 148) rfl (hb hby at_144) (by decide) (by decide) ?_
                    exact kt
                  obtain ⟨fs, hr, hrun, hended, hW, hsame⟩ := X19.leave (v := some (.int (1 : Int32))) (fun h => by rw [Bd.returns] at h; cases h)
                  exact ⟨_, _, retN X19 hx (t := .boolean) Bd.returns (by simp) (hb hby at_148) hr, hrun, hended, _, _, rfl, ⟨rfl, N19⟩, ⟨_, rfl⟩, hW, hsame.mono (by decide) (by decide)⟩
                · refine Ends.of (F' := T12.setTop (mkF m 125 #[.val (.int p1), .val (.int p2), .val (.int t), .val (.ref (own_st un fo nf mn tl iv it t)), .val (.int (1 : Int32))] [(.int (404 : Int32)), (.int t)])) (fun _ kt => ?_) ?_
                  · show Steps p.tables e below (T12.setTop (mkF m 118 #[.val (.int p1), .val (.int p2), .val (.int t), .val (.ref (own_st un fo nf mn tl iv it t)), .val (.int (1 : Int32))] [(.int (403 : Int32)), (.int t)])) _
                    refine XS.icmpNo X12.here hx rfl (hb hby at_118) rfl (feq h403).1 ?_
                    show Steps p.tables e below (T12.setTop (mkF m 121 #[.val (.int p1), .val (.int p2), .val (.int t), .val (.ref (own_st un fo nf mn tl iv it t)), .val (.int (1 : Int32))] [])) _
                    refine XS.iloadN X12.here hx rfl (hb hby at_121) rfl ?_
                    show Steps p.tables e below (T12.setTop (mkF m 122 #[.val (.int p1), .val (.int p2), .val (.int t), .val (.ref (own_st un fo nf mn tl iv it t)), .val (.int (1 : Int32))] [(.int t)])) _
                    refine XS.sipush X12.here hx rfl (hb hby at_122) ?_
                    exact kt
                  by_cases h404 : t = (404 : Int32)
                  · have hs : (own_st un fo nf mn tl iv it t) = nf := by rw [h404]; rfl
                    have Ex : Exa Z h0 (own_st un fo nf mn tl iv it t) "com/example/tenantd/tenantd/server/Problem" := by rw [hs]; exact E_NOT_FOUND
                    have Fx : Fld Z h0 (own_st un fo nf mn tl iv it t) "com/example/tenantd/tenantd/server/Problem" "status" "I" (.int (404 : Int32)) := by rw [hs]; exact F_NOT_FOUND
                    refine Ends.of (F' := T12.setTop (mkF m 136 #[.val (.int p1), .val (.int p2), .val (.int t), .val (.ref (own_st un fo nf mn tl iv it t)), .val (.int (1 : Int32))] [(.ref (own_st un fo nf mn tl iv it t))])) (fun _ kt => ?_) ?_
                    · show Steps p.tables e below (T12.setTop (mkF m 125 #[.val (.int p1), .val (.int p2), .val (.int t), .val (.ref (own_st un fo nf mn tl iv it t)), .val (.int (1 : Int32))] [(.int (404 : Int32)), (.int t)])) _
                      refine XS.icmpYes X12.here hx rfl (pc0 := 125) (pc' := 135) rfl (hb hby at_125) rfl (teq h404).1 (by decide) (by decide) ?_
                      show Steps p.tables e below (T12.setTop (mkF m 135 #[.val (.int p1), .val (.int p2), .val (.int t), .val (.ref (own_st un fo nf mn tl iv it t)), .val (.int (1 : Int32))] [])) _
                      refine XS.aloadN X12.here hx rfl (hb hby at_135) rfl rfl ?_
                      exact kt
                    obtain ⟨cq20, kq20, q20a, q20b, q20c⟩ := isOf hZ e12 Ex
                    obtain ⟨_, _, ⟨T20, L20, k20, n20⟩, -, X20, ⟨Lc20, hQ20, l20, y20, z20⟩, st20⟩ := X12.virtualBack hx (y := (⟨"com/example/tenantd/tenantd/server/Problem", "status", "()I"⟩ : MethodName)) (z := (⟨"com/example/tenantd/tenantd/server/Problem", "status", "()I"⟩ : MethodName)) hown (mvT hZ (hw _ (List.mem_of_getElem? (i := 13) rfl))) (mvT hZ (hw _ (List.mem_of_getElem? (i := 14) rfl))) (notFace_of_selects (args := #[]) (mvT hZ (hw _ (List.mem_of_getElem? (i := 16) rfl)))) (mvT hZ (hw _ (List.mem_of_getElem? (i := 16) rfl))) (mvT hZ (hw _ (List.mem_of_getElem? (i := 15) rfl))) (by decide) (backOf (W := 0) (rm2 l Z a0 hw [] (own_st un fo nf mn tl iv it t) (404 : Int32) h0 n0 Z0 Fx) hZ (hw _ (List.mem_of_getElem? (i := 17) rfl)) (hw _ (List.mem_of_getElem? (i := 3) rfl)) (by decide) (by decide)) q20a q20c (g := (mkF m 136 #[.val (.int p1), .val (.int p2), .val (.int t), .val (.ref (own_st un fo nf mn tl iv it t)), .val (.int (1 : Int32))] [(.ref (own_st un fo nf mn tl iv it t))])) rfl (by rw [hml]; rfl) (Steps.refl _) (argsL := []) (rest := []) (lenOf pd_1 rfl) rfl (by show 2 * 0 + _ ≤ _; exact Nat.le_of_eq rfl) (hb hby at_136) (fun _ _ => ⟨rfl, e12, (by decide : 0 + 0 ≤ _), (by decide : 0 + 0 ≤ _)⟩)
                    dsimp only [Pt.U, Pt.locs, Pt.cells, Pt.slots] at X20 l20 y20 z20 st20 hQ20
                    subst l20 y20 z20
                    obtain ⟨rfl, N20q, e20⟩ := hQ20
                    have N20 := Fr.app N12 N20q
                    refine Ends.st st20 ?_
                    refine Ends.of (F' := T20.setTop (mkF m 148 #[.val (.int p1), .val (.int p2), .val (.int t), .val (.ref (own_st un fo nf mn tl iv it t)), .val (.int (1 : Int32))] [(.int (1 : Int32))])) (fun _ kt => ?_) ?_
                    · show Steps p.tables e below (T20.setTop (mkF m 139 #[.val (.int p1), .val (.int p2), .val (.int t), .val (.ref (own_st un fo nf mn tl iv it t)), .val (.int (1 : Int32))] [(.int (404 : Int32))])) _
                      refine XS.iloadN X20.here hx rfl (hb hby at_139) rfl ?_
                      show Steps p.tables e below (T20.setTop (mkF m 140 #[.val (.int p1), .val (.int p2), .val (.int t), .val (.ref (own_st un fo nf mn tl iv it t)), .val (.int (1 : Int32))] [(.int t), (.int (404 : Int32))])) _
                      refine XS.icmpNo X20.here hx rfl (hb hby at_140) rfl (teq h404.symm).2 ?_
                      show Steps p.tables e below (T20.setTop (mkF m 143 #[.val (.int p1), .val (.int p2), .val (.int t), .val (.ref (own_st un fo nf mn tl iv it t)), .val (.int (1 : Int32))] [])) _
                      refine XS.iconst X20.here hx rfl (hb hby at_143) ?_
                      show Steps p.tables e below (T20.setTop (mkF m 144 #[.val (.int p1), .val (.int p2), .val (.int t), .val (.ref (own_st un fo nf mn tl iv it t)), .val (.int (1 : Int32))] [(.int (1 : Int32))])) _
                      refine XS.goto X20.here hx rfl (pc0 := 144) (pc' := 148) rfl (hb hby at_144) (by decide) (by decide) ?_
                      exact kt
                    obtain ⟨fs, hr, hrun, hended, hW, hsame⟩ := X20.leave (v := some (.int (1 : Int32))) (fun h => by rw [Bd.returns] at h; cases h)
                    exact ⟨_, _, retN X20 hx (t := .boolean) Bd.returns (by simp) (hb hby at_148) hr, hrun, hended, _, _, rfl, ⟨rfl, N20⟩, ⟨_, rfl⟩, hW, hsame.mono (by decide) (by decide)⟩
                  · refine Ends.of (F' := T12.setTop (mkF m 132 #[.val (.int p1), .val (.int p2), .val (.int t), .val (.ref (own_st un fo nf mn tl iv it t)), .val (.int (1 : Int32))] [(.int (405 : Int32)), (.int t)])) (fun _ kt => ?_) ?_
                    · show Steps p.tables e below (T12.setTop (mkF m 125 #[.val (.int p1), .val (.int p2), .val (.int t), .val (.ref (own_st un fo nf mn tl iv it t)), .val (.int (1 : Int32))] [(.int (404 : Int32)), (.int t)])) _
                      refine XS.icmpNo X12.here hx rfl (hb hby at_125) rfl (feq h404).1 ?_
                      show Steps p.tables e below (T12.setTop (mkF m 128 #[.val (.int p1), .val (.int p2), .val (.int t), .val (.ref (own_st un fo nf mn tl iv it t)), .val (.int (1 : Int32))] [])) _
                      refine XS.iloadN X12.here hx rfl (hb hby at_128) rfl ?_
                      show Steps p.tables e below (T12.setTop (mkF m 129 #[.val (.int p1), .val (.int p2), .val (.int t), .val (.ref (own_st un fo nf mn tl iv it t)), .val (.int (1 : Int32))] [(.int t)])) _
                      refine XS.sipush X12.here hx rfl (hb hby at_129) ?_
                      exact kt
                    by_cases h405 : t = (405 : Int32)
                    · have hs : (own_st un fo nf mn tl iv it t) = mn := by rw [h405]; rfl
                      have Ex : Exa Z h0 (own_st un fo nf mn tl iv it t) "com/example/tenantd/tenantd/server/Problem" := by rw [hs]; exact E_METHOD_NOT_ALLOWED
                      have Fx : Fld Z h0 (own_st un fo nf mn tl iv it t) "com/example/tenantd/tenantd/server/Problem" "status" "I" (.int (405 : Int32)) := by rw [hs]; exact F_METHOD_NOT_ALLOWED
                      refine Ends.of (F' := T12.setTop (mkF m 136 #[.val (.int p1), .val (.int p2), .val (.int t), .val (.ref (own_st un fo nf mn tl iv it t)), .val (.int (1 : Int32))] [(.ref (own_st un fo nf mn tl iv it t))])) (fun _ kt => ?_) ?_
                      · show Steps p.tables e below (T12.setTop (mkF m 132 #[.val (.int p1), .val (.int p2), .val (.int t), .val (.ref (own_st un fo nf mn tl iv it t)), .val (.int (1 : Int32))] [(.int (405 : Int32)), (.int t)])) _
                        refine XS.icmpNo X12.here hx rfl (hb hby at_132) rfl (teq h405).2 ?_
                        show Steps p.tables e below (T12.setTop (mkF m 135 #[.val (.int p1), .val (.int p2), .val (.int t), .val (.ref (own_st un fo nf mn tl iv it t)), .val (.int (1 : Int32))] [])) _
                        refine XS.aloadN X12.here hx rfl (hb hby at_135) rfl rfl ?_
                        exact kt
                      obtain ⟨cq21, kq21, q21a, q21b, q21c⟩ := isOf hZ e12 Ex
                      obtain ⟨_, _, ⟨T21, L21, k21, n21⟩, -, X21, ⟨Lc21, hQ21, l21, y21, z21⟩, st21⟩ := X12.virtualBack hx (y := (⟨"com/example/tenantd/tenantd/server/Problem", "status", "()I"⟩ : MethodName)) (z := (⟨"com/example/tenantd/tenantd/server/Problem", "status", "()I"⟩ : MethodName)) hown (mvT hZ (hw _ (List.mem_of_getElem? (i := 13) rfl))) (mvT hZ (hw _ (List.mem_of_getElem? (i := 14) rfl))) (notFace_of_selects (args := #[]) (mvT hZ (hw _ (List.mem_of_getElem? (i := 16) rfl)))) (mvT hZ (hw _ (List.mem_of_getElem? (i := 16) rfl))) (mvT hZ (hw _ (List.mem_of_getElem? (i := 15) rfl))) (by decide) (backOf (W := 0) (rm2 l Z a0 hw [] (own_st un fo nf mn tl iv it t) (405 : Int32) h0 n0 Z0 Fx) hZ (hw _ (List.mem_of_getElem? (i := 17) rfl)) (hw _ (List.mem_of_getElem? (i := 3) rfl)) (by decide) (by decide)) q21a q21c (g := (mkF m 136 #[.val (.int p1), .val (.int p2), .val (.int t), .val (.ref (own_st un fo nf mn tl iv it t)), .val (.int (1 : Int32))] [(.ref (own_st un fo nf mn tl iv it t))])) rfl (by rw [hml]; rfl) (Steps.refl _) (argsL := []) (rest := []) (lenOf pd_1 rfl) rfl (by show 2 * 0 + _ ≤ _; exact Nat.le_of_eq rfl) (hb hby at_136) (fun _ _ => ⟨rfl, e12, (by decide : 0 + 0 ≤ _), (by decide : 0 + 0 ≤ _)⟩)
                      dsimp only [Pt.U, Pt.locs, Pt.cells, Pt.slots] at X21 l21 y21 z21 st21 hQ21
                      subst l21 y21 z21
                      obtain ⟨rfl, N21q, e21⟩ := hQ21
                      have N21 := Fr.app N12 N21q
                      refine Ends.st st21 ?_
                      refine Ends.of (F' := T21.setTop (mkF m 148 #[.val (.int p1), .val (.int p2), .val (.int t), .val (.ref (own_st un fo nf mn tl iv it t)), .val (.int (1 : Int32))] [(.int (1 : Int32))])) (fun _ kt => ?_) ?_
                      · show Steps p.tables e below (T21.setTop (mkF m 139 #[.val (.int p1), .val (.int p2), .val (.int t), .val (.ref (own_st un fo nf mn tl iv it t)), .val (.int (1 : Int32))] [(.int (405 : Int32))])) _
                        refine XS.iloadN X21.here hx rfl (hb hby at_139) rfl ?_
                        show Steps p.tables e below (T21.setTop (mkF m 140 #[.val (.int p1), .val (.int p2), .val (.int t), .val (.ref (own_st un fo nf mn tl iv it t)), .val (.int (1 : Int32))] [(.int t), (.int (405 : Int32))])) _
                        refine XS.icmpNo X21.here hx rfl (hb hby at_140) rfl (teq h405.symm).2 ?_
                        show Steps p.tables e below (T21.setTop (mkF m 143 #[.val (.int p1), .val (.int p2), .val (.int t), .val (.ref (own_st un fo nf mn tl iv it t)), .val (.int (1 : Int32))] [])) _
                        refine XS.iconst X21.here hx rfl (hb hby at_143) ?_
                        show Steps p.tables e below (T21.setTop (mkF m 144 #[.val (.int p1), .val (.int p2), .val (.int t), .val (.ref (own_st un fo nf mn tl iv it t)), .val (.int (1 : Int32))] [(.int (1 : Int32))])) _
                        refine XS.goto X21.here hx rfl (pc0 := 144) (pc' := 148) rfl (hb hby at_144) (by decide) (by decide) ?_
                        exact kt
                      obtain ⟨fs, hr, hrun, hended, hW, hsame⟩ := X21.leave (v := some (.int (1 : Int32))) (fun h => by rw [Bd.returns] at h; cases h)
                      exact ⟨_, _, retN X21 hx (t := .boolean) Bd.returns (by simp) (hb hby at_148) hr, hrun, hended, _, _, rfl, ⟨rfl, N21⟩, ⟨_, rfl⟩, hW, hsame.mono (by decide) (by decide)⟩
                    · refine Ends.of (F' := T12.setTop (mkF m 150 #[.val (.int p1), .val (.int p2), .val (.int t), .val (.ref (own_st un fo nf mn tl iv it t)), .val (.int (1 : Int32))] [(.ref (own_st un fo nf mn tl iv it t))])) (fun _ kt => ?_) ?_
                      · show Steps p.tables e below (T12.setTop (mkF m 132 #[.val (.int p1), .val (.int p2), .val (.int t), .val (.ref (own_st un fo nf mn tl iv it t)), .val (.int (1 : Int32))] [(.int (405 : Int32)), (.int t)])) _
                        refine XS.icmpYes X12.here hx rfl (pc0 := 132) (pc' := 149) rfl (hb hby at_132) rfl (feq h405).2 (by decide) (by decide) ?_
                        show Steps p.tables e below (T12.setTop (mkF m 149 #[.val (.int p1), .val (.int p2), .val (.int t), .val (.ref (own_st un fo nf mn tl iv it t)), .val (.int (1 : Int32))] [])) _
                        refine XS.aloadN X12.here hx rfl (hb hby at_149) rfl rfl ?_
                        exact kt
                      obtain ⟨T22, X22, e22, st22⟩ := getS2 X12 hx hZ hown (host := "") (Or.inl (hw _ (List.mem_of_getElem? (i := 10) rfl))) Via.refl e12 S_INVALID_REQUEST (g := (mkF m 150 #[.val (.int p1), .val (.int p2), .val (.int t), .val (.ref (own_st un fo nf mn tl iv it t)), .val (.int (1 : Int32))] [(.ref (own_st un fo nf mn tl iv it t))])) rfl (hb hby at_150)
                      refine Ends.of st22 ?_
                      refine Ends.of (F' := T22.setTop (mkF m 161 #[.val (.int p1), .val (.int p2), .val (.int t), .val (.ref (own_st un fo nf mn tl iv it t)), .val (.int (1 : Int32))] [(.int (1 : Int32))])) (fun _ kt => ?_) ?_
                      · show Steps p.tables e below (T22.setTop (mkF m 153 #[.val (.int p1), .val (.int p2), .val (.int t), .val (.ref (own_st un fo nf mn tl iv it t)), .val (.int (1 : Int32))] [(.ref iv), (.ref (own_st un fo nf mn tl iv it t))])) _
                        refine Jvm.RoadKit.acmp (g := (mkF m 153 #[.val (.int p1), .val (.int p2), .val (.int t), .val (.ref (own_st un fo nf mn tl iv it t)), .val (.int (1 : Int32))] [(.ref iv), (.ref (own_st un fo nf mn tl iv it t))])) X22 hx rfl rfl rfl (pc0 := 153) (pc' := 156) (same := true) rfl (hb hby at_153) rfl (decide_eq_true (congrArg Value.ref (own_iv h0t h9t h413 h414 h431 h401 h403 h404 h405))) (by decide) (by decide) ?_
                        show Steps p.tables e below (T22.setTop (mkF m 156 #[.val (.int p1), .val (.int p2), .val (.int t), .val (.ref (own_st un fo nf mn tl iv it t)), .val (.int (1 : Int32))] [])) _
                        refine XS.iconst X22.here hx rfl (hb hby at_156) ?_
                        show Steps p.tables e below (T22.setTop (mkF m 157 #[.val (.int p1), .val (.int p2), .val (.int t), .val (.ref (own_st un fo nf mn tl iv it t)), .val (.int (1 : Int32))] [(.int (1 : Int32))])) _
                        refine XS.goto X22.here hx rfl (pc0 := 157) (pc' := 161) rfl (hb hby at_157) (by decide) (by decide) ?_
                        exact kt
                      obtain ⟨fs, hr, hrun, hended, hW, hsame⟩ := X22.leave (v := some (.int (1 : Int32))) (fun h => by rw [Bd.returns] at h; cases h)
                      exact ⟨_, _, retN X22 hx (t := .boolean) Bd.returns (by simp) (hb hby at_161) hr, hrun, hended, _, _, rfl, ⟨rfl, N12⟩, ⟨_, rfl⟩, hW, hsame.mono (by decide) (by decide)⟩
  refine Ends.of (F' := s₁.setTop (mkF m 3 #[.val (.int p1), .val (.int p2), .unset, .unset, .unset] [(.int (p2 &&& (1 : Int32)))])) (fun _ kt => ?_) ?_
  · show Steps p.tables e below (s₁.setTop (mkF m 0 #[.val (.int p1), .val (.int p2), .unset, .unset, .unset] [])) _
    refine XS.iloadN X0.here hx rfl (hb hby at_0) rfl ?_
    show Steps p.tables e below (s₁.setTop (mkF m 1 #[.val (.int p1), .val (.int p2), .unset, .unset, .unset] [(.int p2)])) _
    refine XS.iconst X0.here hx rfl (hb hby at_1) ?_
    show Steps p.tables e below (s₁.setTop (mkF m 2 #[.val (.int p1), .val (.int p2), .unset, .unset, .unset] [(.int (1 : Int32)), (.int p2)])) _
    refine XS.iand X0.here hx rfl (hb hby at_2) rfl ?_
    exact kt
  by_cases hc3 : (p2 &&& (1 : Int32)) = (0 : Int32)
  · refine Ends.of (F' := s₁.setTop (mkF m 23 #[.val (.int p1), .val (.int p2), .val (.int p1), .unset, .unset] [])) (fun _ kt => ?_) ?_
    · show Steps p.tables e below (s₁.setTop (mkF m 3 #[.val (.int p1), .val (.int p2), .unset, .unset, .unset] [(.int (p2 &&& (1 : Int32)))])) _
      refine XS.ifNo X0.here hx rfl (hb hby at_3) rfl ((if0 _ _).trans (teq hc3).2) ?_
      show Steps p.tables e below (s₁.setTop (mkF m 6 #[.val (.int p1), .val (.int p2), .unset, .unset, .unset] [])) _
      refine XS.iloadN X0.here hx rfl (hb hby at_6) rfl ?_
      show Steps p.tables e below (s₁.setTop (mkF m 7 #[.val (.int p1), .val (.int p2), .unset, .unset, .unset] [(.int p1)])) _
      refine XS.istoreN X0.here hx rfl (hb hby at_7) rfl (l' := #[.val (.int p1), .val (.int p2), .val (.int p1), .unset, .unset]) rfl ?_
      show Steps p.tables e below (s₁.setTop (mkF m 8 #[.val (.int p1), .val (.int p2), .val (.int p1), .unset, .unset] [])) _
      refine XS.goto X0.here hx rfl (pc0 := 8) (pc' := 23) rfl (hb hby at_8) (by decide) (by decide) ?_
      exact kt
    exact blk _
  · refine Ends.of (F' := s₁.setTop (mkF m 23 #[.val (.int p1), .val (.int p2), .val (.int ((398 : Int32) + ((p1 &&& (2147483647 : Int32)) % (104 : Int32)))), .unset, .unset] [])) (fun _ kt => ?_) ?_
    · show Steps p.tables e below (s₁.setTop (mkF m 3 #[.val (.int p1), .val (.int p2), .unset, .unset, .unset] [(.int (p2 &&& (1 : Int32)))])) _
      refine XS.ifYes X0.here hx rfl (pc0 := 3) (pc' := 11) rfl (hb hby at_3) rfl ((if0 _ _).trans (feq hc3).2) (by decide) (by decide) ?_
      show Steps p.tables e below (s₁.setTop (mkF m 11 #[.val (.int p1), .val (.int p2), .unset, .unset, .unset] [])) _
      refine XS.sipush X0.here hx rfl (hb hby at_11) ?_
      show Steps p.tables e below (s₁.setTop (mkF m 14 #[.val (.int p1), .val (.int p2), .unset, .unset, .unset] [(.int (398 : Int32))])) _
      refine XS.iloadN X0.here hx rfl (hb hby at_14) rfl ?_
      show Steps p.tables e below (s₁.setTop (mkF m 15 #[.val (.int p1), .val (.int p2), .unset, .unset, .unset] [(.int p1), (.int (398 : Int32))])) _
      refine X0.ldcInt hx hown (mvT hZ (hw _ (List.mem_of_getElem? (i := 0) rfl))) (g := (mkF m 15 #[.val (.int p1), .val (.int p2), .unset, .unset, .unset] [(.int p1), (.int (398 : Int32))])) rfl (hb hby at_15) _ ?_
      show Steps p.tables e below (s₁.setTop (mkF m 17 #[.val (.int p1), .val (.int p2), .unset, .unset, .unset] [(.int (2147483647 : Int32)), (.int p1), (.int (398 : Int32))])) _
      refine XS.iand X0.here hx rfl (hb hby at_17) rfl ?_
      show Steps p.tables e below (s₁.setTop (mkF m 18 #[.val (.int p1), .val (.int p2), .unset, .unset, .unset] [(.int (p1 &&& (2147483647 : Int32))), (.int (398 : Int32))])) _
      refine XS.bipush X0.here hx rfl (hb hby at_18) ?_
      show Steps p.tables e below (s₁.setTop (mkF m 20 #[.val (.int p1), .val (.int p2), .unset, .unset, .unset] [(.int (104 : Int32)), (.int (p1 &&& (2147483647 : Int32))), (.int (398 : Int32))])) _
      refine iremM (g := (mkF m 20 #[.val (.int p1), .val (.int p2), .unset, .unset, .unset] [(.int (104 : Int32)), (.int (p1 &&& (2147483647 : Int32))), (.int (398 : Int32))])) X0 hx rfl (hb hby at_20) rfl (by decide) ?_
      show Steps p.tables e below (s₁.setTop (mkF m 21 #[.val (.int p1), .val (.int p2), .unset, .unset, .unset] [(.int ((p1 &&& (2147483647 : Int32)) % (104 : Int32))), (.int (398 : Int32))])) _
      refine XS.iadd X0.here hx rfl (hb hby at_21) rfl ?_
      show Steps p.tables e below (s₁.setTop (mkF m 22 #[.val (.int p1), .val (.int p2), .unset, .unset, .unset] [(.int ((398 : Int32) + ((p1 &&& (2147483647 : Int32)) % (104 : Int32))))])) _
      refine XS.istoreN X0.here hx rfl (hb hby at_22) rfl (l' := #[.val (.int p1), .val (.int p2), .val (.int ((398 : Int32) + ((p1 &&& (2147483647 : Int32)) % (104 : Int32)))), .unset, .unset]) rfl ?_
      exact kt
    exact blk _
set_option maxRecDepth 65536 in
set_option maxHeartbeats 40000000 in
theorem comes_1 {Post : Tables → Env → Array Value → State → Outcome → State → Prop} (hpost : ∀ tb e args s v u, (limb_1_1.after args s (.returned v) u = true ∧ limb_1_2.after args s (.returned v) u = true ∧ True) → FrameEnd s (.returned v) u (Jvm.fieldLocs frame_1_writes args s ++ Jvm.arrayLocs frame_1_arrays args s ++ Jvm.staticLocs frame_1_statics s) 0 0 → Post tb e args s (.returned v) u) :
    ArmFor flags0 classFile x code maxLocals ret World_1 tables_1 room_1 Calls_1 rest_1 Pre_1 Post := by
  intro l hfl _ _ p e ha hc hk s m args below hf hA hF happ hP
  obtain ⟨hcalls, hrest, hpre⟩ := hP
  obtain ⟨-, -, -, hnamed, -, -, -, hat⟩ := (Spec.applies_iff hf).mp happ
  obtain ⟨hg, hn⟩ := and_e (Cond.before_iff.mp (show (Jvm.Cond.and given_1 narrow_1).before args s = true from hpre))
  obtain ⟨g0, gt0⟩ := and_e hg
  obtain ⟨gv0, gt1⟩ := and_e gt0
  obtain ⟨w0, w1, rfl⟩ : ∃ w0 w1 : Value, args = #[w0, w1] := by
    have hs : args.size = 2 := by simpa [Cond.value, given_1] using g0
    obtain ⟨L⟩ := args
    match L, hs with
    | [w0, w1], _ => exact ⟨w0, w1, rfl⟩
  have hw := fun d (hd : d ∈ tables_1) => atoms_spec (ws := Jvm.Cond.code x code maxLocals ret :: tables_1) hat d (List.mem_cons_of_mem _ hd)
  have hfit : Fit s := fun {y c} hc i hi => by
    obtain ⟨ha, rfl⟩ := Array.getElem?_eq_some_iff.mp hc
    have q := List.all_eq_true.mp ((Array.all_eq_true_iff_forall_mem.mp hF) _ (Array.getElem_mem ha)) i (List.mem_range.mpr hi)
    simpa [Array.getElem?_eq_getElem hi] using q
  obtain ⟨i0, ei0⟩ := is_v gv0
  obtain rfl : w0 = (.int i0) := Option.some.inj ei0
  obtain ⟨i1, ei1⟩ := is_v gt1
  obtain rfl : w1 = (.int i1) := Option.some.inj ei1
  obtain ⟨n0, nt0⟩ := and_e hn
  obtain ⟨n1, nt1⟩ := and_e nt0
  obtain ⟨n2, nt2⟩ := and_e nt1
  obtain ⟨n3, nt3⟩ := and_e nt2
  obtain ⟨n4, nt4⟩ := and_e nt3
  obtain ⟨n5, nt5⟩ := and_e nt4
  obtain ⟨n6, nt6⟩ := and_e nt5
  obtain ⟨n7, nt7⟩ := and_e nt6
  obtain ⟨n8, nt8⟩ := and_e nt7
  obtain ⟨n9, nt9⟩ := and_e nt8
  obtain ⟨n10, nt10⟩ := and_e nt9
  obtain ⟨n11, nt11⟩ := and_e nt10
  obtain ⟨n12, nt12⟩ := and_e nt11
  have n13 := nt12
  obtain ⟨s_INTERNAL, ev_INTERNAL⟩ := exa_v n0
  have S_INTERNAL := Sta.start ev_INTERNAL (Or.inr ⟨(hw _ (List.mem_of_getElem? (i := 3) rfl)), (hw _ (List.mem_of_getElem? (i := 6) rfl))⟩)
  have E_INTERNAL := Exa.start ev_INTERNAL n0
  obtain ⟨s_INVALID_REQUEST, ev_INVALID_REQUEST⟩ := exa_v n1
  have S_INVALID_REQUEST := Sta.start ev_INVALID_REQUEST (Or.inr ⟨(hw _ (List.mem_of_getElem? (i := 3) rfl)), (hw _ (List.mem_of_getElem? (i := 9) rfl))⟩)
  have E_INVALID_REQUEST := Exa.start ev_INVALID_REQUEST n1
  obtain ⟨s_FORBIDDEN, ev_FORBIDDEN⟩ := exa_v n2
  have S_FORBIDDEN := Sta.start ev_FORBIDDEN (Or.inr ⟨(hw _ (List.mem_of_getElem? (i := 3) rfl)), (hw _ (List.mem_of_getElem? (i := 12) rfl))⟩)
  have E_FORBIDDEN := Exa.start ev_FORBIDDEN n2
  obtain ⟨s_UNAUTHORIZED, ev_UNAUTHORIZED⟩ := exa_v n4
  have S_UNAUTHORIZED := Sta.start ev_UNAUTHORIZED (Or.inr ⟨(hw _ (List.mem_of_getElem? (i := 3) rfl)), (hw _ (List.mem_of_getElem? (i := 21) rfl))⟩)
  have E_UNAUTHORIZED := Exa.start ev_UNAUTHORIZED n4
  obtain ⟨s_NOT_FOUND, ev_NOT_FOUND⟩ := exa_v n6
  have S_NOT_FOUND := Sta.start ev_NOT_FOUND (Or.inr ⟨(hw _ (List.mem_of_getElem? (i := 3) rfl)), (hw _ (List.mem_of_getElem? (i := 23) rfl))⟩)
  have E_NOT_FOUND := Exa.start ev_NOT_FOUND n6
  obtain ⟨s_TOO_LARGE, ev_TOO_LARGE⟩ := exa_v n8
  have S_TOO_LARGE := Sta.start ev_TOO_LARGE (Or.inr ⟨(hw _ (List.mem_of_getElem? (i := 3) rfl)), (hw _ (List.mem_of_getElem? (i := 25) rfl))⟩)
  have E_TOO_LARGE := Exa.start ev_TOO_LARGE n8
  obtain ⟨s_METHOD_NOT_ALLOWED, ev_METHOD_NOT_ALLOWED⟩ := exa_v n9
  have S_METHOD_NOT_ALLOWED := Sta.start ev_METHOD_NOT_ALLOWED (Or.inr ⟨(hw _ (List.mem_of_getElem? (i := 3) rfl)), (hw _ (List.mem_of_getElem? (i := 28) rfl))⟩)
  have E_METHOD_NOT_ALLOWED := Exa.start ev_METHOD_NOT_ALLOWED n9
  have F_FORBIDDEN_status := Fld.start ((fld_at ev_FORBIDDEN).symm.trans (own_eqi n3))
  have F_UNAUTHORIZED_status := Fld.start ((fld_at ev_UNAUTHORIZED).symm.trans (own_eqi n5))
  have F_NOT_FOUND_status := Fld.start ((fld_at ev_NOT_FOUND).symm.trans (own_eqi n7))
  have F_METHOD_NOT_ALLOWED_status := Fld.start ((fld_at ev_METHOD_NOT_ALLOWED).symm.trans (own_eqi n10))
  have F_INTERNAL_status := Fld.start ((fld_at ev_INTERNAL).symm.trans (own_eqi n11))
  have F_INVALID_REQUEST_status := Fld.start ((fld_at ev_INVALID_REQUEST).symm.trans (own_eqi n12))
  have F_TOO_LARGE_status := Fld.start ((fld_at ev_TOO_LARGE).symm.trans (own_eqi n13))
  obtain ⟨n, o, h1, h2, h3, _, L, rfl, ⟨rfl, N⟩, hq⟩ := rm0 l s _ hw tables_1 i0 i1 s_UNAUTHORIZED s_FORBIDDEN s_NOT_FOUND s_METHOD_NOT_ALLOWED s_TOO_LARGE s_INVALID_REQUEST s_INTERNAL s.heap s.heap.size (Nat.le_refl _) S_UNAUTHORIZED S_FORBIDDEN S_NOT_FOUND S_METHOD_NOT_ALLOWED S_TOO_LARGE S_INVALID_REQUEST S_INTERNAL E_UNAUTHORIZED E_FORBIDDEN E_NOT_FOUND E_METHOD_NOT_ALLOWED F_UNAUTHORIZED_status F_FORBIDDEN_status F_NOT_FOUND_status F_METHOD_NOT_ALLOWED_status p e ha hc hk s m _ below hf ((Spec.applies_iff_loose hf).mp happ).1 ⟨rfl, State.Warmed39.refl s, rfl⟩ trivial
  refine ⟨n, _, h1, h2, h3, hpost _ _ _ _ _ _ ⟨Cond.after_iff.mpr rfl, Cond.after_iff.mpr (eq_i res_at (Term.int_eval (1)) rfl), trivial⟩ ⟨hq.1, hq.2.1, (hq.2.2.sift fun y hy => Or.inr (N y hy)).mono (by decide) (by decide)⟩⟩
theorem main_1_1 : Claimed_1_1 := comes_1 fun _ _ _ _ _ _ h hF => ⟨h.1, hF⟩
theorem main_1_2 : Claimed_1_2 := comes_1 fun _ _ _ _ _ _ h hF => ⟨h.2.1, hF⟩
end Jvm.Pilot.@@N@@
namespace Jvm.Pilot.@@N@@
open Jvm Jvm.ClassFile Sem Op Lib Jvm.Free Jvm.Stand Jvm.Pilot.@@N@@.Jvm.D
/-! MADE BY PROGRAM (witnessworld.py) out of the Statement's table words and the real class files: 12 classes; the members and pool entries that the words name. The judged class is class 1, her method 1. -/
namespace start1
open Jvm.ClassFile
def u (s : String) : CpInfo := .utf8 (stringToUtf16 s)
/-- a pool by its gaps: so many unusable entries, then the entry; so many at the end -/
def gap : Nat → List CpInfo → List CpInfo
  | 0, r => r
  | n + 1, r => .unusable :: gap n r
def poolList (es : List (Nat × CpInfo)) (last : Nat) : List CpInfo := es.foldr (fun e r => gap e.1 (e.2 :: r)) (gap last [])
def pool (es : List (Nat × CpInfo)) (last : Nat) : Array CpInfo := ⟨poolList es last⟩
def fileOf (pool : Array CpInfo) (this : Nat) (attrs : Array Attribute := #[]) (ms : Array MethodInfo := #[]) (fl : Nat := 33) (sup : Nat := 0) (ifs : Array Nat := #[]) (fds : Array FieldInfo := #[]) : ClassFile where
  minorVersion := 0
  majorVersion := 65
  constantPool := pool
  accessFlags := fl
  thisClass := this
  superClass := sup
  interfaces := ifs
  fields := fds
  methods := ms
  attributes := attrs
def plain (name : String) (sup : Option ClassId) : Class where
  name := name
  kind := .ordinary
  loader := none
  accessFlags := 33
  super := sup
  interfaces := #[]
  cf := none
  fields := #[]
  methods := #[]
  instanceTypes := #[]
  staticTypes := #[]
  resolved := #[]
  callSites := []
  init := .initialized
  statics := none
  mirror := none

def pool0 : Array CpInfo := pool [(5, u "<init>"), (0, u "()V"), (1, .class_ 10), (1, u "java/lang/Object")] 113

def k0m0 : Method := { name := "<init>", desc := "()V", sig := { parameters := [], returnType := none }, accessFlags := 1, code := none }
/-- java/lang/Object -/
def k0 : Class := { plain "java/lang/Object" none with
  accessFlags := 33
  interfaces := #[]
  cf := some (fileOf pool0 8 #[] #[{ accessFlags := 1, nameIndex := 5, descriptorIndex := 6, attributes := #[] }] 33 0 #[] #[])
  fields := #[]
  methods := #[k0m0]
  instanceTypes := #[]
  staticTypes := #[]
  resolved := Array.replicate 124 none
  statics := none }

def pool1 : Array CpInfo := pool [(2, .class_ 4), (1, u "java/lang/Object"), (0, u "<init>"), (0, u "()V"), (0, .integer 2147483647), (0, .methodref 9 10), (0, .class_ 11), (0, .nameAndType 12 13), (0, u "com/example/tenantd/tenantd/server/Problem"), (0, u "forStatus"), (0, u "(I)Lcom/example/tenantd/tenantd/server/Problem;"), (0, .fieldref 9 15), (0, .nameAndType 16 17), (0, u "INTERNAL"), (0, u "Lcom/example/tenantd/tenantd/server/Problem;"), (0, .fieldref 9 19), (0, .nameAndType 20 17), (0, u "TOO_LARGE"), (0, .methodref 9 22), (0, .nameAndType 23 24), (0, u "status"), (0, u "()I"), (0, .fieldref 9 26), (0, .nameAndType 27 17), (0, u "INVALID_REQUEST"), (0, .class_ 29), (0, u "com/example/tenantd/tenantd/server/ProblemForStatusPinLaw"), (2, u "law"), (0, u "(II)Z")] 3

def k1m0 : Method := { name := "<init>", desc := "()V", sig := { parameters := [], returnType := none }, accessFlags := 1, code := none }
def k1c1 : Code := { maxStack := 3, maxLocals := 5, code := code, exceptionTable := #[], attributes := #[] }
def k1m1 : Method := { name := "law", desc := "(II)Z", sig := { parameters := [.int, .int], returnType := some .boolean }, accessFlags := 9, code := some k1c1 }
/-- com/example/tenantd/tenantd/server/ProblemForStatusPinLaw -/
def k1 : Class := { plain "com/example/tenantd/tenantd/server/ProblemForStatusPinLaw" (some 0) with
  accessFlags := 49
  interfaces := #[]
  cf := some (fileOf pool1 28 #[] #[{ accessFlags := 1, nameIndex := 5, descriptorIndex := 6, attributes := #[] }, { accessFlags := 9, nameIndex := 32, descriptorIndex := 33, attributes := #[] }] 49 2 #[] #[])
  fields := #[]
  methods := #[k1m0, k1m1]
  instanceTypes := #[]
  staticTypes := #[]
  resolved := Array.replicate 37 none
  statics := none }

def pool2 : Array CpInfo := pool [(1, .class_ 2), (0, u "java/lang/constant/Constable"), (0, .class_ 4), (0, u "java/lang/Object")] 6

/-- java/lang/constant/Constable -/
def k2 : Class := { plain "java/lang/constant/Constable" (some 0) with
  accessFlags := 1537
  interfaces := #[]
  cf := some (fileOf pool2 1 #[] #[] 1537 3 #[] #[])
  fields := #[]
  methods := #[]
  instanceTypes := #[]
  staticTypes := #[]
  resolved := Array.replicate 11 none
  statics := none }

def pool3 : Array CpInfo := pool [(1, .class_ 2), (0, u "java/lang/Comparable"), (0, .class_ 4), (0, u "java/lang/Object")] 7

/-- java/lang/Comparable -/
def k3 : Class := { plain "java/lang/Comparable" (some 0) with
  accessFlags := 1537
  interfaces := #[]
  cf := some (fileOf pool3 1 #[] #[] 1537 3 #[] #[])
  fields := #[]
  methods := #[]
  instanceTypes := #[]
  staticTypes := #[]
  resolved := Array.replicate 12 none
  statics := none }

def pool4 : Array CpInfo := pool [(1, .class_ 2), (0, u "java/io/Serializable"), (0, .class_ 4), (0, u "java/lang/Object")] 2

/-- java/io/Serializable -/
def k4 : Class := { plain "java/io/Serializable" (some 0) with
  accessFlags := 1537
  interfaces := #[]
  cf := some (fileOf pool4 1 #[] #[] 1537 3 #[] #[])
  fields := #[]
  methods := #[]
  instanceTypes := #[]
  staticTypes := #[]
  resolved := Array.replicate 7 none
  statics := none }

def pool5 : Array CpInfo := pool [(2, .class_ 4), (1, u "java/lang/Enum"), (0, u "name"), (0, u "Ljava/lang/String;"), (2, u "ordinal"), (0, u "I"), (1, .class_ 14), (1, u "java/lang/Object"), (4, u "hash"), (86, .class_ 108), (1, u "java/lang/Enum$EnumDesc"), (2, .class_ 112), (0, u "java/lang/constant/Constable"), (0, .class_ 114), (0, u "java/lang/Comparable"), (0, .class_ 116), (0, u "java/io/Serializable")] 87

/-- java/lang/Enum -/
def k5 : Class := { plain "java/lang/Enum" (some 0) with
  accessFlags := 1057
  interfaces := #[2, 3, 4]
  cf := some (fileOf pool5 2 #[.nestMembers #[106]] #[] 1057 12 #[111, 113, 115] #[{ accessFlags := 18, nameIndex := 5, descriptorIndex := 6, attributes := #[] }, { accessFlags := 18, nameIndex := 9, descriptorIndex := 10, attributes := #[] }, { accessFlags := 2, nameIndex := 19, descriptorIndex := 10, attributes := #[] }])
  fields := #[{ name := "name", type := (.object "java/lang/String"), accessFlags := 18, slot := 0, constantValue := 0 }, { name := "ordinal", type := .int, accessFlags := 18, slot := 1, constantValue := 0 }, { name := "hash", type := .int, accessFlags := 2, slot := 2, constantValue := 0 }]
  methods := #[]
  instanceTypes := #[(.object "java/lang/String"), .int, .int]
  staticTypes := #[]
  resolved := Array.replicate 204 none
  statics := none }

def pool6 : Array CpInfo := pool [(1, .class_ 2), (0, u "com/example/tenantd/tenantd/server/Problem"), (0, .fieldref 1 4), (0, .nameAndType 5 6), (0, u "INVALID_REQUEST"), (0, u "Lcom/example/tenantd/tenantd/server/Problem;"), (2, u "BAD_ORGANISATION"), (2, u "DEFAULT_SANDBOX"), (0, .fieldref 1 14), (0, .nameAndType 15 6), (0, u "UNAUTHORIZED"), (0, .fieldref 1 17), (0, .nameAndType 18 6), (0, u "FORBIDDEN"), (0, .fieldref 1 20), (0, .nameAndType 21 6), (0, u "NOT_FOUND"), (0, .fieldref 1 23), (0, .nameAndType 24 6), (0, u "METHOD_NOT_ALLOWED"), (2, u "NAME_TAKEN"), (2, u "WRONG_STATE"), (0, .fieldref 1 32), (0, .nameAndType 33 6), (0, u "TOO_LARGE"), (0, .fieldref 1 35), (0, .nameAndType 36 6), (0, u "INTERNAL"), (2, u "$VALUES"), (0, u "[Lcom/example/tenantd/tenantd/server/Problem;"), (6, .class_ 49), (1, u "java/lang/Enum"), (6, .fieldref 1 57), (0, .nameAndType 58 59), (0, u "status"), (0, u "I"), (2, u "code"), (0, u "Ljava/lang/String;"), (2, u "title"), (66, u "TYPE_PREFIX"), (10, u "()I"), (2, u "forStatus"), (0, u "(I)Lcom/example/tenantd/tenantd/server/Problem;")] 21

def k6c0 : Code := { maxStack := 1, maxLocals := 1, code := prog_57_method_4_code, exceptionTable := #[], attributes := #[] }
def k6m0 : Method := { name := "status", desc := "()I", sig := { parameters := [], returnType := some .int }, accessFlags := 1, code := some k6c0 }
def k6c1 : Code := { maxStack := 2, maxLocals := 2, code := prog_57_method_7_code, exceptionTable := #[], attributes := #[] }
def k6m1 : Method := { name := "forStatus", desc := "(I)Lcom/example/tenantd/tenantd/server/Problem;", sig := { parameters := [.int], returnType := some (.object "com/example/tenantd/tenantd/server/Problem") }, accessFlags := 9, code := some k6c1 }
/-- com/example/tenantd/tenantd/server/Problem -/
def k6 : Class := { plain "com/example/tenantd/tenantd/server/Problem" (some 5) with
  accessFlags := 16433
  interfaces := #[]
  cf := some (fileOf pool6 1 #[] #[{ accessFlags := 1, nameIndex := 58, descriptorIndex := 144, attributes := #[] }, { accessFlags := 9, nameIndex := 147, descriptorIndex := 148, attributes := #[] }] 16433 47 #[] #[{ accessFlags := 16409, nameIndex := 5, descriptorIndex := 6, attributes := #[] }, { accessFlags := 16409, nameIndex := 9, descriptorIndex := 6, attributes := #[] }, { accessFlags := 16409, nameIndex := 12, descriptorIndex := 6, attributes := #[] }, { accessFlags := 16409, nameIndex := 15, descriptorIndex := 6, attributes := #[] }, { accessFlags := 16409, nameIndex := 18, descriptorIndex := 6, attributes := #[] }, { accessFlags := 16409, nameIndex := 21, descriptorIndex := 6, attributes := #[] }, { accessFlags := 16409, nameIndex := 24, descriptorIndex := 6, attributes := #[] }, { accessFlags := 16409, nameIndex := 27, descriptorIndex := 6, attributes := #[] }, { accessFlags := 16409, nameIndex := 30, descriptorIndex := 6, attributes := #[] }, { accessFlags := 16409, nameIndex := 33, descriptorIndex := 6, attributes := #[] }, { accessFlags := 16409, nameIndex := 36, descriptorIndex := 6, attributes := #[] }, { accessFlags := 26, nameIndex := 133, descriptorIndex := 63, attributes := #[] }, { accessFlags := 18, nameIndex := 58, descriptorIndex := 59, attributes := #[] }, { accessFlags := 18, nameIndex := 62, descriptorIndex := 63, attributes := #[] }, { accessFlags := 18, nameIndex := 66, descriptorIndex := 63, attributes := #[] }, { accessFlags := 4122, nameIndex := 39, descriptorIndex := 40, attributes := #[] }])
  fields := #[{ name := "INVALID_REQUEST", type := (.object "com/example/tenantd/tenantd/server/Problem"), accessFlags := 16409, slot := 0, constantValue := 0 }, { name := "BAD_ORGANISATION", type := (.object "com/example/tenantd/tenantd/server/Problem"), accessFlags := 16409, slot := 1, constantValue := 0 }, { name := "DEFAULT_SANDBOX", type := (.object "com/example/tenantd/tenantd/server/Problem"), accessFlags := 16409, slot := 2, constantValue := 0 }, { name := "UNAUTHORIZED", type := (.object "com/example/tenantd/tenantd/server/Problem"), accessFlags := 16409, slot := 3, constantValue := 0 }, { name := "FORBIDDEN", type := (.object "com/example/tenantd/tenantd/server/Problem"), accessFlags := 16409, slot := 4, constantValue := 0 }, { name := "NOT_FOUND", type := (.object "com/example/tenantd/tenantd/server/Problem"), accessFlags := 16409, slot := 5, constantValue := 0 }, { name := "METHOD_NOT_ALLOWED", type := (.object "com/example/tenantd/tenantd/server/Problem"), accessFlags := 16409, slot := 6, constantValue := 0 }, { name := "NAME_TAKEN", type := (.object "com/example/tenantd/tenantd/server/Problem"), accessFlags := 16409, slot := 7, constantValue := 0 }, { name := "WRONG_STATE", type := (.object "com/example/tenantd/tenantd/server/Problem"), accessFlags := 16409, slot := 8, constantValue := 0 }, { name := "TOO_LARGE", type := (.object "com/example/tenantd/tenantd/server/Problem"), accessFlags := 16409, slot := 9, constantValue := 0 }, { name := "INTERNAL", type := (.object "com/example/tenantd/tenantd/server/Problem"), accessFlags := 16409, slot := 10, constantValue := 0 }, { name := "TYPE_PREFIX", type := (.object "java/lang/String"), accessFlags := 26, slot := 11, constantValue := 0 }, { name := "status", type := .int, accessFlags := 18, slot := 3, constantValue := 0 }, { name := "code", type := (.object "java/lang/String"), accessFlags := 18, slot := 4, constantValue := 0 }, { name := "title", type := (.object "java/lang/String"), accessFlags := 18, slot := 5, constantValue := 0 }, { name := "$VALUES", type := (.array (.object "com/example/tenantd/tenantd/server/Problem")), accessFlags := 4122, slot := 12, constantValue := 0 }]
  methods := #[k6m0, k6m1]
  instanceTypes := #[(.object "java/lang/String"), .int, .int, .int, (.object "java/lang/String"), (.object "java/lang/String")]
  staticTypes := #[(.object "com/example/tenantd/tenantd/server/Problem"), (.object "com/example/tenantd/tenantd/server/Problem"), (.object "com/example/tenantd/tenantd/server/Problem"), (.object "com/example/tenantd/tenantd/server/Problem"), (.object "com/example/tenantd/tenantd/server/Problem"), (.object "com/example/tenantd/tenantd/server/Problem"), (.object "com/example/tenantd/tenantd/server/Problem"), (.object "com/example/tenantd/tenantd/server/Problem"), (.object "com/example/tenantd/tenantd/server/Problem"), (.object "com/example/tenantd/tenantd/server/Problem"), (.object "com/example/tenantd/tenantd/server/Problem"), (.object "java/lang/String"), (.array (.object "com/example/tenantd/tenantd/server/Problem"))]
  resolved := Array.replicate 170 none
  statics := some 0 }

def pool7 : Array CpInfo := pool [(1, u "java/lang/Cloneable"), (0, .class_ 1), (0, u "java/lang/Object"), (0, .class_ 3)] 3

/-- java/lang/Cloneable -/
def k7 : Class := { plain "java/lang/Cloneable" (some 0) with
  accessFlags := 1537
  interfaces := #[]
  cf := some (fileOf pool7 2 #[] #[] 1537 4 #[] #[])
  fields := #[]
  methods := #[]
  instanceTypes := #[]
  staticTypes := #[]
  resolved := Array.replicate 8 none
  statics := none }

/-- the primitive byte -/
def k8 : Class := { plain "byte" none with kind := .primitive 'B', accessFlags := 0x411 }
/-- [B -/
def k9 : Class := { plain "[B" (some 0) with kind := .array 8 .byte, interfaces := #[7, 4], accessFlags := 1041 }

/-- the primitive int -/
def k10 : Class := { plain "int" none with kind := .primitive 'I', accessFlags := 0x411 }
/-- [I -/
def k11 : Class := { plain "[I" (some 0) with kind := .array 10 .int, interfaces := #[7, 4], accessFlags := 1041 }

def heap : Heap := #[{ cls := 6, slots := #[.ref 2, .null, .null, .ref 4, .ref 3, .ref 5, .ref 7, .null, .null, .ref 6, .ref 1, .null, .null], vm := .statics 6 },
  { cls := 6, slots := #[.null, .int 0, .int 0, .int 500, .null, .null], vm := .none },
  { cls := 6, slots := #[.null, .int 1, .int 0, .int 400, .null, .null], vm := .none },
  { cls := 6, slots := #[.null, .int 2, .int 0, .int 403, .null, .null], vm := .none },
  { cls := 6, slots := #[.null, .int 3, .int 0, .int 401, .null, .null], vm := .none },
  { cls := 6, slots := #[.null, .int 4, .int 0, .int 404, .null, .null], vm := .none },
  { cls := 6, slots := #[.null, .int 5, .int 0, .int 413, .null, .null], vm := .none },
  { cls := 6, slots := #[.null, .int 6, .int 0, .int 405, .null, .null], vm := .none }]
def classes : Array Class := #[k0, k1, k2, k3, k4, k5, k6, k7, k8, k9, k10, k11]
def interned : List (Array UInt16 × Addr) := []
def slotsUsed : Nat := 55
def theMethod : MethodId := ⟨1, 1⟩
def args0 : Array Value := #[.int 404, .int 0]
def aboutOver (below : List Frame) : State where
  vm := { classes := classes, interned := interned.toArray }
  heap := heap
  slotsUsed := slotsUsed
  threads := #[{ frames := .invoking theMethod args0 :: below }]
def below0 : List Frame := [.native { method := ⟨0, 0⟩, args := #[] }]
def about1 : State := aboutOver below0
def p0 : Program := .bare "" "" ""
def e0 : Env := launch0.env 0 0 0
theorem w_frames : about1.frames = Frame.invoking theMethod args0 :: below0 := rfl
set_option maxRecDepth 65536 in
theorem w_args : argsFit about1.vm theMethod args0 = true := by decide +kernel
set_option maxRecDepth 65536 in
theorem w_heap : heapFits about1 = true := by decide +kernel
set_option maxRecDepth 65536 in
theorem w_runnable : about1.curStatus? = some .runnable := by decide +kernel
set_option maxRecDepth 65536 in
theorem w_alone : about1.alone = true := by decide +kernel
set_option maxRecDepth 65536 in
theorem w_named : about1.methodNamed? x = some theMethod := by decide +kernel
set_option maxRecDepth 65536 in
theorem w_hears : about1.hears theMethod below0 = true := by decide +kernel
set_option maxRecDepth 65536 in
theorem w_ripe : about1.ripe theMethod args0 below0 = true := by decide +kernel
theorem w_running : about1.status = .running := rfl
set_option maxRecDepth 65536 in
theorem w_room : about1.hasRoom e0.platform room_1 = true :=
  launch0.hasRoom_least _ room_1 (by decide +kernel) (by decide +kernel) (by decide +kernel) (by decide +kernel) (by decide +kernel) (by decide +kernel)
theorem allAtoms_all (ts : List Jvm.Cond) (a : Array Jvm.Value) (st : Jvm.State) : (allAtoms ts).before a st = ts.all (fun c => c.before a st) := by
  induction ts with
  | nil => rfl
  | cons c t ih =>
    show (Jvm.Cond.and c (allAtoms t)).before a st = _
    rw [Jvm.Cond.before_and, ih, List.all_cons]
def words1 : List Jvm.Cond := Jvm.Cond.code x code maxLocals ret :: tables_1
/-- a 'code' word, met by the world's own term for the bytes: nothing is compared byte by byte -/
theorem code_word {y : MethodName} {bytes : ByteArray} {mx : Nat} {rt : Option FieldType} {a : Array Value} {s : State} {m : MethodId} {meth : Method} {c : Code} (h1 : s.methodNamed? y = some m) (h2 : s.vm.method? m = some meth) (h3 : meth.code = some c) (h4 : c.code = bytes)
    (h5 : (c.maxLocals == mx && c.exceptionTable.isEmpty && decide (c.maxStack ≤ mostOperands) && decide (meth.sig.returnType = rt) && !meth.locks && decide (parseMethodDescriptor y.desc = some meth.sig)) = true) : (Jvm.Cond.code y bytes mx rt).before a s = true := by
  simp only [Bool.and_eq_true, beq_iff_eq, Bool.not_eq_true', decide_eq_true_eq] at h5
  obtain ⟨⟨⟨⟨⟨g1, g2⟩, g3⟩, g4⟩, g5⟩, g6⟩ := h5
  simp [Cond.before, Cond.holds, Cond.value, h1, h2, h3, h4, g1, g2, g3, g4, g5, g6]
def isCode : Jvm.Cond → Bool
  | .code _ _ _ _ => true
  | _ => false
theorem all_split {L : List Jvm.Cond} {P : Jvm.Cond → Bool} (h1 : L.all (fun c => isCode c || P c) = true) (h2 : ∀ c ∈ L.filter isCode, P c = true) : L.all P = true := by
  refine List.all_eq_true.mpr fun c hc => ?_
  have h := List.all_eq_true.mp h1 c hc
  rcases Bool.eq_false_or_eq_true (isCode c) with hi | hi
  · exact h2 c (List.mem_filter.mpr ⟨hc, hi⟩)
  · simpa [hi] using h
set_option maxRecDepth 65536 in
theorem w_c0 : (Jvm.Cond.code x code maxLocals ret).before args0 about1 = true := code_word (m := ⟨1, 1⟩) (meth := k1m1) (c := k1c1) (by decide +kernel) rfl rfl rfl (by decide +kernel)
set_option maxRecDepth 65536 in
theorem w_c1 : (Jvm.Cond.code ({ cls := "com/example/tenantd/tenantd/server/Problem", name := "forStatus", desc := "(I)Lcom/example/tenantd/tenantd/server/Problem;" } : Jvm.MethodName) prog_57_method_7_code (2 : Nat) (Option.some (Jvm.ClassFile.FieldType.object "com/example/tenantd/tenantd/server/Problem"))).before args0 about1 = true := code_word (m := ⟨6, 1⟩) (meth := k6m1) (c := k6c1) (by decide +kernel) rfl rfl rfl (by decide +kernel)
set_option maxRecDepth 65536 in
theorem w_c2 : (Jvm.Cond.code ({ cls := "com/example/tenantd/tenantd/server/Problem", name := "status", desc := "()I" } : Jvm.MethodName) prog_57_method_4_code (1 : Nat) (Option.some Jvm.ClassFile.FieldType.int)).before args0 about1 = true := code_word (m := ⟨6, 0⟩) (meth := k6m0) (c := k6c0) (by decide +kernel) rfl rfl rfl (by decide +kernel)
def codes1 : List Jvm.Cond := [Jvm.Cond.code x code maxLocals ret, Jvm.Cond.code ({ cls := "com/example/tenantd/tenantd/server/Problem", name := "forStatus", desc := "(I)Lcom/example/tenantd/tenantd/server/Problem;" } : Jvm.MethodName) prog_57_method_7_code (2 : Nat) (Option.some (Jvm.ClassFile.FieldType.object "com/example/tenantd/tenantd/server/Problem")), Jvm.Cond.code ({ cls := "com/example/tenantd/tenantd/server/Problem", name := "status", desc := "()I" } : Jvm.MethodName) prog_57_method_4_code (1 : Nat) (Option.some Jvm.ClassFile.FieldType.int)]
set_option maxRecDepth 65536 in
theorem codes_eq : words1.filter isCode = codes1 := rfl
theorem w_codes : ∀ c ∈ words1.filter isCode, c.before args0 about1 = true := by
  rw [codes_eq]
  intro c hc
  simp only [codes1, List.mem_cons, List.not_mem_nil, or_false] at hc
  rcases hc with rfl | rfl | rfl
  · exact w_c0
  · exact w_c1
  · exact w_c2
set_option maxRecDepth 65536 in
theorem w_t1 : (words1.take 24).all (fun c => isCode c || c.before args0 about1) = true := by decide +kernel
set_option maxRecDepth 65536 in
theorem w_t2 : (words1.drop 24).all (fun c => isCode c || c.before args0 about1) = true := by decide +kernel
theorem w_tables : (allAtoms (Jvm.Cond.code x code maxLocals ret :: tables_1)).before args0 about1 = true := by
  rw [allAtoms_all]
  show words1.all (fun c => c.before args0 about1) = true
  refine all_split ?_ w_codes
  rw [← List.take_append_drop 24 words1, List.all_append, w_t1, w_t2]
  rfl
set_option maxRecDepth 65536 in
theorem w_case : (Jvm.Cond.and given_1 narrow_1).before args0 about1 = true := by decide +kernel
theorem w_applies : (headSpec (Jvm.Cond.code x code maxLocals ret :: tables_1) room_1).applies x e0.platform about1 = true :=
  (Spec.applies_iff w_frames).mpr ⟨w_running, w_runnable, w_alone, w_named, w_hears, w_ripe, w_room, w_tables⟩
theorem atStart : AtStart classFile x code maxLocals ret World_1 tables_1 room_1 Calls_1 rest_1 Pre_1 launch0 p0 e0 about1 theMethod args0 below0 :=
  ⟨lists_1, trivial, launch0.admits_env _ _ _, launch0.least_env, fairChoices_fair.cas, fairChoices_fair.clock, w_frames, w_args, w_heap, w_applies, trivial, trivial, w_case⟩
end start1
theorem witness_1 : WitnessClaimed_1 := ⟨start1.p0, start1.e0, start1.about1, start1.theMethod, start1.args0, start1.below0, start1.atStart⟩
end Jvm.Pilot.@@N@@
