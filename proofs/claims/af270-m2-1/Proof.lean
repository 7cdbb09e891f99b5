import JvmDerived
import JvmDerived.Pilot.@@N@@Statement
import JvmDerived.Pilot.@@N@@Code
set_option linter.unusedVariables false
set_option linter.unusedSimpArgs false
namespace Jvm.RoadKit
open Sem ClassFile Op Lib Jvm.Stand Jvm.Free Jvm.LawKit
section New
variable {p : Program} {l : Launch} {e : Env} {R : Room} {s : State} {m : MethodId} {args : Array Value} {below : List Frame} {meth : Method} {c : Code} {T : State} {locs : List Loc} {cells slots : Nat}
theorem retI (X : Stand p l e R s m args below meth c T locs cells slots) (hx : p.tables.exec = Jvm.exec) {pc : Nat} {Ls : Array Slot} {z : Int32} {rest : List Value} (hret : meth.sig.returnType = some .int) (hd : decode c.code pc = .ok (.ireturn, 1)) {fs : List Frame}
    (hl : ∀ (f : JFrame) (acts : List Action), f.method = m → f.locked = none → f.entered = [] → (doReturn e (T.setTop f) acts (some (.int z))).1 = T.setFrames fs) : Steps p.tables e below (T.setTop (mkF m pc Ls (.int z :: rest))) (T.setFrames fs) := by
  have hm' : T.vm.method? m = some meth := X.method'
  have hn : narrow .int (.int z) = .int z := rfl
  show Steps p.tables e below (T.setTop { method := m, pc := pc, locals := Ls, stack := _ :: rest, locked := none }) _
  jvm_step X.here [X.here.top, hx, hd, hm', hret, hn]
  first | (intro acts; rw [hl _ acts rfl rfl rfl]) | rw [hl _ _ rfl rfl rfl]
  exact Steps.refl _
end New
end Jvm.RoadKit
namespace Jvm.Pilot.@@N@@
open Jvm Jvm.ClassFile Sem Op Lib Jvm.Free Jvm.Stand Jvm.LawKit Jvm.RoadKit Bundle Jvm.Pilot.@@N@@.Jvm.D
/-- from the state F the walk ends as Q says (what it returns, the heap, the places written) -/
def Ends (p : Program) (e : Env) (below : List Frame) (s : State) (R : Room) (Q : Option Value → Heap → List Loc → Prop) (F : State) : Prop :=
  ∃ t o, Steps p.tables e below F t ∧ t.status = .running ∧ Ended t below o ∧ ∃ v L, o = .returned v ∧ Q v t.heap L ∧ FrameEnd s o t L R.cells R.slots
theorem Ends.of {p : Program} {e : Env} {below : List Frame} {s : State} {R : Room} {Q : Option Value → Heap → List Loc → Prop} {F F' : State} (h : ∀ t, Steps p.tables e below F' t → Steps p.tables e below F t) (k : Ends p e below s R Q F') : Ends p e below s R Q F := by
  obtain ⟨t, o, h1, r⟩ := k
  exact ⟨t, o, h t h1, r⟩
theorem Ends.st {p : Program} {e : Env} {below : List Frame} {s : State} {R : Room} {Q : Option Value → Heap → List Loc → Prop} {F F' : State} (h : Steps p.tables e below F F') (k : Ends p e below s R Q F') : Ends p e below s R Q F := Ends.of (fun _ q => h.trans q) k
theorem own_eqi {args : Array Value} {first s : State} {o : Option Outcome} {idx : List Nat} {t : Term} {k : Int32} (h : (Jvm.Cond.eq t (Term.int k)).value args first o s idx = some true) : t.eval args first o idx s = some (.int k) := by
  simp only [Cond.value, Term.eval] at h
  cases ht : t.eval args first o idx s with
  | none => simp [ht] at h
  | some x => cases x <;> simp [ht] at h ⊢; exact h
theorem own_eqr {args : Array Value} {first s : State} {o : Option Outcome} {idx : List Nat} {t u : Term} {b : Addr} (h : (Jvm.Cond.eq t u).value args first o s idx = some true) (hu : u.eval args first o idx s = some (.ref b)) : t.eval args first o idx s = some (.ref b) := by
  simp only [Cond.value, hu] at h
  cases ht : t.eval args first o idx s with
  | none => simp [ht] at h
  | some x => cases x <;> simp [ht] at h ⊢; exact h
theorem own_nat (z : Int32) (b : Nat) (h0 : 0 ≤ z.toInt) (h1 : z.toInt ≤ b) : ∃ n : Nat, n ≤ b ∧ z = Int32.ofNat n := by
  have := rng32 z
  refine ⟨z.toInt.toNat, by omega, Int32.toInt_inj.mp ?_⟩
  rw [Int32.toInt_ofNat_of_lt (by omega)]
  omega
theorem own_toInt {n : Nat} (h : n ≤ 1000) : (Int32.ofNat n).toInt = n := Int32.toInt_ofNat_of_lt (by omega)
theorem own_clamp {n : Nat} (h : n ≤ 1000) : (Int32.ofNat n).toNatClampNeg = n := by
  have e : (Int32.ofNat n).toNatClampNeg = (Int32.ofNat n).toInt.toNat := rfl
  rw [e, own_toInt h]
  omega
theorem own_nn {n : Nat} (h : n ≤ 1000) : ¬ Int32.ofNat n < (0 : Int32) := by
  rw [Int32.lt_iff_toInt_lt, own_toInt h]
  have : ((0 : Int32)).toInt = 0 := by decide
  omega

theorem own_n (t : Int32) : ∃ n : Nat, n ≤ 7 ∧ (t &&& (7 : Int32)) = Int32.ofNat n := by
  have h := c_mask t (7 : Int32) 3 (by decide) (by decide)
  exact own_nat _ 7 (by omega) (by omega)
theorem own_nk (q : Int64) : ¬ (Int32.ofNat 0).toInt64 = (q &&& (9223372036854775807 : Int64)) + (1 : Int64) := fun h => by
  have h1 := c_maskL q (9223372036854775807 : Int64) 63 (by decide) (by decide)
  have h2 := c_ladd (q &&& (9223372036854775807 : Int64)) (1 : Int64)
  have z : ((1 : Int64)).toInt = 1 := by decide
  have z0 : ((Int32.ofNat 0).toInt64).toInt = 0 := by decide
  rw [← h, z, z0] at h2
  omega
theorem own_len {args : Array Value} {first s : State} {o : Option Outcome} {idx : List Nat} {t : Term} {k : Int32} (h : (Term.length t).eval args first o idx s = some (.int k)) {a : Addr} {cell : Cell} (ht : t.eval args first o idx s = some (.ref a)) (ha : s.arrayAt? a = some cell) : cell.slots.size = k.toNatClampNeg := by
  by_cases hn : cell.slots.size < 2 ^ 31
  · rw [len_f ht ha hn] at h
    have e := Value.int.inj (Option.some.inj h)
    rw [← e]
    have e2 : (cell.slots.size.toInt32).toNatClampNeg = (Int32.ofNat cell.slots.size).toInt.toNat := rfl
    rw [e2, Int32.toInt_ofNat_of_lt (by omega)]
    omega
  · simp [Term.eval, ht, ha, hn] at h
/-- a byte array of n places -/
def Byt (Z : State) (h : Heap) (a : Addr) (n : Nat) : Prop := ∃ c : Cell, Arr Z h a c .byte ∧ c.slots.size = n
theorem Byt.lt {Z : State} {h : Heap} {a : Addr} {n : Nat} (C : Byt Z h a n) : a < h.size := by
  obtain ⟨c, A, -⟩ := C
  exact A.lt
theorem Byt.ext {Z : State} {h h' : Heap} {a : Addr} {n : Nat} (C : Byt Z h a n) (E : Ext h h') : Byt Z h' a n := by
  obtain ⟨c, A, r⟩ := C
  exact ⟨c, A.ext E, r⟩
theorem Byt.keep {Z : State} {h h' : Heap} {a : Addr} {n : Nat} {ws : List Addr} (C : Byt Z h a n) (K : Keep h h' ws) (q : a ∉ ws) : Byt Z h' a n := by
  obtain ⟨c, A, r⟩ := C
  exact ⟨c, ⟨K.2.1 a c A.1 q, A.2⟩, r⟩
theorem Byt.new {Z : State} {h : Heap} {a : Addr} {k : ClassId} {z : Int32} {n : Nat} (A : Arr Z h a (newA k .byte z) .byte) (e : z.toNatClampNeg = n) : Byt Z h a n := ⟨_, A, by rw [sz_new, e]⟩
theorem Sta.keep {Z : State} {h h' : Heap} {C n d : String} {v : Value} {ws : List Addr} (S : Sta Z h C n d v) (K : Keep h h' ws) (q : ∀ x ∈ ws, ∀ cell : Cell, h[x]? = some cell → cell.vm.isStatics = false) : Sta Z h' C n d v := by
  obtain ⟨cf, i, k, f, st, cell, h1, h2, h3, h4, h5, h6, h7⟩ := S
  refine ⟨cf, i, k, f, st, cell, h1, h2, h3, h4, K.2.1 st cell h5 (fun z => ?_), h6, h7⟩
  have := q st z cell h5
  rw [h6] at this
  cases this
theorem pd_0 : parseMethodDescriptor "([BJ)V" = some ⟨[(.array .byte), .long], none⟩ := by decide +kernel
theorem pd_1 : parseMethodDescriptor "()V" = some ⟨[], none⟩ := by decide +kernel
theorem pd_2 : parseMethodDescriptor "()Z" = some ⟨[], some .boolean⟩ := by decide +kernel
theorem pd_3 : parseMethodDescriptor "([B)Lcom/example/tardy_post/tardypost/Message$Body;" = some ⟨[(.array .byte)], some (.object "com/example/tardy_post/tardypost/Message$Body")⟩ := by decide +kernel
theorem pd_4 : parseMethodDescriptor "(J)Lcom/example/tardy_post/tardypost/Message$Body;" = some ⟨[.long], some (.object "com/example/tardy_post/tardypost/Message$Body")⟩ := by decide +kernel
theorem d2_0 : decode jdk_30_method_1_code 0 = .ok (.aload_n 0, 1) := by decide +kernel
theorem d2_1 : decode jdk_30_method_1_code 1 = .ok (.invokespecial 1, 3) := by decide +kernel
theorem d2_4 : decode jdk_30_method_1_code 4 = .ok (.return_, 1) := by decide +kernel
theorem pn_0 : plainName "java/lang/Record" = true := by first | (simp [plainName, overriddenIn]; done) | decide +kernel
def Q2 (Z : State) (a1 : Addr) (h0 : Heap) (n0 : Nat) (v : Option Value) (h : Heap) (L : List Loc) : Prop := v = none ∧ Fr n0 L ∧ h = h0
set_option maxRecDepth 65536 in
set_option maxHeartbeats 40000000 in
theorem rm2 (l : Launch) (Z : State) (a0 : Array Value) (hw : ∀ d ∈ tables_1, d.before a0 Z = true) (ws : List Jvm.Cond) (a1 : Addr) (h0 : Heap) (n0 : Nat) (Z0 : n0 ≤ h0.size) :
    MetFree l (⟨"java/lang/Record", "<init>", "()V"⟩ : MethodName) (head1 (Jvm.Cond.code (⟨"java/lang/Record", "<init>", "()V"⟩ : MethodName) jdk_30_method_1_code 1 none :: ws) ({ frames := 1, cells := 0, slots := 0, locals := 12 } : Room)) (fun a U => a = #[(.ref a1)] ∧ Z.Warmed39 U.vm ∧ U.heap = h0) (fun _ _ _ _ _ => True) (fun _ U o U' => ∃ v L, o = .returned v ∧ Q2 Z a1 h0 n0 v U'.heap L ∧ FrameEnd U o U' L ({ frames := 1, cells := 0, slots := 0, locals := 12 } : Room).cells ({ frames := 1, cells := 0, slots := 0, locals := 12 } : Room).slots) := by
  refine MetFree.of_bodySF (plainFor_of_name pn_0) hisR ?_
  intro p e s m args below meth c s₁ Bd hml0 hP hK
  obtain ⟨rfl, hZ, hh⟩ := hP
  have hx := Bd.exec
  have hby := Bd.bytes
  have hml : c.maxLocals = 1 := hml0
  have hown : s.vm.findClass "java/lang/Record" = some m.cls := findClass_of_methodNamed Bd.named
  have hnm := (name_of_methodNamed Bd.named Bd.method).1
  have X0 : Stand p l e ({ frames := 1, cells := 0, slots := 0, locals := 12 } : Room) s m #[(.ref a1)] below meth c s₁ [] 0 0 := Stand.of_body Bd
  have e0 : s₁.heap = h0 := by rw [← hh, Bd.state]; rfl
  have N0 := Fr.nil n0
  have eF : entryFrame m #[(.ref a1)] 1 = mkF m 0 #[.val (.ref a1)] [] := by first | (simp [entryFrame, mkF, argsToLocals, Value.category]; done) | rfl
  show Ends p e below s ({ frames := 1, cells := 0, slots := 0, locals := 12 } : Room) (Q2 Z a1 h0 n0) (s₁.setTop (entryFrame m #[(.ref a1)] 1))
  rw [eF]
  refine Ends.of (F' := s₁.setTop (mkF m 1 #[.val (.ref a1)] [(.ref a1)])) (fun _ kt => ?_) ?_
  · show Steps p.tables e below (s₁.setTop (mkF m 0 #[.val (.ref a1)] [])) _
    refine XS.aloadN X0.here hx rfl (hb hby d2_0) rfl rfl ?_
    exact kt
  obtain ⟨T1, X1, e1, st1⟩ := initO X0 hx hZ hown (hw _ (List.mem_of_getElem? (i := 12) rfl)) (hw _ (List.mem_of_getElem? (i := 13) rfl)) (hw _ (List.mem_of_getElem? (i := 14) rfl)) e0 (g := (mkF m 1 #[.val (.ref a1)] [(.ref a1)])) rfl (by rw [hml]; rfl) rfl (hb hby d2_1) (by decide) (W := 0) (by show 2 * 0 + _ ≤ _; exact Nat.le_of_eq rfl) (by decide)
  refine Ends.of st1 ?_
  obtain ⟨fs, hr, hrun, hended, hW, hsame⟩ := X1.leave (v := none) (fun _ => rfl)
  exact ⟨_, _, X1.returnOut hx Bd.returns (hb hby d2_4) hr, hrun, hended, _, _, rfl, ⟨rfl, N0, e1⟩, ⟨_, rfl⟩, hW, hsame.mono (by decide) (by decide)⟩
theorem d1_0 : decode prog_51_method_1_code 0 = .ok (.aload_n 0, 1) := by decide +kernel
theorem d1_1 : decode prog_51_method_1_code 1 = .ok (.invokespecial 1, 3) := by decide +kernel
theorem d1_4 : decode prog_51_method_1_code 4 = .ok (.aload_n 0, 1) := by decide +kernel
theorem d1_5 : decode prog_51_method_1_code 5 = .ok (.aload_n 1, 1) := by decide +kernel
theorem d1_6 : decode prog_51_method_1_code 6 = .ok (.putfield 7, 3) := by decide +kernel
theorem d1_9 : decode prog_51_method_1_code 9 = .ok (.aload_n 0, 1) := by decide +kernel
theorem d1_10 : decode prog_51_method_1_code 10 = .ok (.lload_n 2, 1) := by decide +kernel
theorem d1_11 : decode prog_51_method_1_code 11 = .ok (.putfield 13, 3) := by decide +kernel
theorem d1_14 : decode prog_51_method_1_code 14 = .ok (.return_, 1) := by decide +kernel
theorem pn_1 : plainName "com/example/tardy_post/tardypost/Message$Body" = true := by first | (simp [plainName, overriddenIn]; done) | decide +kernel
def Q1 (Z : State) (a1 : Addr) (a2 : Addr) (q3 : Int64) (h0 : Heap) (n0 : Nat) (v : Option Value) (h : Heap) (L : List Loc) : Prop := v = none ∧ Fr n0 L ∧ Keep h0 h [a1] ∧ Exa Z h a1 "com/example/tardy_post/tardypost/Message$Body" ∧ Fld Z h a1 "com/example/tardy_post/tardypost/Message$Body" "bytes" "[B" (.ref a2) ∧ Fld Z h a1 "com/example/tardy_post/tardypost/Message$Body" "length" "J" (.long q3)
set_option maxRecDepth 65536 in
set_option maxHeartbeats 40000000 in
theorem rm1 (l : Launch) (Z : State) (a0 : Array Value) (hw : ∀ d ∈ tables_1, d.before a0 Z = true) (ws : List Jvm.Cond) (a1 : Addr) (a2 : Addr) (q3 : Int64) (h0 : Heap) (n0 : Nat) (Z0 : n0 ≤ h0.size) (E_a : Exa Z h0 a1 "com/example/tardy_post/tardypost/Message$Body") (F_b : Fld Z h0 a1 "com/example/tardy_post/tardypost/Message$Body" "bytes" "[B" .null) (F_l : Fld Z h0 a1 "com/example/tardy_post/tardypost/Message$Body" "length" "J" (.long (0 : Int64))) (g_a : n0 ≤ a1) :
    MetFree l (⟨"com/example/tardy_post/tardypost/Message$Body", "<init>", "([BJ)V"⟩ : MethodName) (head1 (Jvm.Cond.code (⟨"com/example/tardy_post/tardypost/Message$Body", "<init>", "([BJ)V"⟩ : MethodName) prog_51_method_1_code 4 none :: ws) ({ frames := 2, cells := 0, slots := 0, locals := 24 } : Room)) (fun a U => a = #[(.ref a1), (.ref a2), (.long q3)] ∧ Z.Warmed39 U.vm ∧ U.heap = h0) (fun _ _ _ _ _ => True) (fun _ U o U' => ∃ v L, o = .returned v ∧ Q1 Z a1 a2 q3 h0 n0 v U'.heap L ∧ FrameEnd U o U' L ({ frames := 2, cells := 0, slots := 0, locals := 24 } : Room).cells ({ frames := 2, cells := 0, slots := 0, locals := 24 } : Room).slots) := by
  refine MetFree.of_bodySF (plainFor_of_name pn_1) hisR ?_
  intro p e s m args below meth c s₁ Bd hml0 hP hK
  obtain ⟨rfl, hZ, hh⟩ := hP
  have hx := Bd.exec
  have hby := Bd.bytes
  have hml : c.maxLocals = 4 := hml0
  have hown : s.vm.findClass "com/example/tardy_post/tardypost/Message$Body" = some m.cls := findClass_of_methodNamed Bd.named
  have hnm := (name_of_methodNamed Bd.named Bd.method).1
  have X0 : Stand p l e ({ frames := 2, cells := 0, slots := 0, locals := 24 } : Room) s m #[(.ref a1), (.ref a2), (.long q3)] below meth c s₁ [] 0 0 := Stand.of_body Bd
  have e0 : s₁.heap = h0 := by rw [← hh, Bd.state]; rfl
  have N0 := Fr.nil n0
  have eF : entryFrame m #[(.ref a1), (.ref a2), (.long q3)] 4 = mkF m 0 #[.val (.ref a1), .val (.ref a2), .val (.long q3), .second] [] := by first | (simp [entryFrame, mkF, argsToLocals, Value.category]; done) | rfl
  show Ends p e below s ({ frames := 2, cells := 0, slots := 0, locals := 24 } : Room) (Q1 Z a1 a2 q3 h0 n0) (s₁.setTop (entryFrame m #[(.ref a1), (.ref a2), (.long q3)] 4))
  rw [eF]
  refine Ends.of (F' := s₁.setTop (mkF m 1 #[.val (.ref a1), .val (.ref a2), .val (.long q3), .second] [(.ref a1)])) (fun _ kt => ?_) ?_
  · show Steps p.tables e below (s₁.setTop (mkF m 0 #[.val (.ref a1), .val (.ref a2), .val (.long q3), .second] [])) _
    refine XS.aloadN X0.here hx rfl (hb hby d1_0) rfl rfl ?_
    exact kt
  obtain ⟨_, _, ⟨T2, L2, k2, n2⟩, -, X2, ⟨Lc2, hQ2, l2, y2, z2⟩, st2⟩ := X0.specialBack hx (y := (⟨"java/lang/Record", "<init>", "()V"⟩ : MethodName)) rfl hown (mvT hZ (hw _ (List.mem_of_getElem? (i := 7) rfl))) (mvT hZ (hw _ (List.mem_of_getElem? (i := 8) rfl))) (mvT hZ (hw _ (List.mem_of_getElem? (i := 11) rfl))) (by decide) (backOf (W := 0) (rm2 l Z a0 hw [] a1 h0 n0 Z0) hZ (hw _ (List.mem_of_getElem? (i := 11) rfl)) (hw _ (List.mem_of_getElem? (i := 10) rfl)) (by decide) (by decide)) (g := (mkF m 1 #[.val (.ref a1), .val (.ref a2), .val (.long q3), .second] [(.ref a1)])) rfl (by rw [hml]; rfl) (Steps.refl _) (a := a1) (argsL := []) (rest := []) (lenOf pd_1 rfl) rfl (by show 2 * 0 + _ ≤ _; exact Nat.le_of_eq rfl) (hb hby d1_1) (fun _ _ => ⟨rfl, e0, (by decide : 0 + 0 ≤ _), (by decide : 0 + 0 ≤ _)⟩)
  dsimp only [Pt.U, Pt.locs, Pt.cells, Pt.slots] at X2 l2 y2 z2 st2 hQ2
  subst l2 y2 z2
  obtain ⟨rfl, N2q, e2⟩ := hQ2
  have N2 := Fr.app N0 N2q
  refine Ends.st st2 ?_
  refine Ends.of (F' := T2.setTop (mkF m 6 #[.val (.ref a1), .val (.ref a2), .val (.long q3), .second] [(.ref a2), (.ref a1)])) (fun _ kt => ?_) ?_
  · show Steps p.tables e below (T2.setTop (mkF m 4 #[.val (.ref a1), .val (.ref a2), .val (.long q3), .second] [])) _
    refine XS.aloadN X2.here hx rfl (hb hby d1_4) rfl rfl ?_
    show Steps p.tables e below (T2.setTop (mkF m 5 #[.val (.ref a1), .val (.ref a2), .val (.long q3), .second] [(.ref a1)])) _
    refine XS.aloadN X2.here hx rfl (hb hby d1_5) rfl rfl ?_
    exact kt
  obtain ⟨T3, h3, X3, e3, W3, st3⟩ := putF X2 hx hZ hown (host := "") (Or.inl (hw _ (List.mem_of_getElem? (i := 15) rfl))) Via.refl e2 F_b E_a (Or.inr ⟨(hw _ (List.mem_of_getElem? (i := 16) rfl)), rfl, hnm⟩) (hw _ (List.mem_of_getElem? (i := 2) rfl)) (ty := (.array .byte)) (by decide) rfl rfl (g := (mkF m 6 #[.val (.ref a1), .val (.ref a2), .val (.long q3), .second] [(.ref a2), (.ref a1)])) rfl rfl (hb hby d1_6)
  refine Ends.of st3 ?_
  have N3 := Fr.snoc X3 N2 g_a
  have F_l1 := F_l.other W3 (Or.inr (slot_ne (Or.inr (hw _ (List.mem_of_getElem? (i := 18) rfl))) (Or.inr (hw _ (List.mem_of_getElem? (i := 16) rfl))) (by decide) (t := .long) (t' := (.array .byte)) (by decide) (by decide)))
  have F_b1 := F_b.same W3
  have E_1 := E_a.wr W3
  have K_1 : Keep h0 h3 [a1] := (Keep.refl _ _).wr W3 (Or.inl (List.mem_of_getElem? (i := 0) rfl))
  refine Ends.of (F' := T3.setTop (mkF m 11 #[.val (.ref a1), .val (.ref a2), .val (.long q3), .second] [(.long q3), (.ref a1)])) (fun _ kt => ?_) ?_
  · show Steps p.tables e below (T3.setTop (mkF m 9 #[.val (.ref a1), .val (.ref a2), .val (.long q3), .second] [])) _
    refine XS.aloadN X3.here hx rfl (hb hby d1_9) rfl rfl ?_
    show Steps p.tables e below (T3.setTop (mkF m 10 #[.val (.ref a1), .val (.ref a2), .val (.long q3), .second] [(.ref a1)])) _
    refine XS.lloadN X3.here hx rfl (hb hby d1_10) rfl ?_
    exact kt
  obtain ⟨T4, h4, X4, e4, W4, st4⟩ := putF X3 hx hZ hown (host := "") (Or.inl (hw _ (List.mem_of_getElem? (i := 17) rfl))) Via.refl e3 F_l1 E_1 (Or.inr ⟨(hw _ (List.mem_of_getElem? (i := 18) rfl)), rfl, hnm⟩) (hw _ (List.mem_of_getElem? (i := 2) rfl)) (ty := .long) (by decide) rfl rfl (g := (mkF m 11 #[.val (.ref a1), .val (.ref a2), .val (.long q3), .second] [(.long q3), (.ref a1)])) rfl rfl (hb hby d1_11)
  refine Ends.of st4 ?_
  have N4 := Fr.snoc X4 N3 g_a
  have F_b2 := F_b1.other W4 (Or.inr (slot_ne (Or.inr (hw _ (List.mem_of_getElem? (i := 16) rfl))) (Or.inr (hw _ (List.mem_of_getElem? (i := 18) rfl))) (by decide) (t := (.array .byte)) (t' := .long) (by decide) (by decide)))
  have F_l2 := F_l1.same W4
  have E_2 := E_1.wr W4
  have K_2 : Keep h0 h4 [a1] := K_1.wr W4 (Or.inl (List.mem_of_getElem? (i := 0) rfl))
  rw [← e4] at F_b2 F_l2 E_2 K_2
  obtain ⟨fs, hr, hrun, hended, hW, hsame⟩ := X4.leave (v := none) (fun _ => rfl)
  exact ⟨_, _, X4.returnOut hx Bd.returns (hb hby d1_14) hr, hrun, hended, _, _, rfl, ⟨rfl, N4, K_2, E_2, F_b2, F_l2⟩, ⟨_, rfl⟩, hW, hsame.mono (by decide) (by decide)⟩
theorem d4_0 : decode prog_51_method_4_code 0 = .ok (.aload_n 0, 1) := by decide +kernel
theorem d4_1 : decode prog_51_method_4_code 1 = .ok (.getfield 7, 3) := by decide +kernel
theorem d4_4 : decode prog_51_method_4_code 4 = .ok (.arraylength, 1) := by decide +kernel
theorem d4_5 : decode prog_51_method_4_code 5 = .ok (.i2l, 1) := by decide +kernel
theorem d4_6 : decode prog_51_method_4_code 6 = .ok (.aload_n 0, 1) := by decide +kernel
theorem d4_7 : decode prog_51_method_4_code 7 = .ok (.getfield 13, 3) := by decide +kernel
theorem d4_10 : decode prog_51_method_4_code 10 = .ok (.lcmp, 1) := by decide +kernel
theorem d4_11 : decode prog_51_method_4_code 11 = .ok (.ifCond .ne 7, 3) := by decide +kernel
theorem d4_14 : decode prog_51_method_4_code 14 = .ok (.iconst 1, 1) := by decide +kernel
theorem d4_15 : decode prog_51_method_4_code 15 = .ok (.goto 4, 3) := by decide +kernel
theorem d4_18 : decode prog_51_method_4_code 18 = .ok (.iconst 0, 1) := by decide +kernel
theorem d4_19 : decode prog_51_method_4_code 19 = .ok (.ireturn, 1) := by decide +kernel
def Q4 (Z : State) (a1 : Addr) (a2 : Addr) (n : Nat) (q : Int64) (h0 : Heap) (n0 : Nat) (v : Option Value) (h : Heap) (L : List Loc) : Prop := v = some (.int (if (Int32.ofNat n).toInt64 = q then (1 : Int32) else (0 : Int32))) ∧ Fr n0 L ∧ h = h0
set_option maxRecDepth 65536 in
set_option maxHeartbeats 40000000 in
theorem rm4 (l : Launch) (Z : State) (a0 : Array Value) (hw : ∀ d ∈ tables_1, d.before a0 Z = true) (ws : List Jvm.Cond) (a1 : Addr) (a2 : Addr) (n : Nat) (q : Int64) (h0 : Heap) (n0 : Nat) (Z0 : n0 ≤ h0.size) (F_b : Fld Z h0 a1 "com/example/tardy_post/tardypost/Message$Body" "bytes" "[B" (.ref a2)) (F_l : Fld Z h0 a1 "com/example/tardy_post/tardypost/Message$Body" "length" "J" (.long q)) (B : Byt Z h0 a2 n) :
    MetFree l (⟨"com/example/tardy_post/tardypost/Message$Body", "isKept", "()Z"⟩ : MethodName) (head1 (Jvm.Cond.code (⟨"com/example/tardy_post/tardypost/Message$Body", "isKept", "()Z"⟩ : MethodName) prog_51_method_4_code 1 (some .boolean) :: ws) ({ frames := 0, cells := 0, slots := 0, locals := 0 } : Room)) (fun a U => a = #[(.ref a1)] ∧ Z.Warmed39 U.vm ∧ U.heap = h0) (fun _ _ _ _ _ => True) (fun _ U o U' => ∃ v L, o = .returned v ∧ Q4 Z a1 a2 n q h0 n0 v U'.heap L ∧ FrameEnd U o U' L ({ frames := 0, cells := 0, slots := 0, locals := 0 } : Room).cells ({ frames := 0, cells := 0, slots := 0, locals := 0 } : Room).slots) := by
  refine MetFree.of_bodySF (plainFor_of_name pn_1) hisR ?_
  intro p e s m args below meth c s₁ Bd hml0 hP hK
  obtain ⟨rfl, hZ, hh⟩ := hP
  have hx := Bd.exec
  have hby := Bd.bytes
  have hml : c.maxLocals = 1 := hml0
  have hown : s.vm.findClass "com/example/tardy_post/tardypost/Message$Body" = some m.cls := findClass_of_methodNamed Bd.named
  have hnm := (name_of_methodNamed Bd.named Bd.method).1
  have X0 : Stand p l e ({ frames := 0, cells := 0, slots := 0, locals := 0 } : Room) s m #[(.ref a1)] below meth c s₁ [] 0 0 := Stand.of_body Bd
  have e0 : s₁.heap = h0 := by rw [← hh, Bd.state]; rfl
  have N0 := Fr.nil n0
  have eF : entryFrame m #[(.ref a1)] 1 = mkF m 0 #[.val (.ref a1)] [] := by first | (simp [entryFrame, mkF, argsToLocals, Value.category]; done) | rfl
  show Ends p e below s ({ frames := 0, cells := 0, slots := 0, locals := 0 } : Room) (Q4 Z a1 a2 n q h0 n0) (s₁.setTop (entryFrame m #[(.ref a1)] 1))
  rw [eF]
  obtain ⟨cb, Ab, Sb⟩ := B
  refine Ends.of (F' := s₁.setTop (mkF m 1 #[.val (.ref a1)] [(.ref a1)])) (fun _ kt => ?_) ?_
  · show Steps p.tables e below (s₁.setTop (mkF m 0 #[.val (.ref a1)] [])) _
    refine XS.aloadN X0.here hx rfl (hb hby d4_0) rfl rfl ?_
    exact kt
  obtain ⟨T5, X5, e5, st5⟩ := getF X0 hx hZ hown (host := "") (Or.inl (hw _ (List.mem_of_getElem? (i := 15) rfl))) Via.refl e0 F_b (g := (mkF m 1 #[.val (.ref a1)] [(.ref a1)])) rfl rfl (hb hby d4_1)
  refine Ends.of st5 ?_
  refine Ends.of (F' := T5.setTop (mkF m 7 #[.val (.ref a1)] [(.ref a1), (.long ((Int32.ofNat n).toInt64))])) (fun _ kt => ?_) ?_
  · show Steps p.tables e below (T5.setTop (mkF m 4 #[.val (.ref a1)] [(.ref a2)])) _
    refine X5.arraylength hx (by rw [e5]; exact Ab.1) (State.isArrayOf_alike hZ.alike Ab.2.1) (g := (mkF m 4 #[.val (.ref a1)] [(.ref a2)])) rfl rfl (hb hby d4_4) _ ?_
    rw [Sb]
    show Steps p.tables e below (T5.setTop (mkF m 5 #[.val (.ref a1)] [(.int (Int32.ofNat n))])) _
    refine XS.i2l X5.here hx rfl (hb hby d4_5) rfl ?_
    show Steps p.tables e below (T5.setTop (mkF m 6 #[.val (.ref a1)] [(.long ((Int32.ofNat n).toInt64))])) _
    refine XS.aloadN X5.here hx rfl (hb hby d4_6) rfl rfl ?_
    exact kt
  obtain ⟨T6, X6, e6, st6⟩ := getF X5 hx hZ hown (host := "") (Or.inl (hw _ (List.mem_of_getElem? (i := 17) rfl))) Via.refl e5 F_l (g := (mkF m 7 #[.val (.ref a1)] [(.ref a1), (.long ((Int32.ofNat n).toInt64))])) rfl rfl (hb hby d4_7)
  refine Ends.of st6 ?_
  refine Ends.of (F' := T6.setTop (mkF m 11 #[.val (.ref a1)] [(.int (lcmpW ((Int32.ofNat n).toInt64) q))])) (fun _ kt => ?_) ?_
  · show Steps p.tables e below (T6.setTop (mkF m 10 #[.val (.ref a1)] [(.long q), (.long ((Int32.ofNat n).toInt64))])) _
    refine XS.lcmp X6.here hx rfl (hb hby d4_10) rfl ?_
    exact kt
  by_cases hc11 : (Int32.ofNat n).toInt64 = q
  · refine Ends.of (F' := T6.setTop (mkF m 19 #[.val (.ref a1)] [(.int (1 : Int32))])) (fun _ kt => ?_) ?_
    · show Steps p.tables e below (T6.setTop (mkF m 11 #[.val (.ref a1)] [(.int (lcmpW ((Int32.ofNat n).toInt64) q))])) _
      refine XS.ifNo X6.here hx rfl (hb hby d4_11) rfl ((if0 _ _).trans (teq ((lw_eq _ _).mpr hc11)).2) ?_
      show Steps p.tables e below (T6.setTop (mkF m 14 #[.val (.ref a1)] [])) _
      refine XS.iconst X6.here hx rfl (hb hby d4_14) ?_
      show Steps p.tables e below (T6.setTop (mkF m 15 #[.val (.ref a1)] [(.int (1 : Int32))])) _
      refine XS.goto X6.here hx rfl (pc0 := 15) (pc' := 19) rfl (hb hby d4_15) (by decide) (by decide) ?_
      exact kt
    obtain ⟨fs, hr, hrun, hended, hW, hsame⟩ := X6.leave (v := some (.int (1 : Int32))) (fun h => by rw [Bd.returns] at h; cases h)
    exact ⟨_, _, retN X6 hx (t := .boolean) Bd.returns (by simp) (hb hby d4_19) hr, hrun, hended, _, _, rfl, ⟨by rw [if_pos hc11], N0, e6⟩, ⟨_, rfl⟩, hW, hsame.mono (by decide) (by decide)⟩
  · refine Ends.of (F' := T6.setTop (mkF m 19 #[.val (.ref a1)] [(.int (0 : Int32))])) (fun _ kt => ?_) ?_
    · show Steps p.tables e below (T6.setTop (mkF m 11 #[.val (.ref a1)] [(.int (lcmpW ((Int32.ofNat n).toInt64) q))])) _
      refine XS.ifYes X6.here hx rfl (pc0 := 11) (pc' := 18) rfl (hb hby d4_11) rfl ((if0 _ _).trans (feq (mt (lw_eq _ _).mp hc11)).2) (by decide) (by decide) ?_
      show Steps p.tables e below (T6.setTop (mkF m 18 #[.val (.ref a1)] [])) _
      refine XS.iconst X6.here hx rfl (hb hby d4_18) ?_
      exact kt
    obtain ⟨fs, hr, hrun, hended, hW, hsame⟩ := X6.leave (v := some (.int (0 : Int32))) (fun h => by rw [Bd.returns] at h; cases h)
    exact ⟨_, _, retN X6 hx (t := .boolean) Bd.returns (by simp) (hb hby d4_19) hr, hrun, hended, _, _, rfl, ⟨by rw [if_neg hc11], N0, e6⟩, ⟨_, rfl⟩, hW, hsame.mono (by decide) (by decide)⟩
theorem d5_0 : decode prog_51_method_2_code 0 = .ok (.new 8, 3) := by decide +kernel
theorem d5_3 : decode prog_51_method_2_code 3 = .ok (.dup, 1) := by decide +kernel
theorem d5_4 : decode prog_51_method_2_code 4 = .ok (.aload_n 0, 1) := by decide +kernel
theorem d5_5 : decode prog_51_method_2_code 5 = .ok (.aload_n 0, 1) := by decide +kernel
theorem d5_6 : decode prog_51_method_2_code 6 = .ok (.arraylength, 1) := by decide +kernel
theorem d5_7 : decode prog_51_method_2_code 7 = .ok (.i2l, 1) := by decide +kernel
theorem d5_8 : decode prog_51_method_2_code 8 = .ok (.invokespecial 17, 3) := by decide +kernel
theorem d5_11 : decode prog_51_method_2_code 11 = .ok (.areturn, 1) := by decide +kernel
def Q5 (Z : State) (a2 : Addr) (n : Nat) (h0 : Heap) (n0 : Nat) (v : Option Value) (h : Heap) (L : List Loc) : Prop := v = some (.ref h0.size) ∧ Fr n0 L ∧ Keep h0 h [] ∧ Exa Z h h0.size "com/example/tardy_post/tardypost/Message$Body" ∧ Fld Z h h0.size "com/example/tardy_post/tardypost/Message$Body" "bytes" "[B" (.ref a2) ∧ Fld Z h h0.size "com/example/tardy_post/tardypost/Message$Body" "length" "J" (.long (Int32.ofNat n).toInt64)
set_option maxRecDepth 65536 in
set_option maxHeartbeats 40000000 in
theorem rm5 (l : Launch) (Z : State) (a0 : Array Value) (hw : ∀ d ∈ tables_1, d.before a0 Z = true) (ws : List Jvm.Cond) (a2 : Addr) (n : Nat) (h0 : Heap) (n0 : Nat) (Z0 : n0 ≤ h0.size) (B : Byt Z h0 a2 n) :
    MetFree l (⟨"com/example/tardy_post/tardypost/Message$Body", "of", "([B)Lcom/example/tardy_post/tardypost/Message$Body;"⟩ : MethodName) (head1 (Jvm.Cond.code (⟨"com/example/tardy_post/tardypost/Message$Body", "of", "([B)Lcom/example/tardy_post/tardypost/Message$Body;"⟩ : MethodName) prog_51_method_2_code 1 (some (.object "com/example/tardy_post/tardypost/Message$Body")) :: ws) ({ frames := 3, cells := 1, slots := 2, locals := 40 } : Room)) (fun a U => a = #[(.ref a2)] ∧ Z.Warmed39 U.vm ∧ U.heap = h0) (fun _ _ _ _ _ => True) (fun _ U o U' => ∃ v L, o = .returned v ∧ Q5 Z a2 n h0 n0 v U'.heap L ∧ FrameEnd U o U' L ({ frames := 3, cells := 1, slots := 2, locals := 40 } : Room).cells ({ frames := 3, cells := 1, slots := 2, locals := 40 } : Room).slots) := by
  refine MetFree.of_bodySF (plainFor_of_name pn_1) hisR ?_
  intro p e s m args below meth c s₁ Bd hml0 hP hK
  obtain ⟨rfl, hZ, hh⟩ := hP
  have hx := Bd.exec
  have hby := Bd.bytes
  have hml : c.maxLocals = 1 := hml0
  have hown : s.vm.findClass "com/example/tardy_post/tardypost/Message$Body" = some m.cls := findClass_of_methodNamed Bd.named
  have hnm := (name_of_methodNamed Bd.named Bd.method).1
  have X0 : Stand p l e ({ frames := 3, cells := 1, slots := 2, locals := 40 } : Room) s m #[(.ref a2)] below meth c s₁ [] 0 0 := Stand.of_body Bd
  have e0 : s₁.heap = h0 := by rw [← hh, Bd.state]; rfl
  have N0 := Fr.nil n0
  have eF : entryFrame m #[(.ref a2)] 1 = mkF m 0 #[.val (.ref a2)] [] := by first | (simp [entryFrame, mkF, argsToLocals, Value.category]; done) | rfl
  show Ends p e below s ({ frames := 3, cells := 1, slots := 2, locals := 40 } : Room) (Q5 Z a2 n h0 n0) (s₁.setTop (entryFrame m #[(.ref a2)] 1))
  rw [eF]
  obtain ⟨cb, Ab, Sb⟩ := B
  obtain ⟨T7, h7, X7, e7, E7, A7, D7, -, st7⟩ := newO X0 hx hZ hown (hw _ (List.mem_of_getElem? (i := 27) rfl)) (hw _ (List.mem_of_getElem? (i := 2) rfl)) (hw _ (List.mem_of_getElem? (i := 3) rfl)) e0 (g := (mkF m 0 #[.val (.ref a2)] [])) rfl (hb hby d5_0) (by decide) (by decide)
  obtain ⟨b7, g7⟩ : ∃ z, z = h0.size := ⟨_, rfl⟩
  rw [← g7] at A7 D7 st7
  have F_bytes_b7 : Fld Z h7 b7 "com/example/tardy_post/tardypost/Message$Body" "bytes" "[B" .null := D7 (Or.inr (hw _ (List.mem_of_getElem? (i := 16) rfl))) (ty := (.array .byte)) (by decide)
  have F_length_b7 : Fld Z h7 b7 "com/example/tardy_post/tardypost/Message$Body" "length" "J" (.long (0 : Int64)) := D7 (Or.inr (hw _ (List.mem_of_getElem? (i := 18) rfl))) (ty := .long) (by decide)
  refine Ends.of st7 ?_
  have Z1 : n0 ≤ h7.size := Nat.le_trans Z0 E7.1
  have gb : n0 ≤ b7 := Nat.le_trans Z0 (Nat.le_of_eq g7.symm)
  have Ab1 := Ab.ext E7
  refine Ends.of (F' := T7.setTop (mkF m 8 #[.val (.ref a2)] [(.long ((Int32.ofNat n).toInt64)), (.ref a2), (.ref b7), (.ref b7)])) (fun _ kt => ?_) ?_
  · show Steps p.tables e below (T7.setTop (mkF m 3 #[.val (.ref a2)] [(.ref b7)])) _
    refine XS.dup X7.here hx rfl (hb hby d5_3) rfl rfl ?_
    show Steps p.tables e below (T7.setTop (mkF m 4 #[.val (.ref a2)] [(.ref b7), (.ref b7)])) _
    refine XS.aloadN X7.here hx rfl (hb hby d5_4) rfl rfl ?_
    show Steps p.tables e below (T7.setTop (mkF m 5 #[.val (.ref a2)] [(.ref a2), (.ref b7), (.ref b7)])) _
    refine XS.aloadN X7.here hx rfl (hb hby d5_5) rfl rfl ?_
    show Steps p.tables e below (T7.setTop (mkF m 6 #[.val (.ref a2)] [(.ref a2), (.ref a2), (.ref b7), (.ref b7)])) _
    refine X7.arraylength hx (by rw [e7]; exact Ab1.1) (State.isArrayOf_alike hZ.alike Ab1.2.1) (g := (mkF m 6 #[.val (.ref a2)] [(.ref a2), (.ref a2), (.ref b7), (.ref b7)])) rfl rfl (hb hby d5_6) _ ?_
    rw [Sb]
    show Steps p.tables e below (T7.setTop (mkF m 7 #[.val (.ref a2)] [(.int (Int32.ofNat n)), (.ref a2), (.ref b7), (.ref b7)])) _
    refine XS.i2l X7.here hx rfl (hb hby d5_7) rfl ?_
    exact kt
  obtain ⟨_, _, ⟨T8, L8, k8, n8⟩, -, X8, ⟨Lc8, hQ8, l8, y8, z8⟩, st8⟩ := X7.specialBack hx (y := (⟨"com/example/tardy_post/tardypost/Message$Body", "<init>", "([BJ)V"⟩ : MethodName)) rfl hown (mvT hZ (hw _ (List.mem_of_getElem? (i := 28) rfl))) (mvT hZ (hw _ (List.mem_of_getElem? (i := 5) rfl))) (mvT hZ (hw _ (List.mem_of_getElem? (i := 6) rfl))) (by decide) (backOf (W := 1) (rm1 l Z a0 hw [] b7 a2 (Int32.ofNat n).toInt64 h7 n0 Z1 A7 F_bytes_b7 F_length_b7 gb) hZ (hw _ (List.mem_of_getElem? (i := 6) rfl)) (hw _ (List.mem_of_getElem? (i := 3) rfl)) (by decide) (by decide)) (g := (mkF m 8 #[.val (.ref a2)] [(.long ((Int32.ofNat n).toInt64)), (.ref a2), (.ref b7), (.ref b7)])) rfl (by rw [hml]; rfl) (Steps.refl _) (a := b7) (argsL := [(.ref a2), (.long ((Int32.ofNat n).toInt64))]) (rest := [(.ref b7)]) (lenOf pd_0 rfl) rfl (by show 2 * 0 + _ ≤ _; exact Nat.le_of_eq rfl) (hb hby d5_8) (fun _ _ => ⟨rfl, e7, (by decide : 1 + 0 ≤ _), (by decide : 2 + 0 ≤ _)⟩)
  dsimp only [Pt.U, Pt.locs, Pt.cells, Pt.slots] at X8 l8 y8 z8 st8 hQ8
  subst l8 y8 z8
  obtain ⟨rfl, N8q, K8, Ex8, Fb8, Fl8⟩ := hQ8
  have N8 := Fr.app N0 N8q
  refine Ends.st st8 ?_
  have Kk : Keep h0 T8.heap [] := ((Keep.refl h0 []).ext E7).trans K8 (allS (Or.inr (Nat.le_of_eq g7.symm)) all0)
  subst g7
  obtain ⟨fs, hr, hrun, hended, hW, hsame⟩ := X8.leave (v := some (.ref h0.size)) (fun h => by rw [Bd.returns] at h; cases h)
  refine ⟨_, _, ?_, hrun, hended, _, _, rfl, ⟨rfl, N8, Kk, Ex8, Fb8, Fl8⟩, ⟨_, rfl⟩, hW, hsame.mono (by decide) (by decide)⟩
  show Steps p.tables e below (T8.setTop (mkF m 11 #[.val (.ref a2)] [(.ref h0.size)])) _
  jvm_step X8.here [X8.here.top, hx, (hb hby d5_11), X8.method', Bd.returns, Value.isRef, FieldType.isReference]
  first | (intro acts; rw [hr _ acts rfl rfl rfl]) | rw [hr _ _ rfl rfl rfl]
  exact Steps.refl _
theorem d6_0 : decode prog_51_method_3_code 0 = .ok (.new 8, 3) := by decide +kernel
theorem d6_3 : decode prog_51_method_3_code 3 = .ok (.dup, 1) := by decide +kernel
theorem d6_4 : decode prog_51_method_3_code 4 = .ok (.getstatic 20, 3) := by decide +kernel
theorem d6_7 : decode prog_51_method_3_code 7 = .ok (.lload_n 0, 1) := by decide +kernel
theorem d6_8 : decode prog_51_method_3_code 8 = .ok (.lconst 1, 1) := by decide +kernel
theorem d6_9 : decode prog_51_method_3_code 9 = .ok (.ladd, 1) := by decide +kernel
theorem d6_10 : decode prog_51_method_3_code 10 = .ok (.invokespecial 17, 3) := by decide +kernel
theorem d6_13 : decode prog_51_method_3_code 13 = .ok (.areturn, 1) := by decide +kernel
def Q6 (Z : State) (q1 : Int64) (nb : Addr) (h0 : Heap) (n0 : Nat) (v : Option Value) (h : Heap) (L : List Loc) : Prop := v = some (.ref h0.size) ∧ Fr n0 L ∧ Keep h0 h [] ∧ Exa Z h h0.size "com/example/tardy_post/tardypost/Message$Body" ∧ Fld Z h h0.size "com/example/tardy_post/tardypost/Message$Body" "bytes" "[B" (.ref nb) ∧ Fld Z h h0.size "com/example/tardy_post/tardypost/Message$Body" "length" "J" (.long (q1 + (1 : Int64)))
set_option maxRecDepth 65536 in
set_option maxHeartbeats 40000000 in
theorem rm6 (l : Launch) (Z : State) (a0 : Array Value) (hw : ∀ d ∈ tables_1, d.before a0 Z = true) (ws : List Jvm.Cond) (q1 : Int64) (nb : Addr) (h0 : Heap) (n0 : Nat) (Z0 : n0 ≤ h0.size) (S_N : Sta Z h0 "com/example/tardy_post/tardypost/Message$Body" "NO_BYTES" "[B" (.ref nb)) :
    MetFree l (⟨"com/example/tardy_post/tardypost/Message$Body", "notKept", "(J)Lcom/example/tardy_post/tardypost/Message$Body;"⟩ : MethodName) (head1 (Jvm.Cond.code (⟨"com/example/tardy_post/tardypost/Message$Body", "notKept", "(J)Lcom/example/tardy_post/tardypost/Message$Body;"⟩ : MethodName) prog_51_method_3_code 2 (some (.object "com/example/tardy_post/tardypost/Message$Body")) :: ws) ({ frames := 3, cells := 1, slots := 2, locals := 40 } : Room)) (fun a U => a = #[(.long q1)] ∧ Z.Warmed39 U.vm ∧ U.heap = h0) (fun _ _ _ _ _ => True) (fun _ U o U' => ∃ v L, o = .returned v ∧ Q6 Z q1 nb h0 n0 v U'.heap L ∧ FrameEnd U o U' L ({ frames := 3, cells := 1, slots := 2, locals := 40 } : Room).cells ({ frames := 3, cells := 1, slots := 2, locals := 40 } : Room).slots) := by
  refine MetFree.of_bodySF (plainFor_of_name pn_1) hisR ?_
  intro p e s m args below meth c s₁ Bd hml0 hP hK
  obtain ⟨rfl, hZ, hh⟩ := hP
  have hx := Bd.exec
  have hby := Bd.bytes
  have hml : c.maxLocals = 2 := hml0
  have hown : s.vm.findClass "com/example/tardy_post/tardypost/Message$Body" = some m.cls := findClass_of_methodNamed Bd.named
  have hnm := (name_of_methodNamed Bd.named Bd.method).1
  have X0 : Stand p l e ({ frames := 3, cells := 1, slots := 2, locals := 40 } : Room) s m #[(.long q1)] below meth c s₁ [] 0 0 := Stand.of_body Bd
  have e0 : s₁.heap = h0 := by rw [← hh, Bd.state]; rfl
  have N0 := Fr.nil n0
  have eF : entryFrame m #[(.long q1)] 2 = mkF m 0 #[.val (.long q1), .second] [] := by first | (simp [entryFrame, mkF, argsToLocals, Value.category]; done) | rfl
  show Ends p e below s ({ frames := 3, cells := 1, slots := 2, locals := 40 } : Room) (Q6 Z q1 nb h0 n0) (s₁.setTop (entryFrame m #[(.long q1)] 2))
  rw [eF]
  obtain ⟨T9, h9, X9, e9, E9, A9, D9, -, st9⟩ := newO X0 hx hZ hown (hw _ (List.mem_of_getElem? (i := 27) rfl)) (hw _ (List.mem_of_getElem? (i := 2) rfl)) (hw _ (List.mem_of_getElem? (i := 3) rfl)) e0 (g := (mkF m 0 #[.val (.long q1), .second] [])) rfl (hb hby d6_0) (by decide) (by decide)
  obtain ⟨b9, g9⟩ : ∃ z, z = h0.size := ⟨_, rfl⟩
  rw [← g9] at A9 D9 st9
  have F_bytes_b9 : Fld Z h9 b9 "com/example/tardy_post/tardypost/Message$Body" "bytes" "[B" .null := D9 (Or.inr (hw _ (List.mem_of_getElem? (i := 16) rfl))) (ty := (.array .byte)) (by decide)
  have F_length_b9 : Fld Z h9 b9 "com/example/tardy_post/tardypost/Message$Body" "length" "J" (.long (0 : Int64)) := D9 (Or.inr (hw _ (List.mem_of_getElem? (i := 18) rfl))) (ty := .long) (by decide)
  refine Ends.of st9 ?_
  have Z1 : n0 ≤ h9.size := Nat.le_trans Z0 E9.1
  have gb : n0 ≤ b9 := Nat.le_trans Z0 (Nat.le_of_eq g9.symm)
  refine Ends.of (F' := T9.setTop (mkF m 4 #[.val (.long q1), .second] [(.ref b9), (.ref b9)])) (fun _ kt => ?_) ?_
  · show Steps p.tables e below (T9.setTop (mkF m 3 #[.val (.long q1), .second] [(.ref b9)])) _
    refine XS.dup X9.here hx rfl (hb hby d6_3) rfl rfl ?_
    exact kt
  obtain ⟨T10, X10, e10, st10⟩ := getS2 X9 hx hZ hown (host := "") (Or.inl (hw _ (List.mem_of_getElem? (i := 33) rfl))) Via.refl e9 (S_N.ext E9) (g := (mkF m 4 #[.val (.long q1), .second] [(.ref b9), (.ref b9)])) rfl (hb hby d6_4)
  refine Ends.of st10 ?_
  refine Ends.of (F' := T10.setTop (mkF m 10 #[.val (.long q1), .second] [(.long (q1 + (1 : Int64))), (.ref nb), (.ref b9), (.ref b9)])) (fun _ kt => ?_) ?_
  · show Steps p.tables e below (T10.setTop (mkF m 7 #[.val (.long q1), .second] [(.ref nb), (.ref b9), (.ref b9)])) _
    refine XS.lloadN X10.here hx rfl (hb hby d6_7) rfl ?_
    show Steps p.tables e below (T10.setTop (mkF m 8 #[.val (.long q1), .second] [(.long q1), (.ref nb), (.ref b9), (.ref b9)])) _
    refine XS.lconst X10.here hx rfl (hb hby d6_8) ?_
    show Steps p.tables e below (T10.setTop (mkF m 9 #[.val (.long q1), .second] [(.long (1 : Int64)), (.long q1), (.ref nb), (.ref b9), (.ref b9)])) _
    refine XS.ladd X10.here hx rfl (hb hby d6_9) rfl ?_
    exact kt
  obtain ⟨_, _, ⟨T11, L11, k11, n11⟩, -, X11, ⟨Lc11, hQ11, l11, y11, z11⟩, st11⟩ := X10.specialBack hx (y := (⟨"com/example/tardy_post/tardypost/Message$Body", "<init>", "([BJ)V"⟩ : MethodName)) rfl hown (mvT hZ (hw _ (List.mem_of_getElem? (i := 28) rfl))) (mvT hZ (hw _ (List.mem_of_getElem? (i := 5) rfl))) (mvT hZ (hw _ (List.mem_of_getElem? (i := 6) rfl))) (by decide) (backOf (W := 1) (rm1 l Z a0 hw [] b9 nb (q1 + (1 : Int64)) h9 n0 Z1 A9 F_bytes_b9 F_length_b9 gb) hZ (hw _ (List.mem_of_getElem? (i := 6) rfl)) (hw _ (List.mem_of_getElem? (i := 3) rfl)) (by decide) (by decide)) (g := (mkF m 10 #[.val (.long q1), .second] [(.long (q1 + (1 : Int64))), (.ref nb), (.ref b9), (.ref b9)])) rfl (by rw [hml]; rfl) (Steps.refl _) (a := b9) (argsL := [(.ref nb), (.long (q1 + (1 : Int64)))]) (rest := [(.ref b9)]) (lenOf pd_0 rfl) rfl (by show 2 * 0 + _ ≤ _; exact Nat.le_of_eq rfl) (hb hby d6_10) (fun _ _ => ⟨rfl, e10, (by decide : 1 + 0 ≤ _), (by decide : 2 + 0 ≤ _)⟩)
  dsimp only [Pt.U, Pt.locs, Pt.cells, Pt.slots] at X11 l11 y11 z11 st11 hQ11
  subst l11 y11 z11
  obtain ⟨rfl, N11q, K11, Ex11, Fb11, Fl11⟩ := hQ11
  have N11 := Fr.app N0 N11q
  refine Ends.st st11 ?_
  have Kk : Keep h0 T11.heap [] := ((Keep.refl h0 []).ext E9).trans K11 (allS (Or.inr (Nat.le_of_eq g9.symm)) all0)
  subst g9
  obtain ⟨fs, hr, hrun, hended, hW, hsame⟩ := X11.leave (v := some (.ref h0.size)) (fun h => by rw [Bd.returns] at h; cases h)
  refine ⟨_, _, ?_, hrun, hended, _, _, rfl, ⟨rfl, N11, Kk, Ex11, Fb11, Fl11⟩, ⟨_, rfl⟩, hW, hsame.mono (by decide) (by decide)⟩
  show Steps p.tables e below (T11.setTop (mkF m 13 #[.val (.long q1), .second] [(.ref h0.size)])) _
  jvm_step X11.here [X11.here.top, hx, (hb hby d6_13), X11.method', Bd.returns, Value.isRef, FieldType.isReference]
  first | (intro acts; rw [hr _ acts rfl rfl rfl]) | rw [hr _ _ rfl rfl rfl]
  exact Steps.refl _
theorem pn_2 : plainName "com/example/tardy_post/tardypost/BodyIsKeptPinLaw" = true := by first | (simp [plainName, overriddenIn]; done) | decide +kernel
def Q0 (Z : State) (p1 : Int32) (q2 : Int64) (q3 : Int64) (nb : Addr) (h0 : Heap) (n0 : Nat) (v : Option Value) (h : Heap) (L : List Loc) : Prop := v = some (.int (1 : Int32)) ∧ Fr n0 L
set_option maxRecDepth 65536 in
set_option maxHeartbeats 40000000 in
theorem rm0 (l : Launch) (Z : State) (a0 : Array Value) (hw : ∀ d ∈ tables_1, d.before a0 Z = true) (ws : List Jvm.Cond) (p1 : Int32) (q2 : Int64) (q3 : Int64) (nb : Addr) (h0 : Heap) (n0 : Nat) (Z0 : n0 ≤ h0.size) (S_N : Sta Z h0 "com/example/tardy_post/tardypost/Message$Body" "NO_BYTES" "[B" (.ref nb)) (B_N : Byt Z h0 nb 0) :
    MetFree l x (head1 (Jvm.Cond.code x code maxLocals ret :: ws) room_1) (fun a U => a = #[(.int p1), (.long q2), (.long q3)] ∧ Z.Warmed39 U.vm ∧ U.heap = h0) (fun _ _ _ _ _ => True) (fun _ U o U' => ∃ v L, o = .returned v ∧ Q0 Z p1 q2 q3 nb h0 n0 v U'.heap L ∧ FrameEnd U o U' L room_1.cells room_1.slots) := by
  refine MetFree.of_bodySF (plainFor_of_name pn_2) hisR ?_
  intro p e s m args below meth c s₁ Bd hml0 hP hK
  obtain ⟨rfl, hZ, hh⟩ := hP
  have hx := Bd.exec
  have hby := Bd.bytes
  have hml : c.maxLocals = 13 := hml0
  have hown : s.vm.findClass "com/example/tardy_post/tardypost/BodyIsKeptPinLaw" = some m.cls := findClass_of_methodNamed Bd.named
  have hnm := (name_of_methodNamed Bd.named Bd.method).1
  have X0 : Stand p l e room_1 s m #[(.int p1), (.long q2), (.long q3)] below meth c s₁ [] 0 0 := Stand.of_body Bd
  have e0 : s₁.heap = h0 := by rw [← hh, Bd.state]; rfl
  have N0 := Fr.nil n0
  have eF : entryFrame m #[(.int p1), (.long q2), (.long q3)] maxLocals = mkF m 0 #[.val (.int p1), .val (.long q2), .second, .val (.long q3), .second, .unset, .unset, .unset, .unset, .unset, .unset, .unset, .unset] [] := by first | (simp [entryFrame, mkF, argsToLocals, Value.category, maxLocals]; done) | rfl
  show Ends p e below s room_1 (Q0 Z p1 q2 q3 nb h0 n0) (s₁.setTop (entryFrame m #[(.int p1), (.long q2), (.long q3)] maxLocals))
  rw [eF]
  refine Ends.of (F' := s₁.setTop (mkF m 4 #[.val (.int p1), .val (.long q2), .second, .val (.long q3), .second, .unset, .unset, .unset, .unset, .unset, .unset, .unset, .unset] [(.int (p1 &&& (7 : Int32)))])) (fun _ kt => ?_) ?_
  · show Steps p.tables e below (s₁.setTop (mkF m 0 #[.val (.int p1), .val (.long q2), .second, .val (.long q3), .second, .unset, .unset, .unset, .unset, .unset, .unset, .unset, .unset] [])) _
    refine XS.iloadN X0.here hx rfl (hb hby at_0) rfl ?_
    show Steps p.tables e below (s₁.setTop (mkF m 1 #[.val (.int p1), .val (.long q2), .second, .val (.long q3), .second, .unset, .unset, .unset, .unset, .unset, .unset, .unset, .unset] [(.int p1)])) _
    refine XS.bipush X0.here hx rfl (hb hby at_1) ?_
    show Steps p.tables e below (s₁.setTop (mkF m 3 #[.val (.int p1), .val (.long q2), .second, .val (.long q3), .second, .unset, .unset, .unset, .unset, .unset, .unset, .unset, .unset] [(.int (7 : Int32)), (.int p1)])) _
    refine XS.iand X0.here hx rfl (hb hby at_3) rfl ?_
    exact kt
  obtain ⟨nn, hnn, enn⟩ := own_n p1
  rw [enn]
  refine Ends.of (F' := s₁.setTop (mkF m 8 #[.val (.int p1), .val (.long q2), .second, .val (.long q3), .second, .val (.int (Int32.ofNat nn)), .unset, .unset, .unset, .unset, .unset, .unset, .unset] [(.int (Int32.ofNat nn))])) (fun _ kt => ?_) ?_
  · show Steps p.tables e below (s₁.setTop (mkF m 4 #[.val (.int p1), .val (.long q2), .second, .val (.long q3), .second, .unset, .unset, .unset, .unset, .unset, .unset, .unset, .unset] [(.int (Int32.ofNat nn))])) _
    refine XS.istore X0.here hx rfl (hb hby at_4) rfl (l' := #[.val (.int p1), .val (.long q2), .second, .val (.long q3), .second, .val (.int (Int32.ofNat nn)), .unset, .unset, .unset, .unset, .unset, .unset, .unset]) rfl ?_
    show Steps p.tables e below (s₁.setTop (mkF m 6 #[.val (.int p1), .val (.long q2), .second, .val (.long q3), .second, .val (.int (Int32.ofNat nn)), .unset, .unset, .unset, .unset, .unset, .unset, .unset] [])) _
    refine XS.iload X0.here hx rfl (hb hby at_6) rfl ?_
    exact kt
  obtain ⟨T12, h12, k12, X12, e12, E12, A12, st12⟩ := newP X0 hx hZ (hw _ (List.mem_of_getElem? (i := 0) rfl)) e0 (g := (mkF m 8 #[.val (.int p1), .val (.long q2), .second, .val (.long q3), .second, .val (.int (Int32.ofNat nn)), .unset, .unset, .unset, .unset, .unset, .unset, .unset] [(.int (Int32.ofNat nn))])) rfl (hb hby at_8) rfl (own_nn (by omega)) (cap := 7) (by rw [own_clamp (by omega)]; omega) (by decide) (by decide) (by decide)
  obtain ⟨b12, g12⟩ : ∃ z, z = h0.size := ⟨_, rfl⟩
  rw [← g12] at A12 st12
  refine Ends.of st12 ?_
  have B1 : Byt Z h12 b12 nn := Byt.new A12 (own_clamp (by omega))
  have Z1 : n0 ≤ h12.size := Nat.le_trans Z0 E12.1
  have S1 := S_N.ext E12
  have BN1 := B_N.ext E12
  refine Ends.of (F' := T12.setTop (mkF m 12 #[.val (.int p1), .val (.long q2), .second, .val (.long q3), .second, .val (.int (Int32.ofNat nn)), .val (.ref b12), .unset, .unset, .unset, .unset, .unset, .unset] [])) (fun _ kt => ?_) ?_
  · show Steps p.tables e below (T12.setTop (mkF m 10 #[.val (.int p1), .val (.long q2), .second, .val (.long q3), .second, .val (.int (Int32.ofNat nn)), .unset, .unset, .unset, .unset, .unset, .unset, .unset] [(.ref b12)])) _
    refine XS.astore X12.here hx rfl (hb hby at_10) rfl rfl (l' := #[.val (.int p1), .val (.long q2), .second, .val (.long q3), .second, .val (.int (Int32.ofNat nn)), .val (.ref b12), .unset, .unset, .unset, .unset, .unset, .unset]) rfl ?_
    exact kt
  have blk : ∀ ln : Int64, Ends p e below s room_1 (Q0 Z p1 q2 q3 nb h0 n0) (T12.setTop (mkF m 28 #[.val (.int p1), .val (.long q2), .second, .val (.long q3), .second, .val (.int (Int32.ofNat nn)), .val (.ref b12), .val (.long ln), .second, .unset, .unset, .unset, .unset] [])) := by
    intro ln
    obtain ⟨T13, h13, X13, e13, E13, A13, D13, -, st13⟩ := newO X12 hx hZ hown (hw _ (List.mem_of_getElem? (i := 1) rfl)) (hw _ (List.mem_of_getElem? (i := 2) rfl)) (hw _ (List.mem_of_getElem? (i := 3) rfl)) e12 (g := (mkF m 28 #[.val (.int p1), .val (.long q2), .second, .val (.long q3), .second, .val (.int (Int32.ofNat nn)), .val (.ref b12), .val (.long ln), .second, .unset, .unset, .unset, .unset] [])) rfl (hb hby at_28) (by decide) (by decide)
    obtain ⟨b13, g13⟩ : ∃ z, z = h12.size := ⟨_, rfl⟩
    rw [← g13] at A13 D13 st13
    have F_bytes_b13 : Fld Z h13 b13 "com/example/tardy_post/tardypost/Message$Body" "bytes" "[B" .null := D13 (Or.inr (hw _ (List.mem_of_getElem? (i := 16) rfl))) (ty := (.array .byte)) (by decide)
    have F_length_b13 : Fld Z h13 b13 "com/example/tardy_post/tardypost/Message$Body" "length" "J" (.long (0 : Int64)) := D13 (Or.inr (hw _ (List.mem_of_getElem? (i := 18) rfl))) (ty := .long) (by decide)
    refine Ends.of st13 ?_
    have Z2 : n0 ≤ h13.size := Nat.le_trans Z1 E13.1
    have gb2 : n0 ≤ b13 := Nat.le_trans Z1 (Nat.le_of_eq g13.symm)
    refine Ends.of (F' := T13.setTop (mkF m 36 #[.val (.int p1), .val (.long q2), .second, .val (.long q3), .second, .val (.int (Int32.ofNat nn)), .val (.ref b12), .val (.long ln), .second, .unset, .unset, .unset, .unset] [(.long ln), (.ref b12), (.ref b13), (.ref b13)])) (fun _ kt => ?_) ?_
    · show Steps p.tables e below (T13.setTop (mkF m 31 #[.val (.int p1), .val (.long q2), .second, .val (.long q3), .second, .val (.int (Int32.ofNat nn)), .val (.ref b12), .val (.long ln), .second, .unset, .unset, .unset, .unset] [(.ref b13)])) _
      refine XS.dup X13.here hx rfl (hb hby at_31) rfl rfl ?_
      show Steps p.tables e below (T13.setTop (mkF m 32 #[.val (.int p1), .val (.long q2), .second, .val (.long q3), .second, .val (.int (Int32.ofNat nn)), .val (.ref b12), .val (.long ln), .second, .unset, .unset, .unset, .unset] [(.ref b13), (.ref b13)])) _
      refine XS.aload X13.here hx rfl (hb hby at_32) rfl rfl ?_
      show Steps p.tables e below (T13.setTop (mkF m 34 #[.val (.int p1), .val (.long q2), .second, .val (.long q3), .second, .val (.int (Int32.ofNat nn)), .val (.ref b12), .val (.long ln), .second, .unset, .unset, .unset, .unset] [(.ref b12), (.ref b13), (.ref b13)])) _
      refine XS.lload X13.here hx rfl (hb hby at_34) rfl ?_
      exact kt
    obtain ⟨_, _, ⟨T14, L14, k14, n14⟩, -, X14, ⟨Lc14, hQ14, l14, y14, z14⟩, st14⟩ := X13.specialBack hx (y := (⟨"com/example/tardy_post/tardypost/Message$Body", "<init>", "([BJ)V"⟩ : MethodName)) rfl hown (mvT hZ (hw _ (List.mem_of_getElem? (i := 4) rfl))) (mvT hZ (hw _ (List.mem_of_getElem? (i := 5) rfl))) (mvT hZ (hw _ (List.mem_of_getElem? (i := 6) rfl))) (by decide) (backOf (W := 1) (rm1 l Z a0 hw [] b13 b12 ln h13 n0 Z2 A13 F_bytes_b13 F_length_b13 gb2) hZ (hw _ (List.mem_of_getElem? (i := 6) rfl)) (hw _ (List.mem_of_getElem? (i := 3) rfl)) (by decide) (by decide)) (g := (mkF m 36 #[.val (.int p1), .val (.long q2), .second, .val (.long q3), .second, .val (.int (Int32.ofNat nn)), .val (.ref b12), .val (.long ln), .second, .unset, .unset, .unset, .unset] [(.long ln), (.ref b12), (.ref b13), (.ref b13)])) rfl (by rw [hml]; rfl) (Steps.refl _) (a := b13) (argsL := [(.ref b12), (.long ln)]) (rest := [(.ref b13)]) (lenOf pd_0 rfl) rfl (by show 2 * 0 + _ ≤ _; exact Nat.le_of_eq rfl) (hb hby at_36) (fun _ _ => ⟨rfl, e13, (by decide : 2 + 0 ≤ _), (by decide : 9 + 0 ≤ _)⟩)
    dsimp only [Pt.U, Pt.locs, Pt.cells, Pt.slots] at X14 l14 y14 z14 st14 hQ14
    subst l14 y14 z14
    obtain ⟨rfl, N14q, K14, Ex14, Fb14, Fl14⟩ := hQ14
    have N14 := Fr.app N0 N14q
    refine Ends.st st14 ?_
    have Z3 : n0 ≤ T14.heap.size := Nat.le_trans Z2 K14.1
    have nB : b12 ∉ [b13] := ninS (Nat.ne_of_lt (Nat.lt_of_lt_of_le B1.lt (Nat.le_of_eq g13.symm))) nin0
    have nN : nb ∉ [b13] := ninS (Nat.ne_of_lt (Nat.lt_of_lt_of_le BN1.lt (Nat.le_of_eq g13.symm))) nin0
    have B3 := (B1.ext E13).keep K14 nB
    have BN3 := (BN1.ext E13).keep K14 nN
    have S3 := Sta.keep (S1.ext E13) K14 (allS (fun cell hc => by obtain ⟨cl, kk, h1, h2, h3, h4, h5⟩ := A13; cases h1.symm.trans hc; exact h4) all0)
    refine Ends.of (F' := T14.setTop (mkF m 43 #[.val (.int p1), .val (.long q2), .second, .val (.long q3), .second, .val (.int (Int32.ofNat nn)), .val (.ref b12), .val (.long ln), .second, .val (.ref b13), .unset, .unset, .unset] [(.ref b13)])) (fun _ kt => ?_) ?_
    · show Steps p.tables e below (T14.setTop (mkF m 39 #[.val (.int p1), .val (.long q2), .second, .val (.long q3), .second, .val (.int (Int32.ofNat nn)), .val (.ref b12), .val (.long ln), .second, .unset, .unset, .unset, .unset] [(.ref b13)])) _
      refine XS.astore X14.here hx rfl (hb hby at_39) rfl rfl (l' := #[.val (.int p1), .val (.long q2), .second, .val (.long q3), .second, .val (.int (Int32.ofNat nn)), .val (.ref b12), .val (.long ln), .second, .val (.ref b13), .unset, .unset, .unset]) rfl ?_
      show Steps p.tables e below (T14.setTop (mkF m 41 #[.val (.int p1), .val (.long q2), .second, .val (.long q3), .second, .val (.int (Int32.ofNat nn)), .val (.ref b12), .val (.long ln), .second, .val (.ref b13), .unset, .unset, .unset] [])) _
      refine XS.aload X14.here hx rfl (hb hby at_41) rfl rfl ?_
      exact kt
    obtain ⟨cq15, kq15, q15a, q15b, q15c⟩ := isOf hZ rfl Ex14
    obtain ⟨_, _, ⟨T15, L15, k15, n15⟩, -, X15, ⟨Lc15, hQ15, l15, y15, z15⟩, st15⟩ := X14.virtualBack hx (y := (⟨"com/example/tardy_post/tardypost/Message$Body", "isKept", "()Z"⟩ : MethodName)) (z := (⟨"com/example/tardy_post/tardypost/Message$Body", "isKept", "()Z"⟩ : MethodName)) hown (mvT hZ (hw _ (List.mem_of_getElem? (i := 19) rfl))) (mvT hZ (hw _ (List.mem_of_getElem? (i := 20) rfl))) (notFace_of_selects (args := #[]) (mvT hZ (hw _ (List.mem_of_getElem? (i := 22) rfl)))) (mvT hZ (hw _ (List.mem_of_getElem? (i := 22) rfl))) (mvT hZ (hw _ (List.mem_of_getElem? (i := 21) rfl))) (by decide) (backOf (W := 0) (rm4 l Z a0 hw [] b13 b12 nn ln T14.heap n0 Z3 Fb14 Fl14 B3) hZ (hw _ (List.mem_of_getElem? (i := 23) rfl)) (hw _ (List.mem_of_getElem? (i := 3) rfl)) (by decide) (by decide)) q15a q15c (g := (mkF m 43 #[.val (.int p1), .val (.long q2), .second, .val (.long q3), .second, .val (.int (Int32.ofNat nn)), .val (.ref b12), .val (.long ln), .second, .val (.ref b13), .unset, .unset, .unset] [(.ref b13)])) rfl (by rw [hml]; rfl) (Steps.refl _) (argsL := []) (rest := []) (lenOf pd_2 rfl) rfl (by show 2 * 0 + _ ≤ _; exact Nat.le_of_eq rfl) (hb hby at_43) (fun _ _ => ⟨rfl, rfl, (by decide : 2 + 0 ≤ _), (by decide : 9 + 0 ≤ _)⟩)
    dsimp only [Pt.U, Pt.locs, Pt.cells, Pt.slots] at X15 l15 y15 z15 st15 hQ15
    subst l15 y15 z15
    obtain ⟨rfl, N15q, e15⟩ := hQ15
    have N15 := Fr.app N14 N15q
    refine Ends.st st15 ?_
    refine Ends.of (F' := T15.setTop (mkF m 52 #[.val (.int p1), .val (.long q2), .second, .val (.long q3), .second, .val (.int (Int32.ofNat nn)), .val (.ref b12), .val (.long ln), .second, .val (.ref b13), .unset, .unset, .unset] [(.int (lcmpW ln ((Int32.ofNat nn).toInt64))), (.int (if (Int32.ofNat nn).toInt64 = ln then (1 : Int32) else (0 : Int32)))])) (fun _ kt => ?_) ?_
    · show Steps p.tables e below (T15.setTop (mkF m 46 #[.val (.int p1), .val (.long q2), .second, .val (.long q3), .second, .val (.int (Int32.ofNat nn)), .val (.ref b12), .val (.long ln), .second, .val (.ref b13), .unset, .unset, .unset] [(.int (if (Int32.ofNat nn).toInt64 = ln then (1 : Int32) else (0 : Int32)))])) _
      refine XS.lload X15.here hx rfl (hb hby at_46) rfl ?_
      show Steps p.tables e below (T15.setTop (mkF m 48 #[.val (.int p1), .val (.long q2), .second, .val (.long q3), .second, .val (.int (Int32.ofNat nn)), .val (.ref b12), .val (.long ln), .second, .val (.ref b13), .unset, .unset, .unset] [(.long ln), (.int (if (Int32.ofNat nn).toInt64 = ln then (1 : Int32) else (0 : Int32)))])) _
      refine XS.iload X15.here hx rfl (hb hby at_48) rfl ?_
      show Steps p.tables e below (T15.setTop (mkF m 50 #[.val (.int p1), .val (.long q2), .second, .val (.long q3), .second, .val (.int (Int32.ofNat nn)), .val (.ref b12), .val (.long ln), .second, .val (.ref b13), .unset, .unset, .unset] [(.int (Int32.ofNat nn)), (.long ln), (.int (if (Int32.ofNat nn).toInt64 = ln then (1 : Int32) else (0 : Int32)))])) _
      refine XS.i2l X15.here hx rfl (hb hby at_50) rfl ?_
      show Steps p.tables e below (T15.setTop (mkF m 51 #[.val (.int p1), .val (.long q2), .second, .val (.long q3), .second, .val (.int (Int32.ofNat nn)), .val (.ref b12), .val (.long ln), .second, .val (.ref b13), .unset, .unset, .unset] [(.long ((Int32.ofNat nn).toInt64)), (.long ln), (.int (if (Int32.ofNat nn).toInt64 = ln then (1 : Int32) else (0 : Int32)))])) _
      refine XS.lcmp X15.here hx rfl (hb hby at_51) rfl ?_
      exact kt
    by_cases hq : (Int32.ofNat nn).toInt64 = ln
    · refine Ends.of (F' := T15.setTop (mkF m 72 #[.val (.int p1), .val (.long q2), .second, .val (.long q3), .second, .val (.int (Int32.ofNat nn)), .val (.ref b12), .val (.long ln), .second, .val (.ref b13), .val (.int (1 : Int32)), .unset, .unset] [(.ref b12)])) (fun _ kt => ?_) ?_
      · show Steps p.tables e below (T15.setTop (mkF m 52 #[.val (.int p1), .val (.long q2), .second, .val (.long q3), .second, .val (.int (Int32.ofNat nn)), .val (.ref b12), .val (.long ln), .second, .val (.ref b13), .unset, .unset, .unset] [(.int (lcmpW ln ((Int32.ofNat nn).toInt64))), (.int (if (Int32.ofNat nn).toInt64 = ln then (1 : Int32) else (0 : Int32)))])) _
        refine XS.ifNo X15.here hx rfl (hb hby at_52) rfl ((if0 _ _).trans (teq ((lw_eq _ _).mpr hq.symm)).2) ?_
        show Steps p.tables e below (T15.setTop (mkF m 55 #[.val (.int p1), .val (.long q2), .second, .val (.long q3), .second, .val (.int (Int32.ofNat nn)), .val (.ref b12), .val (.long ln), .second, .val (.ref b13), .unset, .unset, .unset] [(.int (if (Int32.ofNat nn).toInt64 = ln then (1 : Int32) else (0 : Int32)))])) _
        refine XS.iconst X15.here hx rfl (hb hby at_55) ?_
        show Steps p.tables e below (T15.setTop (mkF m 56 #[.val (.int p1), .val (.long q2), .second, .val (.long q3), .second, .val (.int (Int32.ofNat nn)), .val (.ref b12), .val (.long ln), .second, .val (.ref b13), .unset, .unset, .unset] [(.int (1 : Int32)), (.int (if (Int32.ofNat nn).toInt64 = ln then (1 : Int32) else (0 : Int32)))])) _
        refine XS.goto X15.here hx rfl (pc0 := 56) (pc' := 60) rfl (hb hby at_56) (by decide) (by decide) ?_
        show Steps p.tables e below (T15.setTop (mkF m 60 #[.val (.int p1), .val (.long q2), .second, .val (.long q3), .second, .val (.int (Int32.ofNat nn)), .val (.ref b12), .val (.long ln), .second, .val (.ref b13), .unset, .unset, .unset] [(.int (1 : Int32)), (.int (if (Int32.ofNat nn).toInt64 = ln then (1 : Int32) else (0 : Int32)))])) _
        refine XS.icmpNo X15.here hx rfl (hb hby at_60) rfl (teq (if_pos hq)).2 ?_
        show Steps p.tables e below (T15.setTop (mkF m 63 #[.val (.int p1), .val (.long q2), .second, .val (.long q3), .second, .val (.int (Int32.ofNat nn)), .val (.ref b12), .val (.long ln), .second, .val (.ref b13), .unset, .unset, .unset] [])) _
        refine XS.iconst X15.here hx rfl (hb hby at_63) ?_
        show Steps p.tables e below (T15.setTop (mkF m 64 #[.val (.int p1), .val (.long q2), .second, .val (.long q3), .second, .val (.int (Int32.ofNat nn)), .val (.ref b12), .val (.long ln), .second, .val (.ref b13), .unset, .unset, .unset] [(.int (1 : Int32))])) _
        refine XS.goto X15.here hx rfl (pc0 := 64) (pc' := 68) rfl (hb hby at_64) (by decide) (by decide) ?_
        show Steps p.tables e below (T15.setTop (mkF m 68 #[.val (.int p1), .val (.long q2), .second, .val (.long q3), .second, .val (.int (Int32.ofNat nn)), .val (.ref b12), .val (.long ln), .second, .val (.ref b13), .unset, .unset, .unset] [(.int (1 : Int32))])) _
        refine XS.istore X15.here hx rfl (hb hby at_68) rfl (l' := #[.val (.int p1), .val (.long q2), .second, .val (.long q3), .second, .val (.int (Int32.ofNat nn)), .val (.ref b12), .val (.long ln), .second, .val (.ref b13), .val (.int (1 : Int32)), .unset, .unset]) rfl ?_
        show Steps p.tables e below (T15.setTop (mkF m 70 #[.val (.int p1), .val (.long q2), .second, .val (.long q3), .second, .val (.int (Int32.ofNat nn)), .val (.ref b12), .val (.long ln), .second, .val (.ref b13), .val (.int (1 : Int32)), .unset, .unset] [])) _
        refine XS.aload X15.here hx rfl (hb hby at_70) rfl rfl ?_
        exact kt
      obtain ⟨_, _, ⟨T16, L16, k16, n16⟩, -, X16, ⟨Lc16, hQ16, l16, y16, z16⟩, st16⟩ := Jvm.LawKit.callS X15 hx (y := (⟨"com/example/tardy_post/tardypost/Message$Body", "of", "([B)Lcom/example/tardy_post/tardypost/Message$Body;"⟩ : MethodName)) hown (mvT hZ (hw _ (List.mem_of_getElem? (i := 24) rfl))) (mvT hZ (hw _ (List.mem_of_getElem? (i := 25) rfl))) (mvT hZ (hw _ (List.mem_of_getElem? (i := 3) rfl))) (mvT hZ (hw _ (List.mem_of_getElem? (i := 26) rfl))) (by decide) (backOf (W := 0) (rm5 l Z a0 hw [] b12 nn T14.heap n0 Z3 B3) hZ (hw _ (List.mem_of_getElem? (i := 26) rfl)) (hw _ (List.mem_of_getElem? (i := 3) rfl)) (by decide) (by decide)) (g := (mkF m 72 #[.val (.int p1), .val (.long q2), .second, .val (.long q3), .second, .val (.int (Int32.ofNat nn)), .val (.ref b12), .val (.long ln), .second, .val (.ref b13), .val (.int (1 : Int32)), .unset, .unset] [(.ref b12)])) rfl (by rw [hml]; rfl) (argsL := [(.ref b12)]) (rest := []) (lenOf pd_3 rfl) rfl (by show 2 * 0 + _ ≤ _; exact Nat.le_of_eq rfl) (hb hby at_72) (fun _ _ => ⟨rfl, e15, (by decide : 2 + 1 ≤ _), (by decide : 9 + 2 ≤ _)⟩)
      dsimp only [Pt.U, Pt.locs, Pt.cells, Pt.slots] at X16 l16 y16 z16 st16 hQ16
      subst l16 y16 z16
      obtain ⟨rfl, N16q, K16, Ex16, Fb16, Fl16⟩ := hQ16
      have N16 := Fr.app N15 N16q
      refine Ends.of st16 ?_
      have Z4 : n0 ≤ T16.heap.size := Nat.le_trans Z3 K16.1
      have B4 := B3.keep K16 nin0
      have BN4 := BN3.keep K16 nin0
      have S4 := Sta.keep S3 K16 all0
      obtain ⟨cq17, kq17, q17a, q17b, q17c⟩ := isOf hZ rfl Ex16
      obtain ⟨_, _, ⟨T17, L17, k17, n17⟩, -, X17, ⟨Lc17, hQ17, l17, y17, z17⟩, st17⟩ := X16.virtualBack hx (y := (⟨"com/example/tardy_post/tardypost/Message$Body", "isKept", "()Z"⟩ : MethodName)) (z := (⟨"com/example/tardy_post/tardypost/Message$Body", "isKept", "()Z"⟩ : MethodName)) hown (mvT hZ (hw _ (List.mem_of_getElem? (i := 19) rfl))) (mvT hZ (hw _ (List.mem_of_getElem? (i := 20) rfl))) (notFace_of_selects (args := #[]) (mvT hZ (hw _ (List.mem_of_getElem? (i := 22) rfl)))) (mvT hZ (hw _ (List.mem_of_getElem? (i := 22) rfl))) (mvT hZ (hw _ (List.mem_of_getElem? (i := 21) rfl))) (by decide) (backOf (W := 0) (rm4 l Z a0 hw [] T14.heap.size b12 nn (Int32.ofNat nn).toInt64 T16.heap n0 Z4 Fb16 Fl16 B4) hZ (hw _ (List.mem_of_getElem? (i := 23) rfl)) (hw _ (List.mem_of_getElem? (i := 3) rfl)) (by decide) (by decide)) q17a q17c (g := (mkF m 75 #[.val (.int p1), .val (.long q2), .second, .val (.long q3), .second, .val (.int (Int32.ofNat nn)), .val (.ref b12), .val (.long ln), .second, .val (.ref b13), .val (.int (1 : Int32)), .unset, .unset] [(.ref T14.heap.size)])) rfl (by rw [hml]; rfl) (Steps.refl _) (argsL := []) (rest := []) (lenOf pd_2 rfl) rfl (by show 2 * 0 + _ ≤ _; exact Nat.le_of_eq rfl) (hb hby at_75) (fun _ _ => ⟨rfl, rfl, (by decide : 3 + 0 ≤ _), (by decide : 11 + 0 ≤ _)⟩)
      dsimp only [Pt.U, Pt.locs, Pt.cells, Pt.slots] at X17 l17 y17 z17 st17 hQ17
      subst l17 y17 z17
      obtain ⟨rfl, N17q, e17⟩ := hQ17
      have N17 := Fr.app N16 N17q
      refine Ends.st st17 ?_
      refine Ends.of (F' := T17.setTop (mkF m 85 #[.val (.int p1), .val (.long q2), .second, .val (.long q3), .second, .val (.int (Int32.ofNat nn)), .val (.ref b12), .val (.long ln), .second, .val (.ref b13), .val (.int (1 : Int32)), .val (.int (if (Int32.ofNat nn).toInt64 = (Int32.ofNat nn).toInt64 then (1 : Int32) else (0 : Int32))), .unset] [(.long (q3 &&& (9223372036854775807 : Int64)))])) (fun _ kt => ?_) ?_
      · show Steps p.tables e below (T17.setTop (mkF m 78 #[.val (.int p1), .val (.long q2), .second, .val (.long q3), .second, .val (.int (Int32.ofNat nn)), .val (.ref b12), .val (.long ln), .second, .val (.ref b13), .val (.int (1 : Int32)), .unset, .unset] [(.int (if (Int32.ofNat nn).toInt64 = (Int32.ofNat nn).toInt64 then (1 : Int32) else (0 : Int32)))])) _
        refine XS.istore X17.here hx rfl (hb hby at_78) rfl (l' := #[.val (.int p1), .val (.long q2), .second, .val (.long q3), .second, .val (.int (Int32.ofNat nn)), .val (.ref b12), .val (.long ln), .second, .val (.ref b13), .val (.int (1 : Int32)), .val (.int (if (Int32.ofNat nn).toInt64 = (Int32.ofNat nn).toInt64 then (1 : Int32) else (0 : Int32))), .unset]) rfl ?_
        show Steps p.tables e below (T17.setTop (mkF m 80 #[.val (.int p1), .val (.long q2), .second, .val (.long q3), .second, .val (.int (Int32.ofNat nn)), .val (.ref b12), .val (.long ln), .second, .val (.ref b13), .val (.int (1 : Int32)), .val (.int (if (Int32.ofNat nn).toInt64 = (Int32.ofNat nn).toInt64 then (1 : Int32) else (0 : Int32))), .unset] [])) _
        refine XS.lloadN X17.here hx rfl (hb hby at_80) rfl ?_
        show Steps p.tables e below (T17.setTop (mkF m 81 #[.val (.int p1), .val (.long q2), .second, .val (.long q3), .second, .val (.int (Int32.ofNat nn)), .val (.ref b12), .val (.long ln), .second, .val (.ref b13), .val (.int (1 : Int32)), .val (.int (if (Int32.ofNat nn).toInt64 = (Int32.ofNat nn).toInt64 then (1 : Int32) else (0 : Int32))), .unset] [(.long q3)])) _
        refine X17.ldc2Long hx hown (mvT hZ (hw _ (List.mem_of_getElem? (i := 29) rfl))) (g := (mkF m 81 #[.val (.int p1), .val (.long q2), .second, .val (.long q3), .second, .val (.int (Int32.ofNat nn)), .val (.ref b12), .val (.long ln), .second, .val (.ref b13), .val (.int (1 : Int32)), .val (.int (if (Int32.ofNat nn).toInt64 = (Int32.ofNat nn).toInt64 then (1 : Int32) else (0 : Int32))), .unset] [(.long q3)])) rfl (hb hby at_81) _ ?_
        show Steps p.tables e below (T17.setTop (mkF m 84 #[.val (.int p1), .val (.long q2), .second, .val (.long q3), .second, .val (.int (Int32.ofNat nn)), .val (.ref b12), .val (.long ln), .second, .val (.ref b13), .val (.int (1 : Int32)), .val (.int (if (Int32.ofNat nn).toInt64 = (Int32.ofNat nn).toInt64 then (1 : Int32) else (0 : Int32))), .unset] [(.long (9223372036854775807 : Int64)), (.long q3)])) _
        refine XS.land X17.here hx rfl (hb hby at_84) rfl ?_
        exact kt
      obtain ⟨_, _, ⟨T18, L18, k18, n18⟩, -, X18, ⟨Lc18, hQ18, l18, y18, z18⟩, st18⟩ := Jvm.LawKit.callS X17 hx (y := (⟨"com/example/tardy_post/tardypost/Message$Body", "notKept", "(J)Lcom/example/tardy_post/tardypost/Message$Body;"⟩ : MethodName)) hown (mvT hZ (hw _ (List.mem_of_getElem? (i := 30) rfl))) (mvT hZ (hw _ (List.mem_of_getElem? (i := 31) rfl))) (mvT hZ (hw _ (List.mem_of_getElem? (i := 3) rfl))) (mvT hZ (hw _ (List.mem_of_getElem? (i := 32) rfl))) (by decide) (backOf (W := 0) (rm6 l Z a0 hw [] (q3 &&& (9223372036854775807 : Int64)) nb T16.heap n0 Z4 S4) hZ (hw _ (List.mem_of_getElem? (i := 32) rfl)) (hw _ (List.mem_of_getElem? (i := 3) rfl)) (by decide) (by decide)) (g := (mkF m 85 #[.val (.int p1), .val (.long q2), .second, .val (.long q3), .second, .val (.int (Int32.ofNat nn)), .val (.ref b12), .val (.long ln), .second, .val (.ref b13), .val (.int (1 : Int32)), .val (.int (if (Int32.ofNat nn).toInt64 = (Int32.ofNat nn).toInt64 then (1 : Int32) else (0 : Int32))), .unset] [(.long (q3 &&& (9223372036854775807 : Int64)))])) rfl (by rw [hml]; rfl) (argsL := [(.long (q3 &&& (9223372036854775807 : Int64)))]) (rest := []) (lenOf pd_4 rfl) rfl (by show 2 * 0 + _ ≤ _; exact Nat.le_of_eq rfl) (hb hby at_85) (fun _ _ => ⟨rfl, e17, (by decide : 3 + 1 ≤ _), (by decide : 11 + 2 ≤ _)⟩)
      dsimp only [Pt.U, Pt.locs, Pt.cells, Pt.slots] at X18 l18 y18 z18 st18 hQ18
      subst l18 y18 z18
      obtain ⟨rfl, N18q, K18, Ex18, Fb18, Fl18⟩ := hQ18
      have N18 := Fr.app N17 N18q
      refine Ends.of st18 ?_
      have Z5 : n0 ≤ T18.heap.size := Nat.le_trans Z4 K18.1
      have BN5 := BN4.keep K18 nin0
      obtain ⟨cq19, kq19, q19a, q19b, q19c⟩ := isOf hZ rfl Ex18
      obtain ⟨_, _, ⟨T19, L19, k19, n19⟩, -, X19, ⟨Lc19, hQ19, l19, y19, z19⟩, st19⟩ := X18.virtualBack hx (y := (⟨"com/example/tardy_post/tardypost/Message$Body", "isKept", "()Z"⟩ : MethodName)) (z := (⟨"com/example/tardy_post/tardypost/Message$Body", "isKept", "()Z"⟩ : MethodName)) hown (mvT hZ (hw _ (List.mem_of_getElem? (i := 19) rfl))) (mvT hZ (hw _ (List.mem_of_getElem? (i := 20) rfl))) (notFace_of_selects (args := #[]) (mvT hZ (hw _ (List.mem_of_getElem? (i := 22) rfl)))) (mvT hZ (hw _ (List.mem_of_getElem? (i := 22) rfl))) (mvT hZ (hw _ (List.mem_of_getElem? (i := 21) rfl))) (by decide) (backOf (W := 0) (rm4 l Z a0 hw [] T16.heap.size nb 0 ((q3 &&& (9223372036854775807 : Int64)) + (1 : Int64)) T18.heap n0 Z5 Fb18 Fl18 BN5) hZ (hw _ (List.mem_of_getElem? (i := 23) rfl)) (hw _ (List.mem_of_getElem? (i := 3) rfl)) (by decide) (by decide)) q19a q19c (g := (mkF m 88 #[.val (.int p1), .val (.long q2), .second, .val (.long q3), .second, .val (.int (Int32.ofNat nn)), .val (.ref b12), .val (.long ln), .second, .val (.ref b13), .val (.int (1 : Int32)), .val (.int (if (Int32.ofNat nn).toInt64 = (Int32.ofNat nn).toInt64 then (1 : Int32) else (0 : Int32))), .unset] [(.ref T16.heap.size)])) rfl (by rw [hml]; rfl) (Steps.refl _) (argsL := []) (rest := []) (lenOf pd_2 rfl) rfl (by show 2 * 0 + _ ≤ _; exact Nat.le_of_eq rfl) (hb hby at_88) (fun _ _ => ⟨rfl, rfl, (by decide : 4 + 0 ≤ _), (by decide : 13 + 0 ≤ _)⟩)
      dsimp only [Pt.U, Pt.locs, Pt.cells, Pt.slots] at X19 l19 y19 z19 st19 hQ19
      subst l19 y19 z19
      obtain ⟨rfl, N19q, e19⟩ := hQ19
      have N19 := Fr.app N18 N19q
      refine Ends.st st19 ?_
      refine Ends.of (F' := T19.setTop (mkF m 121 #[.val (.int p1), .val (.long q2), .second, .val (.long q3), .second, .val (.int (Int32.ofNat nn)), .val (.ref b12), .val (.long ln), .second, .val (.ref b13), .val (.int (1 : Int32)), .val (.int (if (Int32.ofNat nn).toInt64 = (Int32.ofNat nn).toInt64 then (1 : Int32) else (0 : Int32))), .val (.int (1 : Int32))] [(.int (1 : Int32))])) (fun _ kt => ?_) ?_
      · show Steps p.tables e below (T19.setTop (mkF m 91 #[.val (.int p1), .val (.long q2), .second, .val (.long q3), .second, .val (.int (Int32.ofNat nn)), .val (.ref b12), .val (.long ln), .second, .val (.ref b13), .val (.int (1 : Int32)), .val (.int (if (Int32.ofNat nn).toInt64 = (Int32.ofNat nn).toInt64 then (1 : Int32) else (0 : Int32))), .unset] [(.int (if (Int32.ofNat 0).toInt64 = ((q3 &&& (9223372036854775807 : Int64)) + (1 : Int64)) then (1 : Int32) else (0 : Int32)))])) _
        refine XS.ifNo X19.here hx rfl (hb hby at_91) rfl ((if0 _ _).trans (teq (if_neg (own_nk q3))).2) ?_
        show Steps p.tables e below (T19.setTop (mkF m 94 #[.val (.int p1), .val (.long q2), .second, .val (.long q3), .second, .val (.int (Int32.ofNat nn)), .val (.ref b12), .val (.long ln), .second, .val (.ref b13), .val (.int (1 : Int32)), .val (.int (if (Int32.ofNat nn).toInt64 = (Int32.ofNat nn).toInt64 then (1 : Int32) else (0 : Int32))), .unset] [])) _
        refine XS.iconst X19.here hx rfl (hb hby at_94) ?_
        show Steps p.tables e below (T19.setTop (mkF m 95 #[.val (.int p1), .val (.long q2), .second, .val (.long q3), .second, .val (.int (Int32.ofNat nn)), .val (.ref b12), .val (.long ln), .second, .val (.ref b13), .val (.int (1 : Int32)), .val (.int (if (Int32.ofNat nn).toInt64 = (Int32.ofNat nn).toInt64 then (1 : Int32) else (0 : Int32))), .unset] [(.int (1 : Int32))])) _
        refine XS.goto X19.here hx rfl (pc0 := 95) (pc' := 99) rfl (hb hby at_95) (by decide) (by decide) ?_
        show Steps p.tables e below (T19.setTop (mkF m 99 #[.val (.int p1), .val (.long q2), .second, .val (.long q3), .second, .val (.int (Int32.ofNat nn)), .val (.ref b12), .val (.long ln), .second, .val (.ref b13), .val (.int (1 : Int32)), .val (.int (if (Int32.ofNat nn).toInt64 = (Int32.ofNat nn).toInt64 then (1 : Int32) else (0 : Int32))), .unset] [(.int (1 : Int32))])) _
        refine XS.istore X19.here hx rfl (hb hby at_99) rfl (l' := #[.val (.int p1), .val (.long q2), .second, .val (.long q3), .second, .val (.int (Int32.ofNat nn)), .val (.ref b12), .val (.long ln), .second, .val (.ref b13), .val (.int (1 : Int32)), .val (.int (if (Int32.ofNat nn).toInt64 = (Int32.ofNat nn).toInt64 then (1 : Int32) else (0 : Int32))), .val (.int (1 : Int32))]) rfl ?_
        show Steps p.tables e below (T19.setTop (mkF m 101 #[.val (.int p1), .val (.long q2), .second, .val (.long q3), .second, .val (.int (Int32.ofNat nn)), .val (.ref b12), .val (.long ln), .second, .val (.ref b13), .val (.int (1 : Int32)), .val (.int (if (Int32.ofNat nn).toInt64 = (Int32.ofNat nn).toInt64 then (1 : Int32) else (0 : Int32))), .val (.int (1 : Int32))] [])) _
        refine XS.iload X19.here hx rfl (hb hby at_101) rfl ?_
        show Steps p.tables e below (T19.setTop (mkF m 103 #[.val (.int p1), .val (.long q2), .second, .val (.long q3), .second, .val (.int (Int32.ofNat nn)), .val (.ref b12), .val (.long ln), .second, .val (.ref b13), .val (.int (1 : Int32)), .val (.int (if (Int32.ofNat nn).toInt64 = (Int32.ofNat nn).toInt64 then (1 : Int32) else (0 : Int32))), .val (.int (1 : Int32))] [(.int (1 : Int32))])) _
        refine XS.ifNo X19.here hx rfl (hb hby at_103) rfl ((if0 _ _).trans (feq (by decide)).1) ?_
        show Steps p.tables e below (T19.setTop (mkF m 106 #[.val (.int p1), .val (.long q2), .second, .val (.long q3), .second, .val (.int (Int32.ofNat nn)), .val (.ref b12), .val (.long ln), .second, .val (.ref b13), .val (.int (1 : Int32)), .val (.int (if (Int32.ofNat nn).toInt64 = (Int32.ofNat nn).toInt64 then (1 : Int32) else (0 : Int32))), .val (.int (1 : Int32))] [])) _
        refine XS.iload X19.here hx rfl (hb hby at_106) rfl ?_
        show Steps p.tables e below (T19.setTop (mkF m 108 #[.val (.int p1), .val (.long q2), .second, .val (.long q3), .second, .val (.int (Int32.ofNat nn)), .val (.ref b12), .val (.long ln), .second, .val (.ref b13), .val (.int (1 : Int32)), .val (.int (if (Int32.ofNat nn).toInt64 = (Int32.ofNat nn).toInt64 then (1 : Int32) else (0 : Int32))), .val (.int (1 : Int32))] [(.int (if (Int32.ofNat nn).toInt64 = (Int32.ofNat nn).toInt64 then (1 : Int32) else (0 : Int32)))])) _
        refine XS.ifNo X19.here hx rfl (hb hby at_108) rfl ((if0 _ _).trans (feq (by rw [if_pos rfl]; decide)).1) ?_
        show Steps p.tables e below (T19.setTop (mkF m 111 #[.val (.int p1), .val (.long q2), .second, .val (.long q3), .second, .val (.int (Int32.ofNat nn)), .val (.ref b12), .val (.long ln), .second, .val (.ref b13), .val (.int (1 : Int32)), .val (.int (if (Int32.ofNat nn).toInt64 = (Int32.ofNat nn).toInt64 then (1 : Int32) else (0 : Int32))), .val (.int (1 : Int32))] [])) _
        refine XS.iload X19.here hx rfl (hb hby at_111) rfl ?_
        show Steps p.tables e below (T19.setTop (mkF m 113 #[.val (.int p1), .val (.long q2), .second, .val (.long q3), .second, .val (.int (Int32.ofNat nn)), .val (.ref b12), .val (.long ln), .second, .val (.ref b13), .val (.int (1 : Int32)), .val (.int (if (Int32.ofNat nn).toInt64 = (Int32.ofNat nn).toInt64 then (1 : Int32) else (0 : Int32))), .val (.int (1 : Int32))] [(.int (1 : Int32))])) _
        refine XS.ifNo X19.here hx rfl (hb hby at_113) rfl ((if0 _ _).trans (feq (by decide)).1) ?_
        show Steps p.tables e below (T19.setTop (mkF m 116 #[.val (.int p1), .val (.long q2), .second, .val (.long q3), .second, .val (.int (Int32.ofNat nn)), .val (.ref b12), .val (.long ln), .second, .val (.ref b13), .val (.int (1 : Int32)), .val (.int (if (Int32.ofNat nn).toInt64 = (Int32.ofNat nn).toInt64 then (1 : Int32) else (0 : Int32))), .val (.int (1 : Int32))] [])) _
        refine XS.iconst X19.here hx rfl (hb hby at_116) ?_
        show Steps p.tables e below (T19.setTop (mkF m 117 #[.val (.int p1), .val (.long q2), .second, .val (.long q3), .second, .val (.int (Int32.ofNat nn)), .val (.ref b12), .val (.long ln), .second, .val (.ref b13), .val (.int (1 : Int32)), .val (.int (if (Int32.ofNat nn).toInt64 = (Int32.ofNat nn).toInt64 then (1 : Int32) else (0 : Int32))), .val (.int (1 : Int32))] [(.int (1 : Int32))])) _
        refine XS.goto X19.here hx rfl (pc0 := 117) (pc' := 121) rfl (hb hby at_117) (by decide) (by decide) ?_
        exact kt
      obtain ⟨fs, hr, hrun, hended, hW, hsame⟩ := X19.leave (v := some (.int (1 : Int32))) (fun h => by rw [Bd.returns] at h; cases h)
      exact ⟨_, _, retN X19 hx (t := .boolean) Bd.returns (by simp) (hb hby at_121) hr, hrun, hended, _, _, rfl, ⟨rfl, N19⟩, ⟨_, rfl⟩, hW, hsame.mono (by decide) (by decide)⟩
    · refine Ends.of (F' := T15.setTop (mkF m 72 #[.val (.int p1), .val (.long q2), .second, .val (.long q3), .second, .val (.int (Int32.ofNat nn)), .val (.ref b12), .val (.long ln), .second, .val (.ref b13), .val (.int (1 : Int32)), .unset, .unset] [(.ref b12)])) (fun _ kt => ?_) ?_
      · show Steps p.tables e below (T15.setTop (mkF m 52 #[.val (.int p1), .val (.long q2), .second, .val (.long q3), .second, .val (.int (Int32.ofNat nn)), .val (.ref b12), .val (.long ln), .second, .val (.ref b13), .unset, .unset, .unset] [(.int (lcmpW ln ((Int32.ofNat nn).toInt64))), (.int (if (Int32.ofNat nn).toInt64 = ln then (1 : Int32) else (0 : Int32)))])) _
        refine XS.ifYes X15.here hx rfl (pc0 := 52) (pc' := 59) rfl (hb hby at_52) rfl ((if0 _ _).trans (feq (fun q => hq ((lw_eq _ _).mp q).symm)).2) (by decide) (by decide) ?_
        show Steps p.tables e below (T15.setTop (mkF m 59 #[.val (.int p1), .val (.long q2), .second, .val (.long q3), .second, .val (.int (Int32.ofNat nn)), .val (.ref b12), .val (.long ln), .second, .val (.ref b13), .unset, .unset, .unset] [(.int (if (Int32.ofNat nn).toInt64 = ln then (1 : Int32) else (0 : Int32)))])) _
        refine XS.iconst X15.here hx rfl (hb hby at_59) ?_
        show Steps p.tables e below (T15.setTop (mkF m 60 #[.val (.int p1), .val (.long q2), .second, .val (.long q3), .second, .val (.int (Int32.ofNat nn)), .val (.ref b12), .val (.long ln), .second, .val (.ref b13), .unset, .unset, .unset] [(.int (0 : Int32)), (.int (if (Int32.ofNat nn).toInt64 = ln then (1 : Int32) else (0 : Int32)))])) _
        refine XS.icmpNo X15.here hx rfl (hb hby at_60) rfl (teq (if_neg hq)).2 ?_
        show Steps p.tables e below (T15.setTop (mkF m 63 #[.val (.int p1), .val (.long q2), .second, .val (.long q3), .second, .val (.int (Int32.ofNat nn)), .val (.ref b12), .val (.long ln), .second, .val (.ref b13), .unset, .unset, .unset] [])) _
        refine XS.iconst X15.here hx rfl (hb hby at_63) ?_
        show Steps p.tables e below (T15.setTop (mkF m 64 #[.val (.int p1), .val (.long q2), .second, .val (.long q3), .second, .val (.int (Int32.ofNat nn)), .val (.ref b12), .val (.long ln), .second, .val (.ref b13), .unset, .unset, .unset] [(.int (1 : Int32))])) _
        refine XS.goto X15.here hx rfl (pc0 := 64) (pc' := 68) rfl (hb hby at_64) (by decide) (by decide) ?_
        show Steps p.tables e below (T15.setTop (mkF m 68 #[.val (.int p1), .val (.long q2), .second, .val (.long q3), .second, .val (.int (Int32.ofNat nn)), .val (.ref b12), .val (.long ln), .second, .val (.ref b13), .unset, .unset, .unset] [(.int (1 : Int32))])) _
        refine XS.istore X15.here hx rfl (hb hby at_68) rfl (l' := #[.val (.int p1), .val (.long q2), .second, .val (.long q3), .second, .val (.int (Int32.ofNat nn)), .val (.ref b12), .val (.long ln), .second, .val (.ref b13), .val (.int (1 : Int32)), .unset, .unset]) rfl ?_
        show Steps p.tables e below (T15.setTop (mkF m 70 #[.val (.int p1), .val (.long q2), .second, .val (.long q3), .second, .val (.int (Int32.ofNat nn)), .val (.ref b12), .val (.long ln), .second, .val (.ref b13), .val (.int (1 : Int32)), .unset, .unset] [])) _
        refine XS.aload X15.here hx rfl (hb hby at_70) rfl rfl ?_
        exact kt
      obtain ⟨_, _, ⟨T20, L20, k20, n20⟩, -, X20, ⟨Lc20, hQ20, l20, y20, z20⟩, st20⟩ := Jvm.LawKit.callS X15 hx (y := (⟨"com/example/tardy_post/tardypost/Message$Body", "of", "([B)Lcom/example/tardy_post/tardypost/Message$Body;"⟩ : MethodName)) hown (mvT hZ (hw _ (List.mem_of_getElem? (i := 24) rfl))) (mvT hZ (hw _ (List.mem_of_getElem? (i := 25) rfl))) (mvT hZ (hw _ (List.mem_of_getElem? (i := 3) rfl))) (mvT hZ (hw _ (List.mem_of_getElem? (i := 26) rfl))) (by decide) (backOf (W := 0) (rm5 l Z a0 hw [] b12 nn T14.heap n0 Z3 B3) hZ (hw _ (List.mem_of_getElem? (i := 26) rfl)) (hw _ (List.mem_of_getElem? (i := 3) rfl)) (by decide) (by decide)) (g := (mkF m 72 #[.val (.int p1), .val (.long q2), .second, .val (.long q3), .second, .val (.int (Int32.ofNat nn)), .val (.ref b12), .val (.long ln), .second, .val (.ref b13), .val (.int (1 : Int32)), .unset, .unset] [(.ref b12)])) rfl (by rw [hml]; rfl) (argsL := [(.ref b12)]) (rest := []) (lenOf pd_3 rfl) rfl (by show 2 * 0 + _ ≤ _; exact Nat.le_of_eq rfl) (hb hby at_72) (fun _ _ => ⟨rfl, e15, (by decide : 2 + 1 ≤ _), (by decide : 9 + 2 ≤ _)⟩)
      dsimp only [Pt.U, Pt.locs, Pt.cells, Pt.slots] at X20 l20 y20 z20 st20 hQ20
      subst l20 y20 z20
      obtain ⟨rfl, N20q, K20, Ex20, Fb20, Fl20⟩ := hQ20
      have N20 := Fr.app N15 N20q
      refine Ends.of st20 ?_
      have Z4 : n0 ≤ T20.heap.size := Nat.le_trans Z3 K20.1
      have B4 := B3.keep K20 nin0
      have BN4 := BN3.keep K20 nin0
      have S4 := Sta.keep S3 K20 all0
      obtain ⟨cq21, kq21, q21a, q21b, q21c⟩ := isOf hZ rfl Ex20
      obtain ⟨_, _, ⟨T21, L21, k21, n21⟩, -, X21, ⟨Lc21, hQ21, l21, y21, z21⟩, st21⟩ := X20.virtualBack hx (y := (⟨"com/example/tardy_post/tardypost/Message$Body", "isKept", "()Z"⟩ : MethodName)) (z := (⟨"com/example/tardy_post/tardypost/Message$Body", "isKept", "()Z"⟩ : MethodName)) hown (mvT hZ (hw _ (List.mem_of_getElem? (i := 19) rfl))) (mvT hZ (hw _ (List.mem_of_getElem? (i := 20) rfl))) (notFace_of_selects (args := #[]) (mvT hZ (hw _ (List.mem_of_getElem? (i := 22) rfl)))) (mvT hZ (hw _ (List.mem_of_getElem? (i := 22) rfl))) (mvT hZ (hw _ (List.mem_of_getElem? (i := 21) rfl))) (by decide) (backOf (W := 0) (rm4 l Z a0 hw [] T14.heap.size b12 nn (Int32.ofNat nn).toInt64 T20.heap n0 Z4 Fb20 Fl20 B4) hZ (hw _ (List.mem_of_getElem? (i := 23) rfl)) (hw _ (List.mem_of_getElem? (i := 3) rfl)) (by decide) (by decide)) q21a q21c (g := (mkF m 75 #[.val (.int p1), .val (.long q2), .second, .val (.long q3), .second, .val (.int (Int32.ofNat nn)), .val (.ref b12), .val (.long ln), .second, .val (.ref b13), .val (.int (1 : Int32)), .unset, .unset] [(.ref T14.heap.size)])) rfl (by rw [hml]; rfl) (Steps.refl _) (argsL := []) (rest := []) (lenOf pd_2 rfl) rfl (by show 2 * 0 + _ ≤ _; exact Nat.le_of_eq rfl) (hb hby at_75) (fun _ _ => ⟨rfl, rfl, (by decide : 3 + 0 ≤ _), (by decide : 11 + 0 ≤ _)⟩)
      dsimp only [Pt.U, Pt.locs, Pt.cells, Pt.slots] at X21 l21 y21 z21 st21 hQ21
      subst l21 y21 z21
      obtain ⟨rfl, N21q, e21⟩ := hQ21
      have N21 := Fr.app N20 N21q
      refine Ends.st st21 ?_
      refine Ends.of (F' := T21.setTop (mkF m 85 #[.val (.int p1), .val (.long q2), .second, .val (.long q3), .second, .val (.int (Int32.ofNat nn)), .val (.ref b12), .val (.long ln), .second, .val (.ref b13), .val (.int (1 : Int32)), .val (.int (if (Int32.ofNat nn).toInt64 = (Int32.ofNat nn).toInt64 then (1 : Int32) else (0 : Int32))), .unset] [(.long (q3 &&& (9223372036854775807 : Int64)))])) (fun _ kt => ?_) ?_
      · show Steps p.tables e below (T21.setTop (mkF m 78 #[.val (.int p1), .val (.long q2), .second, .val (.long q3), .second, .val (.int (Int32.ofNat nn)), .val (.ref b12), .val (.long ln), .second, .val (.ref b13), .val (.int (1 : Int32)), .unset, .unset] [(.int (if (Int32.ofNat nn).toInt64 = (Int32.ofNat nn).toInt64 then (1 : Int32) else (0 : Int32)))])) _
        refine XS.istore X21.here hx rfl (hb hby at_78) rfl (l' := #[.val (.int p1), .val (.long q2), .second, .val (.long q3), .second, .val (.int (Int32.ofNat nn)), .val (.ref b12), .val (.long ln), .second, .val (.ref b13), .val (.int (1 : Int32)), .val (.int (if (Int32.ofNat nn).toInt64 = (Int32.ofNat nn).toInt64 then (1 : Int32) else (0 : Int32))), .unset]) rfl ?_
        show Steps p.tables e below (T21.setTop (mkF m 80 #[.val (.int p1), .val (.long q2), .second, .val (.long q3), .second, .val (.int (Int32.ofNat nn)), .val (.ref b12), .val (.long ln), .second, .val (.ref b13), .val (.int (1 : Int32)), .val (.int (if (Int32.ofNat nn).toInt64 = (Int32.ofNat nn).toInt64 then (1 : Int32) else (0 : Int32))), .unset] [])) _
        refine XS.lloadN X21.here hx rfl (hb hby at_80) rfl ?_
        show Steps p.tables e below (T21.setTop (mkF m 81 #[.val (.int p1), .val (.long q2), .second, .val (.long q3), .second, .val (.int (Int32.ofNat nn)), .val (.ref b12), .val (.long ln), .second, .val (.ref b13), .val (.int (1 : Int32)), .val (.int (if (Int32.ofNat nn).toInt64 = (Int32.ofNat nn).toInt64 then (1 : Int32) else (0 : Int32))), .unset] [(.long q3)])) _
        refine X21.ldc2Long hx hown (mvT hZ (hw _ (List.mem_of_getElem? (i := 29) rfl))) (g := (mkF m 81 #[.val (.int p1), .val (.long q2), .second, .val (.long q3), .second, .val (.int (Int32.ofNat nn)), .val (.ref b12), .val (.long ln), .second, .val (.ref b13), .val (.int (1 : Int32)), .val (.int (if (Int32.ofNat nn).toInt64 = (Int32.ofNat nn).toInt64 then (1 : Int32) else (0 : Int32))), .unset] [(.long q3)])) rfl (hb hby at_81) _ ?_
        show Steps p.tables e below (T21.setTop (mkF m 84 #[.val (.int p1), .val (.long q2), .second, .val (.long q3), .second, .val (.int (Int32.ofNat nn)), .val (.ref b12), .val (.long ln), .second, .val (.ref b13), .val (.int (1 : Int32)), .val (.int (if (Int32.ofNat nn).toInt64 = (Int32.ofNat nn).toInt64 then (1 : Int32) else (0 : Int32))), .unset] [(.long (9223372036854775807 : Int64)), (.long q3)])) _
        refine XS.land X21.here hx rfl (hb hby at_84) rfl ?_
        exact kt
      obtain ⟨_, _, ⟨T22, L22, k22, n22⟩, -, X22, ⟨Lc22, hQ22, l22, y22, z22⟩, st22⟩ := Jvm.LawKit.callS X21 hx (y := (⟨"com/example/tardy_post/tardypost/Message$Body", "notKept", "(J)Lcom/example/tardy_post/tardypost/Message$Body;"⟩ : MethodName)) hown (mvT hZ (hw _ (List.mem_of_getElem? (i := 30) rfl))) (mvT hZ (hw _ (List.mem_of_getElem? (i := 31) rfl))) (mvT hZ (hw _ (List.mem_of_getElem? (i := 3) rfl))) (mvT hZ (hw _ (List.mem_of_getElem? (i := 32) rfl))) (by decide) (backOf (W := 0) (rm6 l Z a0 hw [] (q3 &&& (9223372036854775807 : Int64)) nb T20.heap n0 Z4 S4) hZ (hw _ (List.mem_of_getElem? (i := 32) rfl)) (hw _ (List.mem_of_getElem? (i := 3) rfl)) (by decide) (by decide)) (g := (mkF m 85 #[.val (.int p1), .val (.long q2), .second, .val (.long q3), .second, .val (.int (Int32.ofNat nn)), .val (.ref b12), .val (.long ln), .second, .val (.ref b13), .val (.int (1 : Int32)), .val (.int (if (Int32.ofNat nn).toInt64 = (Int32.ofNat nn).toInt64 then (1 : Int32) else (0 : Int32))), .unset] [(.long (q3 &&& (9223372036854775807 : Int64)))])) rfl (by rw [hml]; rfl) (argsL := [(.long (q3 &&& (9223372036854775807 : Int64)))]) (rest := []) (lenOf pd_4 rfl) rfl (by show 2 * 0 + _ ≤ _; exact Nat.le_of_eq rfl) (hb hby at_85) (fun _ _ => ⟨rfl, e21, (by decide : 3 + 1 ≤ _), (by decide : 11 + 2 ≤ _)⟩)
      dsimp only [Pt.U, Pt.locs, Pt.cells, Pt.slots] at X22 l22 y22 z22 st22 hQ22
      subst l22 y22 z22
      obtain ⟨rfl, N22q, K22, Ex22, Fb22, Fl22⟩ := hQ22
      have N22 := Fr.app N21 N22q
      refine Ends.of st22 ?_
      have Z5 : n0 ≤ T22.heap.size := Nat.le_trans Z4 K22.1
      have BN5 := BN4.keep K22 nin0
      obtain ⟨cq23, kq23, q23a, q23b, q23c⟩ := isOf hZ rfl Ex22
      obtain ⟨_, _, ⟨T23, L23, k23, n23⟩, -, X23, ⟨Lc23, hQ23, l23, y23, z23⟩, st23⟩ := X22.virtualBack hx (y := (⟨"com/example/tardy_post/tardypost/Message$Body", "isKept", "()Z"⟩ : MethodName)) (z := (⟨"com/example/tardy_post/tardypost/Message$Body", "isKept", "()Z"⟩ : MethodName)) hown (mvT hZ (hw _ (List.mem_of_getElem? (i := 19) rfl))) (mvT hZ (hw _ (List.mem_of_getElem? (i := 20) rfl))) (notFace_of_selects (args := #[]) (mvT hZ (hw _ (List.mem_of_getElem? (i := 22) rfl)))) (mvT hZ (hw _ (List.mem_of_getElem? (i := 22) rfl))) (mvT hZ (hw _ (List.mem_of_getElem? (i := 21) rfl))) (by decide) (backOf (W := 0) (rm4 l Z a0 hw [] T20.heap.size nb 0 ((q3 &&& (9223372036854775807 : Int64)) + (1 : Int64)) T22.heap n0 Z5 Fb22 Fl22 BN5) hZ (hw _ (List.mem_of_getElem? (i := 23) rfl)) (hw _ (List.mem_of_getElem? (i := 3) rfl)) (by decide) (by decide)) q23a q23c (g := (mkF m 88 #[.val (.int p1), .val (.long q2), .second, .val (.long q3), .second, .val (.int (Int32.ofNat nn)), .val (.ref b12), .val (.long ln), .second, .val (.ref b13), .val (.int (1 : Int32)), .val (.int (if (Int32.ofNat nn).toInt64 = (Int32.ofNat nn).toInt64 then (1 : Int32) else (0 : Int32))), .unset] [(.ref T20.heap.size)])) rfl (by rw [hml]; rfl) (Steps.refl _) (argsL := []) (rest := []) (lenOf pd_2 rfl) rfl (by show 2 * 0 + _ ≤ _; exact Nat.le_of_eq rfl) (hb hby at_88) (fun _ _ => ⟨rfl, rfl, (by decide : 4 + 0 ≤ _), (by decide : 13 + 0 ≤ _)⟩)
      dsimp only [Pt.U, Pt.locs, Pt.cells, Pt.slots] at X23 l23 y23 z23 st23 hQ23
      subst l23 y23 z23
      obtain ⟨rfl, N23q, e23⟩ := hQ23
      have N23 := Fr.app N22 N23q
      refine Ends.st st23 ?_
      refine Ends.of (F' := T23.setTop (mkF m 121 #[.val (.int p1), .val (.long q2), .second, .val (.long q3), .second, .val (.int (Int32.ofNat nn)), .val (.ref b12), .val (.long ln), .second, .val (.ref b13), .val (.int (1 : Int32)), .val (.int (if (Int32.ofNat nn).toInt64 = (Int32.ofNat nn).toInt64 then (1 : Int32) else (0 : Int32))), .val (.int (1 : Int32))] [(.int (1 : Int32))])) (fun _ kt => ?_) ?_
      · show Steps p.tables e below (T23.setTop (mkF m 91 #[.val (.int p1), .val (.long q2), .second, .val (.long q3), .second, .val (.int (Int32.ofNat nn)), .val (.ref b12), .val (.long ln), .second, .val (.ref b13), .val (.int (1 : Int32)), .val (.int (if (Int32.ofNat nn).toInt64 = (Int32.ofNat nn).toInt64 then (1 : Int32) else (0 : Int32))), .unset] [(.int (if (Int32.ofNat 0).toInt64 = ((q3 &&& (9223372036854775807 : Int64)) + (1 : Int64)) then (1 : Int32) else (0 : Int32)))])) _
        refine XS.ifNo X23.here hx rfl (hb hby at_91) rfl ((if0 _ _).trans (teq (if_neg (own_nk q3))).2) ?_
        show Steps p.tables e below (T23.setTop (mkF m 94 #[.val (.int p1), .val (.long q2), .second, .val (.long q3), .second, .val (.int (Int32.ofNat nn)), .val (.ref b12), .val (.long ln), .second, .val (.ref b13), .val (.int (1 : Int32)), .val (.int (if (Int32.ofNat nn).toInt64 = (Int32.ofNat nn).toInt64 then (1 : Int32) else (0 : Int32))), .unset] [])) _
        refine XS.iconst X23.here hx rfl (hb hby at_94) ?_
        show Steps p.tables e below (T23.setTop (mkF m 95 #[.val (.int p1), .val (.long q2), .second, .val (.long q3), .second, .val (.int (Int32.ofNat nn)), .val (.ref b12), .val (.long ln), .second, .val (.ref b13), .val (.int (1 : Int32)), .val (.int (if (Int32.ofNat nn).toInt64 = (Int32.ofNat nn).toInt64 then (1 : Int32) else (0 : Int32))), .unset] [(.int (1 : Int32))])) _
        refine XS.goto X23.here hx rfl (pc0 := 95) (pc' := 99) rfl (hb hby at_95) (by decide) (by decide) ?_
        show Steps p.tables e below (T23.setTop (mkF m 99 #[.val (.int p1), .val (.long q2), .second, .val (.long q3), .second, .val (.int (Int32.ofNat nn)), .val (.ref b12), .val (.long ln), .second, .val (.ref b13), .val (.int (1 : Int32)), .val (.int (if (Int32.ofNat nn).toInt64 = (Int32.ofNat nn).toInt64 then (1 : Int32) else (0 : Int32))), .unset] [(.int (1 : Int32))])) _
        refine XS.istore X23.here hx rfl (hb hby at_99) rfl (l' := #[.val (.int p1), .val (.long q2), .second, .val (.long q3), .second, .val (.int (Int32.ofNat nn)), .val (.ref b12), .val (.long ln), .second, .val (.ref b13), .val (.int (1 : Int32)), .val (.int (if (Int32.ofNat nn).toInt64 = (Int32.ofNat nn).toInt64 then (1 : Int32) else (0 : Int32))), .val (.int (1 : Int32))]) rfl ?_
        show Steps p.tables e below (T23.setTop (mkF m 101 #[.val (.int p1), .val (.long q2), .second, .val (.long q3), .second, .val (.int (Int32.ofNat nn)), .val (.ref b12), .val (.long ln), .second, .val (.ref b13), .val (.int (1 : Int32)), .val (.int (if (Int32.ofNat nn).toInt64 = (Int32.ofNat nn).toInt64 then (1 : Int32) else (0 : Int32))), .val (.int (1 : Int32))] [])) _
        refine XS.iload X23.here hx rfl (hb hby at_101) rfl ?_
        show Steps p.tables e below (T23.setTop (mkF m 103 #[.val (.int p1), .val (.long q2), .second, .val (.long q3), .second, .val (.int (Int32.ofNat nn)), .val (.ref b12), .val (.long ln), .second, .val (.ref b13), .val (.int (1 : Int32)), .val (.int (if (Int32.ofNat nn).toInt64 = (Int32.ofNat nn).toInt64 then (1 : Int32) else (0 : Int32))), .val (.int (1 : Int32))] [(.int (1 : Int32))])) _
        refine XS.ifNo X23.here hx rfl (hb hby at_103) rfl ((if0 _ _).trans (feq (by decide)).1) ?_
        show Steps p.tables e below (T23.setTop (mkF m 106 #[.val (.int p1), .val (.long q2), .second, .val (.long q3), .second, .val (.int (Int32.ofNat nn)), .val (.ref b12), .val (.long ln), .second, .val (.ref b13), .val (.int (1 : Int32)), .val (.int (if (Int32.ofNat nn).toInt64 = (Int32.ofNat nn).toInt64 then (1 : Int32) else (0 : Int32))), .val (.int (1 : Int32))] [])) _
        refine XS.iload X23.here hx rfl (hb hby at_106) rfl ?_
        show Steps p.tables e below (T23.setTop (mkF m 108 #[.val (.int p1), .val (.long q2), .second, .val (.long q3), .second, .val (.int (Int32.ofNat nn)), .val (.ref b12), .val (.long ln), .second, .val (.ref b13), .val (.int (1 : Int32)), .val (.int (if (Int32.ofNat nn).toInt64 = (Int32.ofNat nn).toInt64 then (1 : Int32) else (0 : Int32))), .val (.int (1 : Int32))] [(.int (if (Int32.ofNat nn).toInt64 = (Int32.ofNat nn).toInt64 then (1 : Int32) else (0 : Int32)))])) _
        refine XS.ifNo X23.here hx rfl (hb hby at_108) rfl ((if0 _ _).trans (feq (by rw [if_pos rfl]; decide)).1) ?_
        show Steps p.tables e below (T23.setTop (mkF m 111 #[.val (.int p1), .val (.long q2), .second, .val (.long q3), .second, .val (.int (Int32.ofNat nn)), .val (.ref b12), .val (.long ln), .second, .val (.ref b13), .val (.int (1 : Int32)), .val (.int (if (Int32.ofNat nn).toInt64 = (Int32.ofNat nn).toInt64 then (1 : Int32) else (0 : Int32))), .val (.int (1 : Int32))] [])) _
        refine XS.iload X23.here hx rfl (hb hby at_111) rfl ?_
        show Steps p.tables e below (T23.setTop (mkF m 113 #[.val (.int p1), .val (.long q2), .second, .val (.long q3), .second, .val (.int (Int32.ofNat nn)), .val (.ref b12), .val (.long ln), .second, .val (.ref b13), .val (.int (1 : Int32)), .val (.int (if (Int32.ofNat nn).toInt64 = (Int32.ofNat nn).toInt64 then (1 : Int32) else (0 : Int32))), .val (.int (1 : Int32))] [(.int (1 : Int32))])) _
        refine XS.ifNo X23.here hx rfl (hb hby at_113) rfl ((if0 _ _).trans (feq (by decide)).1) ?_
        show Steps p.tables e below (T23.setTop (mkF m 116 #[.val (.int p1), .val (.long q2), .second, .val (.long q3), .second, .val (.int (Int32.ofNat nn)), .val (.ref b12), .val (.long ln), .second, .val (.ref b13), .val (.int (1 : Int32)), .val (.int (if (Int32.ofNat nn).toInt64 = (Int32.ofNat nn).toInt64 then (1 : Int32) else (0 : Int32))), .val (.int (1 : Int32))] [])) _
        refine XS.iconst X23.here hx rfl (hb hby at_116) ?_
        show Steps p.tables e below (T23.setTop (mkF m 117 #[.val (.int p1), .val (.long q2), .second, .val (.long q3), .second, .val (.int (Int32.ofNat nn)), .val (.ref b12), .val (.long ln), .second, .val (.ref b13), .val (.int (1 : Int32)), .val (.int (if (Int32.ofNat nn).toInt64 = (Int32.ofNat nn).toInt64 then (1 : Int32) else (0 : Int32))), .val (.int (1 : Int32))] [(.int (1 : Int32))])) _
        refine XS.goto X23.here hx rfl (pc0 := 117) (pc' := 121) rfl (hb hby at_117) (by decide) (by decide) ?_
        exact kt
      obtain ⟨fs, hr, hrun, hended, hW, hsame⟩ := X23.leave (v := some (.int (1 : Int32))) (fun h => by rw [Bd.returns] at h; cases h)
      exact ⟨_, _, retN X23 hx (t := .boolean) Bd.returns (by simp) (hb hby at_121) hr, hrun, hended, _, _, rfl, ⟨rfl, N23⟩, ⟨_, rfl⟩, hW, hsame.mono (by decide) (by decide)⟩
  refine Ends.of (F' := T12.setTop (mkF m 16 #[.val (.int p1), .val (.long q2), .second, .val (.long q3), .second, .val (.int (Int32.ofNat nn)), .val (.ref b12), .unset, .unset, .unset, .unset, .unset, .unset] [(.int (p1 &&& (8 : Int32)))])) (fun _ kt => ?_) ?_
  · show Steps p.tables e below (T12.setTop (mkF m 12 #[.val (.int p1), .val (.long q2), .second, .val (.long q3), .second, .val (.int (Int32.ofNat nn)), .val (.ref b12), .unset, .unset, .unset, .unset, .unset, .unset] [])) _
    refine XS.iloadN X12.here hx rfl (hb hby at_12) rfl ?_
    show Steps p.tables e below (T12.setTop (mkF m 13 #[.val (.int p1), .val (.long q2), .second, .val (.long q3), .second, .val (.int (Int32.ofNat nn)), .val (.ref b12), .unset, .unset, .unset, .unset, .unset, .unset] [(.int p1)])) _
    refine XS.bipush X12.here hx rfl (hb hby at_13) ?_
    show Steps p.tables e below (T12.setTop (mkF m 15 #[.val (.int p1), .val (.long q2), .second, .val (.long q3), .second, .val (.int (Int32.ofNat nn)), .val (.ref b12), .unset, .unset, .unset, .unset, .unset, .unset] [(.int (8 : Int32)), (.int p1)])) _
    refine XS.iand X12.here hx rfl (hb hby at_15) rfl ?_
    exact kt
  by_cases hc16 : (p1 &&& (8 : Int32)) = (0 : Int32)
  · refine Ends.of (F' := T12.setTop (mkF m 28 #[.val (.int p1), .val (.long q2), .second, .val (.long q3), .second, .val (.int (Int32.ofNat nn)), .val (.ref b12), .val (.long q2), .second, .unset, .unset, .unset, .unset] [])) (fun _ kt => ?_) ?_
    · show Steps p.tables e below (T12.setTop (mkF m 16 #[.val (.int p1), .val (.long q2), .second, .val (.long q3), .second, .val (.int (Int32.ofNat nn)), .val (.ref b12), .unset, .unset, .unset, .unset, .unset, .unset] [(.int (p1 &&& (8 : Int32)))])) _
      refine XS.ifYes X12.here hx rfl (pc0 := 16) (pc' := 25) rfl (hb hby at_16) rfl ((if0 _ _).trans (teq hc16).1) (by decide) (by decide) ?_
      show Steps p.tables e below (T12.setTop (mkF m 25 #[.val (.int p1), .val (.long q2), .second, .val (.long q3), .second, .val (.int (Int32.ofNat nn)), .val (.ref b12), .unset, .unset, .unset, .unset, .unset, .unset] [])) _
      refine XS.lloadN X12.here hx rfl (hb hby at_25) rfl ?_
      show Steps p.tables e below (T12.setTop (mkF m 26 #[.val (.int p1), .val (.long q2), .second, .val (.long q3), .second, .val (.int (Int32.ofNat nn)), .val (.ref b12), .unset, .unset, .unset, .unset, .unset, .unset] [(.long q2)])) _
      refine XS.lstore X12.here hx rfl (hb hby at_26) rfl (l' := #[.val (.int p1), .val (.long q2), .second, .val (.long q3), .second, .val (.int (Int32.ofNat nn)), .val (.ref b12), .val (.long q2), .second, .unset, .unset, .unset, .unset]) rfl ?_
      exact kt
    exact blk _
  · refine Ends.of (F' := T12.setTop (mkF m 28 #[.val (.int p1), .val (.long q2), .second, .val (.long q3), .second, .val (.int (Int32.ofNat nn)), .val (.ref b12), .val (.long ((Int32.ofNat nn).toInt64)), .second, .unset, .unset, .unset, .unset] [])) (fun _ kt => ?_) ?_
    · show Steps p.tables e below (T12.setTop (mkF m 16 #[.val (.int p1), .val (.long q2), .second, .val (.long q3), .second, .val (.int (Int32.ofNat nn)), .val (.ref b12), .unset, .unset, .unset, .unset, .unset, .unset] [(.int (p1 &&& (8 : Int32)))])) _
      refine XS.ifNo X12.here hx rfl (hb hby at_16) rfl ((if0 _ _).trans (feq hc16).1) ?_
      show Steps p.tables e below (T12.setTop (mkF m 19 #[.val (.int p1), .val (.long q2), .second, .val (.long q3), .second, .val (.int (Int32.ofNat nn)), .val (.ref b12), .unset, .unset, .unset, .unset, .unset, .unset] [])) _
      refine XS.iload X12.here hx rfl (hb hby at_19) rfl ?_
      show Steps p.tables e below (T12.setTop (mkF m 21 #[.val (.int p1), .val (.long q2), .second, .val (.long q3), .second, .val (.int (Int32.ofNat nn)), .val (.ref b12), .unset, .unset, .unset, .unset, .unset, .unset] [(.int (Int32.ofNat nn))])) _
      refine XS.i2l X12.here hx rfl (hb hby at_21) rfl ?_
      show Steps p.tables e below (T12.setTop (mkF m 22 #[.val (.int p1), .val (.long q2), .second, .val (.long q3), .second, .val (.int (Int32.ofNat nn)), .val (.ref b12), .unset, .unset, .unset, .unset, .unset, .unset] [(.long ((Int32.ofNat nn).toInt64))])) _
      refine XS.goto X12.here hx rfl (pc0 := 22) (pc' := 26) rfl (hb hby at_22) (by decide) (by decide) ?_
      show Steps p.tables e below (T12.setTop (mkF m 26 #[.val (.int p1), .val (.long q2), .second, .val (.long q3), .second, .val (.int (Int32.ofNat nn)), .val (.ref b12), .unset, .unset, .unset, .unset, .unset, .unset] [(.long ((Int32.ofNat nn).toInt64))])) _
      refine XS.lstore X12.here hx rfl (hb hby at_26) rfl (l' := #[.val (.int p1), .val (.long q2), .second, .val (.long q3), .second, .val (.int (Int32.ofNat nn)), .val (.ref b12), .val (.long ((Int32.ofNat nn).toInt64)), .second, .unset, .unset, .unset, .unset]) rfl ?_
      exact kt
    exact blk _
set_option maxRecDepth 65536 in
set_option maxHeartbeats 40000000 in
theorem comes_1 {Post : Tables → Env → Array Value → State → Outcome → State → Prop} (hpost : ∀ tb e args s v u, (limb_1_1.after args s (.returned v) u = true ∧ limb_1_2.after args s (.returned v) u = true ∧ True) → FrameEnd s (.returned v) u (Jvm.fieldLocs frame_1_writes args s ++ Jvm.arrayLocs frame_1_arrays args s ++ Jvm.staticLocs frame_1_statics s) 16 128 → Post tb e args s (.returned v) u) :
    ArmFor flags0 classFile x code maxLocals ret World_1 tables_1 room_1 Calls_1 rest_1 Pre_1 Post := by
  intro l hfl _ _ p e ha hc hk s m args below hf hA hF happ hP
  obtain ⟨hcalls, hrest, hpre⟩ := hP
  obtain ⟨-, -, -, hnamed, -, -, -, hat⟩ := (Spec.applies_iff hf).mp happ
  obtain ⟨hg, hn⟩ := and_e (Cond.before_iff.mp (show (Jvm.Cond.and given_1 narrow_1).before args s = true from hpre))
  obtain ⟨g0, gt0⟩ := and_e hg
  obtain ⟨gv0, gt1⟩ := and_e gt0
  obtain ⟨gv1, gt2⟩ := and_e gt1
  obtain ⟨w0, w1, w2, rfl⟩ : ∃ w0 w1 w2 : Value, args = #[w0, w1, w2] := by
    have hs : args.size = 3 := by simpa [Cond.value, given_1] using g0
    obtain ⟨L⟩ := args
    match L, hs with
    | [w0, w1, w2], _ => exact ⟨w0, w1, w2, rfl⟩
  have hw := fun d (hd : d ∈ tables_1) => atoms_spec (ws := Jvm.Cond.code x code maxLocals ret :: tables_1) hat d (List.mem_cons_of_mem _ hd)
  have hfit : Fit s := fun {y c} hc i hi => by
    obtain ⟨ha, rfl⟩ := Array.getElem?_eq_some_iff.mp hc
    have q := List.all_eq_true.mp ((Array.all_eq_true_iff_forall_mem.mp hF) _ (Array.getElem_mem ha)) i (List.mem_range.mpr hi)
    simpa [Array.getElem?_eq_getElem hi] using q
  obtain ⟨i0, ei0⟩ := is_v gv0
  obtain rfl : w0 = (.int i0) := Option.some.inj ei0
  obtain ⟨i1, ei1⟩ := isL_v gv1
  obtain rfl : w1 = (.long i1) := Option.some.inj ei1
  obtain ⟨i2, ei2⟩ := isL_v gt2
  obtain rfl : w2 = (.long i2) := Option.some.inj ei2
  obtain ⟨n0, n1⟩ := and_e hn
  obtain ⟨nb, ev⟩ := arr_v n0
  have S_N := Sta.start ev (Or.inr ⟨(hw _ (List.mem_of_getElem? (i := 3) rfl)), (hw _ (List.mem_of_getElem? (i := 34) rfl))⟩)
  obtain ⟨cN, AN⟩ := Arr.start ev n0
  have B_N : Byt s s.heap nb 0 := ⟨cN, AN, own_len (own_eqi n1) ev (Arr.fin (State.Warmed39.refl s).alike AN)⟩
  obtain ⟨n, o, h1, h2, h3, _, L, rfl, ⟨rfl, N⟩, hq⟩ := rm0 l s _ hw tables_1 i0 i1 i2 nb s.heap s.heap.size (Nat.le_refl _) S_N B_N p e ha hc hk s m _ below hf ((Spec.applies_iff_loose hf).mp happ).1 ⟨rfl, State.Warmed39.refl s, rfl⟩ trivial
  refine ⟨n, _, h1, h2, h3, hpost _ _ _ _ _ _ ⟨Cond.after_iff.mpr rfl, Cond.after_iff.mpr (eq_i res_at (Term.int_eval (1)) rfl), trivial⟩ ⟨hq.1, hq.2.1, (hq.2.2.sift fun y hy => Or.inr (N y hy)).mono (by decide) (by decide)⟩⟩
theorem main_1_1 : Claimed_1_1 := comes_1 fun _ _ _ _ _ _ h hF => ⟨h.1, hF⟩
theorem main_1_2 : Claimed_1_2 := comes_1 fun _ _ _ _ _ _ h hF => ⟨h.2.1, hF⟩
end Jvm.Pilot.@@N@@
namespace Jvm.Pilot.@@N@@
open Jvm Jvm.ClassFile Sem Op Lib Jvm.Free Jvm.Stand Jvm.Pilot.@@N@@.Jvm.D
/-! MADE BY PROGRAM (witnessworld.py) out of the Statement's table words and the real class files: 10 classes; the members and pool entries that the words name. The judged class is class 1, her method 1. -/
namespace start1
open Jvm.ClassFile
def u (s : String) : CpInfo := .utf8 (stringToUtf16 s)
/-- a pool by its gaps: so many unusable entries, then the entry; so many at the end -/
def gap : Nat → List CpInfo → List CpInfo
  | 0, r => r
  | n + 1, r => .unusable :: gap n r
def poolList (es : List (Nat × CpInfo)) (last : Nat) : List CpInfo := es.foldr (fun e r => gap e.1 (e.2 :: r)) (gap last [])
def pool (es : List (Nat × CpInfo)) (last : Nat) : Array CpInfo := ⟨poolList es last⟩
def fileOf (pool : Array CpInfo) (this : Nat) (attrs : Array Attribute := #[]) (ms : Array MethodInfo := #[]) (fl : Nat := 33) (sup : Nat := 0) (ifs : Array Nat := #[]) (fds : Array FieldInfo := #[]) : ClassFile where
  minorVersion := 0
  majorVersion := 65
  constantPool := pool
  accessFlags := fl
  thisClass := this
  superClass := sup
  interfaces := ifs
  fields := fds
  methods := ms
  attributes := attrs
def plain (name : String) (sup : Option ClassId) : Class where
  name := name
  kind := .ordinary
  loader := none
  accessFlags := 33
  super := sup
  interfaces := #[]
  cf := none
  fields := #[]
  methods := #[]
  instanceTypes := #[]
  staticTypes := #[]
  resolved := #[]
  callSites := []
  init := .initialized
  statics := none
  mirror := none

def pool0 : Array CpInfo := pool [(5, u "<init>"), (0, u "()V"), (1, .class_ 10), (1, u "java/lang/Object")] 113

def k0c0 : Code := { maxStack := 0, maxLocals := 1, code := object_method_1_code, exceptionTable := #[], attributes := #[] }
def k0m0 : Method := { name := "<init>", desc := "()V", sig := { parameters := [], returnType := none }, accessFlags := 1, code := some k0c0 }
/-- java/lang/Object -/
def k0 : Class := { plain "java/lang/Object" none with
  accessFlags := 33
  interfaces := #[]
  cf := some (fileOf pool0 8 #[] #[{ accessFlags := 1, nameIndex := 5, descriptorIndex := 6, attributes := #[] }] 33 0 #[] #[])
  fields := #[]
  methods := #[k0m0]
  instanceTypes := #[]
  staticTypes := #[]
  resolved := Array.replicate 124 none
  statics := none }

def pool1 : Array CpInfo := pool [(2, .class_ 4), (1, u "java/lang/Object"), (0, u "<init>"), (0, u "()V"), (0, .class_ 8), (0, u "com/example/tardy_post/tardypost/Message$Body"), (0, .methodref 7 10), (0, .nameAndType 5 11), (0, u "([BJ)V"), (0, .methodref 7 13), (0, .nameAndType 14 15), (0, u "isKept"), (0, u "()Z"), (0, .methodref 7 17), (0, .nameAndType 18 19), (0, u "of"), (0, u "([B)Lcom/example/tardy_post/tardypost/Message$Body;"), (2, .long 9223372036854775807), (1, .methodref 7 25), (0, .nameAndType 26 27), (0, u "notKept"), (0, u "(J)Lcom/example/tardy_post/tardypost/Message$Body;"), (0, .class_ 29), (0, u "com/example/tardy_post/tardypost/BodyIsKeptPinLaw"), (2, u "law"), (0, u "(IJJ)Z")] 9

def k1m0 : Method := { name := "<init>", desc := "()V", sig := { parameters := [], returnType := none }, accessFlags := 1, code := none }
def k1c1 : Code := { maxStack := 5, maxLocals := 13, code := code, exceptionTable := #[], attributes := #[] }
def k1m1 : Method := { name := "law", desc := "(IJJ)Z", sig := { parameters := [.int, .long, .long], returnType := some .boolean }, accessFlags := 9, code := some k1c1 }
/-- com/example/tardy_post/tardypost/BodyIsKeptPinLaw -/
def k1 : Class := { plain "com/example/tardy_post/tardypost/BodyIsKeptPinLaw" (some 0) with
  accessFlags := 49
  interfaces := #[]
  cf := some (fileOf pool1 28 #[] #[{ accessFlags := 1, nameIndex := 5, descriptorIndex := 6, attributes := #[] }, { accessFlags := 9, nameIndex := 32, descriptorIndex := 33, attributes := #[] }] 49 2 #[] #[])
  fields := #[]
  methods := #[k1m0, k1m1]
  instanceTypes := #[]
  staticTypes := #[]
  resolved := Array.replicate 43 none
  statics := none }

def pool2 : Array CpInfo := pool [(1, .methodref 2 3), (0, .class_ 4), (0, .nameAndType 5 6), (0, u "java/lang/Object"), (0, u "<init>"), (0, u "()V"), (0, .class_ 8), (0, u "java/lang/Record")] 13

def k2c0 : Code := { maxStack := 1, maxLocals := 1, code := jdk_30_method_1_code, exceptionTable := #[], attributes := #[] }
def k2m0 : Method := { name := "<init>", desc := "()V", sig := { parameters := [], returnType := none }, accessFlags := 4, code := some k2c0 }
/-- java/lang/Record -/
def k2 : Class := { plain "java/lang/Record" (some 0) with
  accessFlags := 1057
  interfaces := #[]
  cf := some (fileOf pool2 7 #[] #[{ accessFlags := 4, nameIndex := 5, descriptorIndex := 6, attributes := #[] }] 1057 2 #[] #[])
  fields := #[]
  methods := #[k2m0]
  instanceTypes := #[]
  staticTypes := #[]
  resolved := Array.replicate 22 none
  statics := none }

def pool3 : Array CpInfo := pool [(1, .methodref 2 3), (0, .class_ 4), (0, .nameAndType 5 6), (0, u "java/lang/Record"), (0, u "<init>"), (0, u "()V"), (0, .fieldref 8 9), (0, .class_ 10), (0, .nameAndType 11 12), (0, u "com/example/tardy_post/tardypost/Message$Body"), (0, u "bytes"), (0, u "[B"), (0, .fieldref 8 14), (0, .nameAndType 15 16), (0, u "length"), (0, u "J"), (0, .methodref 8 18), (0, .nameAndType 5 19), (0, u "([BJ)V"), (0, .fieldref 8 21), (0, .nameAndType 22 12), (0, u "NO_BYTES"), (15, u "of"), (0, u "([B)Lcom/example/tardy_post/tardypost/Message$Body;"), (0, u "notKept"), (0, u "(J)Lcom/example/tardy_post/tardypost/Message$Body;"), (0, u "isKept"), (0, u "()Z"), (10, .class_ 55), (0, u "com/example/tardy_post/tardypost/Message")] 20

def k3c0 : Code := { maxStack := 3, maxLocals := 4, code := prog_51_method_1_code, exceptionTable := #[], attributes := #[] }
def k3m0 : Method := { name := "<init>", desc := "([BJ)V", sig := { parameters := [(.array .byte), .long], returnType := none }, accessFlags := 0, code := some k3c0 }
def k3c1 : Code := { maxStack := 5, maxLocals := 1, code := prog_51_method_2_code, exceptionTable := #[], attributes := #[] }
def k3m1 : Method := { name := "of", desc := "([B)Lcom/example/tardy_post/tardypost/Message$Body;", sig := { parameters := [(.array .byte)], returnType := some (.object "com/example/tardy_post/tardypost/Message$Body") }, accessFlags := 8, code := some k3c1 }
def k3c2 : Code := { maxStack := 7, maxLocals := 2, code := prog_51_method_3_code, exceptionTable := #[], attributes := #[] }
def k3m2 : Method := { name := "notKept", desc := "(J)Lcom/example/tardy_post/tardypost/Message$Body;", sig := { parameters := [.long], returnType := some (.object "com/example/tardy_post/tardypost/Message$Body") }, accessFlags := 8, code := some k3c2 }
def k3c3 : Code := { maxStack := 4, maxLocals := 1, code := prog_51_method_4_code, exceptionTable := #[], attributes := #[] }
def k3m3 : Method := { name := "isKept", desc := "()Z", sig := { parameters := [], returnType := some .boolean }, accessFlags := 0, code := some k3c3 }
/-- com/example/tardy_post/tardypost/Message$Body -/
def k3 : Class := { plain "com/example/tardy_post/tardypost/Message$Body" (some 2) with
  accessFlags := 48
  interfaces := #[]
  cf := some (fileOf pool3 8 #[.nestHost 54] #[{ accessFlags := 0, nameIndex := 5, descriptorIndex := 19, attributes := #[] }, { accessFlags := 8, nameIndex := 38, descriptorIndex := 39, attributes := #[] }, { accessFlags := 8, nameIndex := 40, descriptorIndex := 41, attributes := #[] }, { accessFlags := 0, nameIndex := 42, descriptorIndex := 43, attributes := #[] }] 48 2 #[] #[{ accessFlags := 18, nameIndex := 11, descriptorIndex := 12, attributes := #[] }, { accessFlags := 18, nameIndex := 15, descriptorIndex := 16, attributes := #[] }, { accessFlags := 26, nameIndex := 22, descriptorIndex := 12, attributes := #[] }])
  fields := #[{ name := "bytes", type := (.array .byte), accessFlags := 18, slot := 0, constantValue := 0 }, { name := "length", type := .long, accessFlags := 18, slot := 1, constantValue := 0 }, { name := "NO_BYTES", type := (.array .byte), accessFlags := 26, slot := 0, constantValue := 0 }]
  methods := #[k3m0, k3m1, k3m2, k3m3]
  instanceTypes := #[(.array .byte), .long]
  staticTypes := #[(.array .byte)]
  resolved := Array.replicate 76 none
  statics := some 0 }

def pool4 : Array CpInfo := pool [(1, u "java/lang/Cloneable"), (0, .class_ 1), (0, u "java/lang/Object"), (0, .class_ 3)] 3

/-- java/lang/Cloneable -/
def k4 : Class := { plain "java/lang/Cloneable" (some 0) with
  accessFlags := 1537
  interfaces := #[]
  cf := some (fileOf pool4 2 #[] #[] 1537 4 #[] #[])
  fields := #[]
  methods := #[]
  instanceTypes := #[]
  staticTypes := #[]
  resolved := Array.replicate 8 none
  statics := none }

def pool5 : Array CpInfo := pool [(1, u "java/io/Serializable"), (0, .class_ 1), (0, u "java/lang/Object"), (0, .class_ 3)] 3

/-- java/io/Serializable -/
def k5 : Class := { plain "java/io/Serializable" (some 0) with
  accessFlags := 1537
  interfaces := #[]
  cf := some (fileOf pool5 2 #[] #[] 1537 4 #[] #[])
  fields := #[]
  methods := #[]
  instanceTypes := #[]
  staticTypes := #[]
  resolved := Array.replicate 8 none
  statics := none }

/-- the primitive byte -/
def k6 : Class := { plain "byte" none with kind := .primitive 'B', accessFlags := 0x411 }
/-- [B -/
def k7 : Class := { plain "[B" (some 0) with kind := .array 6 .byte, interfaces := #[4, 5], accessFlags := 1041 }

/-- the primitive int -/
def k8 : Class := { plain "int" none with kind := .primitive 'I', accessFlags := 0x411 }
/-- [I -/
def k9 : Class := { plain "[I" (some 0) with kind := .array 8 .int, interfaces := #[4, 5], accessFlags := 1041 }

def heap : Heap := #[{ cls := 3, slots := #[.ref 1], vm := .statics 3 },
  { cls := 7, slots := #[], vm := .none }]
def classes : Array Class := #[k0, k1, k2, k3, k4, k5, k6, k7, k8, k9]
def interned : List (Array UInt16 × Addr) := []
def slotsUsed : Nat := 1
def theMethod : MethodId := ⟨1, 1⟩
def args0 : Array Value := #[.int 5, .long 9, .long 3]
def aboutOver (below : List Frame) : State where
  vm := { classes := classes, interned := interned.toArray }
  heap := heap
  slotsUsed := slotsUsed
  threads := #[{ frames := .invoking theMethod args0 :: below }]
def below0 : List Frame := [.native { method := ⟨0, 0⟩, args := #[] }]
def about1 : State := aboutOver below0
def p0 : Program := .bare "" "" ""
def e0 : Env := launch0.env 0 0 0
theorem w_frames : about1.frames = Frame.invoking theMethod args0 :: below0 := rfl
set_option maxRecDepth 65536 in
theorem w_args : argsFit about1.vm theMethod args0 = true := by decide +kernel
set_option maxRecDepth 65536 in
theorem w_heap : heapFits about1 = true := by decide +kernel
set_option maxRecDepth 65536 in
theorem w_runnable : about1.curStatus? = some .runnable := by decide +kernel
set_option maxRecDepth 65536 in
theorem w_alone : about1.alone = true := by decide +kernel
set_option maxRecDepth 65536 in
theorem w_named : about1.methodNamed? x = some theMethod := by decide +kernel
set_option maxRecDepth 65536 in
theorem w_hears : about1.hears theMethod below0 = true := by decide +kernel
set_option maxRecDepth 65536 in
theorem w_ripe : about1.ripe theMethod args0 below0 = true := by decide +kernel
theorem w_running : about1.status = .running := rfl
set_option maxRecDepth 65536 in
theorem w_room : about1.hasRoom e0.platform room_1 = true :=
  launch0.hasRoom_least _ room_1 (by decide +kernel) (by decide +kernel) (by decide +kernel) (by decide +kernel) (by decide +kernel) (by decide +kernel)
theorem allAtoms_all (ts : List Jvm.Cond) (a : Array Jvm.Value) (st : Jvm.State) : (allAtoms ts).before a st = ts.all (fun c => c.before a st) := by
  induction ts with
  | nil => rfl
  | cons c t ih =>
    show (Jvm.Cond.and c (allAtoms t)).before a st = _
    rw [Jvm.Cond.before_and, ih, List.all_cons]
def words1 : List Jvm.Cond := Jvm.Cond.code x code maxLocals ret :: tables_1
/-- a 'code' word, met by the world's own term for the bytes: nothing is compared byte by byte -/
theorem code_word {y : MethodName} {bytes : ByteArray} {mx : Nat} {rt : Option FieldType} {a : Array Value} {s : State} {m : MethodId} {meth : Method} {c : Code} (h1 : s.methodNamed? y = some m) (h2 : s.vm.method? m = some meth) (h3 : meth.code = some c) (h4 : c.code = bytes)
    (h5 : (c.maxLocals == mx && c.exceptionTable.isEmpty && decide (c.maxStack ≤ mostOperands) && decide (meth.sig.returnType = rt) && !meth.locks && decide (parseMethodDescriptor y.desc = some meth.sig)) = true) : (Jvm.Cond.code y bytes mx rt).before a s = true := by
  simp only [Bool.and_eq_true, beq_iff_eq, Bool.not_eq_true', decide_eq_true_eq] at h5
  obtain ⟨⟨⟨⟨⟨g1, g2⟩, g3⟩, g4⟩, g5⟩, g6⟩ := h5
  simp [Cond.before, Cond.holds, Cond.value, h1, h2, h3, h4, g1, g2, g3, g4, g5, g6]
def isCode : Jvm.Cond → Bool
  | .code _ _ _ _ => true
  | _ => false
theorem all_split {L : List Jvm.Cond} {P : Jvm.Cond → Bool} (h1 : L.all (fun c => isCode c || P c) = true) (h2 : ∀ c ∈ L.filter isCode, P c = true) : L.all P = true := by
  refine List.all_eq_true.mpr fun c hc => ?_
  have h := List.all_eq_true.mp h1 c hc
  rcases Bool.eq_false_or_eq_true (isCode c) with hi | hi
  · exact h2 c (List.mem_filter.mpr ⟨hc, hi⟩)
  · simpa [hi] using h
set_option maxRecDepth 65536 in
theorem w_c0 : (Jvm.Cond.code x code maxLocals ret).before args0 about1 = true := code_word (m := ⟨1, 1⟩) (meth := k1m1) (c := k1c1) (by decide +kernel) rfl rfl rfl (by decide +kernel)
set_option maxRecDepth 65536 in
theorem w_c1 : (Jvm.Cond.code ({ cls := "com/example/tardy_post/tardypost/Message$Body", name := "<init>", desc := "([BJ)V" } : Jvm.MethodName) prog_51_method_1_code (4 : Nat) (Option.none : Option Jvm.ClassFile.FieldType)).before args0 about1 = true := code_word (m := ⟨3, 0⟩) (meth := k3m0) (c := k3c0) (by decide +kernel) rfl rfl rfl (by decide +kernel)
set_option maxRecDepth 65536 in
theorem w_c2 : (Jvm.Cond.code ({ cls := "java/lang/Record", name := "<init>", desc := "()V" } : Jvm.MethodName) jdk_30_method_1_code (1 : Nat) (Option.none : Option Jvm.ClassFile.FieldType)).before args0 about1 = true := code_word (m := ⟨2, 0⟩) (meth := k2m0) (c := k2c0) (by decide +kernel) rfl rfl rfl (by decide +kernel)
set_option maxRecDepth 65536 in
theorem w_c3 : (Jvm.Cond.code ({ cls := "java/lang/Object", name := "<init>", desc := "()V" } : Jvm.MethodName) object_method_1_code (1 : Nat) (Option.none : Option Jvm.ClassFile.FieldType)).before args0 about1 = true := code_word (m := ⟨0, 0⟩) (meth := k0m0) (c := k0c0) (by decide +kernel) rfl rfl rfl (by decide +kernel)
set_option maxRecDepth 65536 in
theorem w_c4 : (Jvm.Cond.code ({ cls := "com/example/tardy_post/tardypost/Message$Body", name := "isKept", desc := "()Z" } : Jvm.MethodName) prog_51_method_4_code (1 : Nat) (Option.some Jvm.ClassFile.FieldType.boolean)).before args0 about1 = true := code_word (m := ⟨3, 3⟩) (meth := k3m3) (c := k3c3) (by decide +kernel) rfl rfl rfl (by decide +kernel)
set_option maxRecDepth 65536 in
theorem w_c5 : (Jvm.Cond.code ({ cls := "com/example/tardy_post/tardypost/Message$Body", name := "of", desc := "([B)Lcom/example/tardy_post/tardypost/Message$Body;" } : Jvm.MethodName) prog_51_method_2_code (1 : Nat) (Option.some (Jvm.ClassFile.FieldType.object "com/example/tardy_post/tardypost/Message$Body"))).before args0 about1 = true := code_word (m := ⟨3, 1⟩) (meth := k3m1) (c := k3c1) (by decide +kernel) rfl rfl rfl (by decide +kernel)
set_option maxRecDepth 65536 in
theorem w_c6 : (Jvm.Cond.code ({ cls := "com/example/tardy_post/tardypost/Message$Body", name := "notKept", desc := "(J)Lcom/example/tardy_post/tardypost/Message$Body;" } : Jvm.MethodName) prog_51_method_3_code (2 : Nat) (Option.some (Jvm.ClassFile.FieldType.object "com/example/tardy_post/tardypost/Message$Body"))).before args0 about1 = true := code_word (m := ⟨3, 2⟩) (meth := k3m2) (c := k3c2) (by decide +kernel) rfl rfl rfl (by decide +kernel)
def codes1 : List Jvm.Cond := [Jvm.Cond.code x code maxLocals ret, Jvm.Cond.code ({ cls := "com/example/tardy_post/tardypost/Message$Body", name := "<init>", desc := "([BJ)V" } : Jvm.MethodName) prog_51_method_1_code (4 : Nat) (Option.none : Option Jvm.ClassFile.FieldType), Jvm.Cond.code ({ cls := "java/lang/Record", name := "<init>", desc := "()V" } : Jvm.MethodName) jdk_30_method_1_code (1 : Nat) (Option.none : Option Jvm.ClassFile.FieldType), Jvm.Cond.code ({ cls := "java/lang/Object", name := "<init>", desc := "()V" } : Jvm.MethodName) object_method_1_code (1 : Nat) (Option.none : Option Jvm.ClassFile.FieldType), Jvm.Cond.code ({ cls := "com/example/tardy_post/tardypost/Message$Body", name := "isKept", desc := "()Z" } : Jvm.MethodName) prog_51_method_4_code (1 : Nat) (Option.some Jvm.ClassFile.FieldType.boolean), Jvm.Cond.code ({ cls := "com/example/tardy_post/tardypost/Message$Body", name := "of", desc := "([B)Lcom/example/tardy_post/tardypost/Message$Body;" } : Jvm.MethodName) prog_51_method_2_code (1 : Nat) (Option.some (Jvm.ClassFile.FieldType.object "com/example/tardy_post/tardypost/Message$Body")), Jvm.Cond.code ({ cls := "com/example/tardy_post/tardypost/Message$Body", name := "notKept", desc := "(J)Lcom/example/tardy_post/tardypost/Message$Body;" } : Jvm.MethodName) prog_51_method_3_code (2 : Nat) (Option.some (Jvm.ClassFile.FieldType.object "com/example/tardy_post/tardypost/Message$Body"))]
set_option maxRecDepth 65536 in
theorem codes_eq : words1.filter isCode = codes1 := rfl
theorem w_codes : ∀ c ∈ words1.filter isCode, c.before args0 about1 = true := by
  rw [codes_eq]
  intro c hc
  simp only [codes1, List.mem_cons, List.not_mem_nil, or_false] at hc
  rcases hc with rfl | rfl | rfl | rfl | rfl | rfl | rfl
  · exact w_c0
  · exact w_c1
  · exact w_c2
  · exact w_c3
  · exact w_c4
  · exact w_c5
  · exact w_c6
set_option maxRecDepth 65536 in
theorem w_t1 : (words1.take 24).all (fun c => isCode c || c.before args0 about1) = true := by decide +kernel
set_option maxRecDepth 65536 in
theorem w_t2 : (words1.drop 24).all (fun c => isCode c || c.before args0 about1) = true := by decide +kernel
theorem w_tables : (allAtoms (Jvm.Cond.code x code maxLocals ret :: tables_1)).before args0 about1 = true := by
  rw [allAtoms_all]
  show words1.all (fun c => c.before args0 about1) = true
  refine all_split ?_ w_codes
  rw [← List.take_append_drop 24 words1, List.all_append, w_t1, w_t2]
  rfl
set_option maxRecDepth 65536 in
theorem w_case : (Jvm.Cond.and given_1 narrow_1).before args0 about1 = true := by decide +kernel
theorem w_applies : (headSpec (Jvm.Cond.code x code maxLocals ret :: tables_1) room_1).applies x e0.platform about1 = true :=
  (Spec.applies_iff w_frames).mpr ⟨w_running, w_runnable, w_alone, w_named, w_hears, w_ripe, w_room, w_tables⟩
theorem atStart : AtStart classFile x code maxLocals ret World_1 tables_1 room_1 Calls_1 rest_1 Pre_1 launch0 p0 e0 about1 theMethod args0 below0 :=
  ⟨lists_1, trivial, launch0.admits_env _ _ _, launch0.least_env, fairChoices_fair.cas, fairChoices_fair.clock, w_frames, w_args, w_heap, w_applies, trivial, trivial, w_case⟩
end start1
theorem witness_1 : WitnessClaimed_1 := ⟨start1.p0, start1.e0, start1.about1, start1.theMethod, start1.args0, start1.below0, start1.atStart⟩
end Jvm.Pilot.@@N@@
