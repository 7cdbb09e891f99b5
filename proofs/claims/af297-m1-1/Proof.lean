import JvmDerived
import JvmDerived.Pilot.@@N@@Statement
import JvmDerived.Pilot.@@N@@Code
set_option linter.unusedVariables false
set_option linter.unusedSimpArgs false
namespace Jvm.RoadKit
open Sem ClassFile Op Lib Jvm.Stand Jvm.Free Jvm.LawKit
section New
variable {p : Program} {l : Launch} {e : Env} {R : Room} {s : State} {m : MethodId} {args : Array Value} {below : List Frame} {meth : Method} {c : Code} {T : State} {locs : List Loc} {cells slots : Nat}
theorem retI (X : Stand p l e R s m args below meth c T locs cells slots) (hx : p.tables.exec = Jvm.exec) {pc : Nat} {Ls : Array Slot} {z : Int32} {rest : List Value} (hret : meth.sig.returnType = some .int) (hd : decode c.code pc = .ok (.ireturn, 1)) {fs : List Frame}
    (hl : ∀ (f : JFrame) (acts : List Action), f.method = m → f.locked = none → f.entered = [] → (doReturn e (T.setTop f) acts (some (.int z))).1 = T.setFrames fs) : Steps p.tables e below (T.setTop (mkF m pc Ls (.int z :: rest))) (T.setFrames fs) := by
  have hm' : T.vm.method? m = some meth := X.method'
  have hn : narrow .int (.int z) = .int z := rfl
  show Steps p.tables e below (T.setTop { method := m, pc := pc, locals := Ls, stack := _ :: rest, locked := none }) _
  jvm_step X.here [X.here.top, hx, hd, hm', hret, hn]
  first | (intro acts; rw [hl _ acts rfl rfl rfl]) | rw [hl _ _ rfl rfl rfl]
  exact Steps.refl _
end New
end Jvm.RoadKit
namespace Jvm.Pilot.@@N@@
open Jvm Jvm.ClassFile Sem Op Lib Jvm.Free Jvm.Stand Jvm.LawKit Jvm.RoadKit Bundle Jvm.Pilot.@@N@@.Jvm.D
/-- from the state F the walk ends as Q says (what it returns, the heap, the places written) -/
def Ends (p : Program) (e : Env) (below : List Frame) (s : State) (R : Room) (Q : Option Value → Heap → List Loc → Prop) (F : State) : Prop :=
  ∃ t o, Steps p.tables e below F t ∧ t.status = .running ∧ Ended t below o ∧ ∃ v L, o = .returned v ∧ Q v t.heap L ∧ FrameEnd s o t L R.cells R.slots
theorem Ends.of {p : Program} {e : Env} {below : List Frame} {s : State} {R : Room} {Q : Option Value → Heap → List Loc → Prop} {F F' : State} (h : ∀ t, Steps p.tables e below F' t → Steps p.tables e below F t) (k : Ends p e below s R Q F') : Ends p e below s R Q F := by
  obtain ⟨t, o, h1, r⟩ := k
  exact ⟨t, o, h t h1, r⟩
theorem Ends.st {p : Program} {e : Env} {below : List Frame} {s : State} {R : Room} {Q : Option Value → Heap → List Loc → Prop} {F F' : State} (h : Steps p.tables e below F F') (k : Ends p e below s R Q F') : Ends p e below s R Q F := Ends.of (fun _ q => h.trans q) k

def own_pw (j : Nat) : Int64 := Int64.ofNat (2 ^ j)
theorem own_pwi : ∀ j : Fin 8, (own_pw j.1).toInt = ((2 ^ j.1 : Nat) : Int) := by decide
theorem own_dbl (bs : Int64) (j : Nat) : (bs * own_pw j) * (2 : Int64) = bs * own_pw (j + 1) := by
  rw [Int64.mul_assoc]
  congr 1
  show Int64.ofNat (2 ^ j) * Int64.ofNat 2 = Int64.ofNat (2 ^ (j + 1))
  rw [← Int64.ofNat_mul, Nat.pow_succ]
theorem own_p0 (bs : Int64) : bs * own_pw 0 = bs := by
  show bs * Int64.ofNat 1 = bs
  exact Int64.mul_one bs
theorem own_lt {bs : Int64} (h1 : 1 ≤ bs.toInt) (h2 : bs.toInt ≤ 1099511627776) {j : Nat} (hj : j ≤ 6) : (bs * own_pw j) < ((64 : Int64) * bs) ↔ j < 6 := by
  have a1 := c_lmul bs (own_pw j)
  have a2 := c_lmul (64 : Int64) bs
  have a3 := own_pwi ⟨j, by omega⟩
  have b1 := rng64 (bs * own_pw j)
  have b2 := rng64 ((64 : Int64) * bs)
  have z : ((64 : Int64)).toInt = 64 := by decide
  rw [Int64.lt_iff_toInt_lt]
  rw [z] at a2
  simp only at a3
  rw [a3] at a1
  have hc : j = 0 ∨ j = 1 ∨ j = 2 ∨ j = 3 ∨ j = 4 ∨ j = 5 ∨ j = 6 := by omega
  rcases hc with rfl | rfl | rfl | rfl | rfl | rfl | rfl <;> omega
def own_steps (c : Int32) : Int32 := (if (6 : Int32) < (if c < (0 : Int32) then (0 : Int32) else c) then (6 : Int32) else (if c < (0 : Int32) then (0 : Int32) else c))
theorem own_steps_eq (c : Int32) : own_steps c = Int32.ofNat (min c.toNatClampNeg 6) := by
  apply Int32.toInt_inj.mp
  rw [Int32.toInt_ofNat_of_lt (by omega)]
  have hN : c.toNatClampNeg = c.toInt.toNat := rfl
  have z0 : ((0 : Int32)).toInt = 0 := by decide
  have z6 : ((6 : Int32)).toInt = 6 := by decide
  unfold own_steps
  by_cases h : c < (0 : Int32)
  · rw [if_pos h, if_neg (show ¬ (6 : Int32) < (0 : Int32) by decide), z0, hN]
    rw [Int32.lt_iff_toInt_lt, z0] at h
    omega
  · rw [if_neg h]
    rw [Int32.lt_iff_toInt_lt, z0] at h
    by_cases g : (6 : Int32) < c
    · rw [if_pos g, z6, hN]
      rw [Int32.lt_iff_toInt_lt, z6] at g
      omega
    · rw [if_neg g, hN]
      rw [Int32.lt_iff_toInt_lt, z6] at g
      omega
theorem own_two : ∀ x y : Fin 7, (if (6 : Int32) < (Int32.ofNat x.1 + Int32.ofNat y.1) then (6 : Int32) else (Int32.ofNat x.1 + Int32.ofNat y.1)) = Int32.ofNat (min (x.1 + y.1) 6) := by decide
theorem own_sh : ∀ k : Fin 7, (1 : Int64) <<< ((Int32.ofNat k.1) &&& 0x3f).toInt64 = own_pw k.1 := by decide
theorem own_shl (bs : Int64) {k : Nat} (hk : k ≤ 6) : bs <<< ((Int32.ofNat k) &&& 0x3f).toInt64 = bs * own_pw k := shlmL (own_sh ⟨k, by omega⟩)
theorem own_first (bs : Int64) (a : Int32) : (lcmpW (bs * own_pw (min (0 + a.toNatClampNeg) 6)) (bs <<< ((own_steps a) &&& 0x3f).toInt64)) = (0 : Int32) := by
  rw [own_steps_eq, own_shl bs (by omega), Nat.zero_add]
  exact (lw_eq _ _).mpr rfl
theorem own_second (bs : Int64) (a b : Int32) : (lcmpW (bs * own_pw (min (min (0 + a.toNatClampNeg) 6 + b.toNatClampNeg) 6)) (bs <<< ((if (6 : Int32) < (own_steps a + own_steps b) then (6 : Int32) else (own_steps a + own_steps b)) &&& 0x3f).toInt64)) = (0 : Int32) := by
  rw [own_steps_eq, own_steps_eq]
  have h := own_two ⟨min a.toNatClampNeg 6, by omega⟩ ⟨min b.toNatClampNeg 6, by omega⟩
  simp only at h
  rw [h, own_shl bs (by omega), Nat.zero_add]
  have e : min (min a.toNatClampNeg 6 + b.toNatClampNeg) 6 = min (min a.toNatClampNeg 6 + min b.toNatClampNeg 6) 6 := by omega
  rw [e]
  exact (lw_eq _ _).mpr rfl
theorem own_base (t : Int64) : 1 ≤ ((t &&& (1099511627775 : Int64)) + (1 : Int64)).toInt ∧ ((t &&& (1099511627775 : Int64)) + (1 : Int64)).toInt ≤ 1099511627776 := by
  have h := c_maskL t (1099511627775 : Int64) 40 (by decide) (by decide)
  have h2 := c_ladd (t &&& (1099511627775 : Int64)) (1 : Int64)
  have h3 := rng64 ((t &&& (1099511627775 : Int64)) + (1 : Int64))
  have z : ((1 : Int64)).toInt = 1 := by decide
  rw [z] at h2
  omega
theorem own_one (i : Nat) : Int32.ofNat i + (1 : Int32) = Int32.ofNat (i + 1) := (Int32.ofNat_add i 1).symm
theorem own_in {i : Nat} {n : Int32} (h : i ≤ n.toNatClampNeg) : Int32.ofNat i < n ↔ i < n.toNatClampNeg := by
  have hN : n.toNatClampNeg = n.toInt.toNat := rfl
  have hr := rng32 n
  rw [Int32.lt_iff_toInt_lt, Int32.toInt_ofNat_of_lt (by omega)]
  omega
theorem pd_0 : parseMethodDescriptor "(J)V" = some ⟨[.long], none⟩ := by decide +kernel
theorem pd_1 : parseMethodDescriptor "()V" = some ⟨[], none⟩ := by decide +kernel
theorem pd_2 : parseMethodDescriptor "(I)V" = some ⟨[.int], none⟩ := by decide +kernel
theorem pd_3 : parseMethodDescriptor "(I)I" = some ⟨[.int], some .int⟩ := by decide +kernel
theorem pd_4 : parseMethodDescriptor "(II)I" = some ⟨[.int, .int], some .int⟩ := by decide +kernel
theorem pd_5 : parseMethodDescriptor "()J" = some ⟨[], some .long⟩ := by decide +kernel
theorem d1_0 : decode prog_40_method_1_code 0 = .ok (.aload_n 0, 1) := by decide +kernel
theorem d1_1 : decode prog_40_method_1_code 1 = .ok (.invokespecial 1, 3) := by decide +kernel
theorem d1_4 : decode prog_40_method_1_code 4 = .ok (.aload_n 0, 1) := by decide +kernel
theorem d1_5 : decode prog_40_method_1_code 5 = .ok (.lload_n 1, 1) := by decide +kernel
theorem d1_6 : decode prog_40_method_1_code 6 = .ok (.putfield 7, 3) := by decide +kernel
theorem d1_9 : decode prog_40_method_1_code 9 = .ok (.aload_n 0, 1) := by decide +kernel
theorem d1_10 : decode prog_40_method_1_code 10 = .ok (.lload_n 1, 1) := by decide +kernel
theorem d1_11 : decode prog_40_method_1_code 11 = .ok (.putfield 13, 3) := by decide +kernel
theorem d1_14 : decode prog_40_method_1_code 14 = .ok (.return_, 1) := by decide +kernel
theorem pn_0 : plainName "com/example/farspan/farspan/core/LeaderTimeout" = true := by first | (simp [plainName, overriddenIn]; done) | decide +kernel
def Q1 (Z : State) (a1 : Addr) (q2 : Int64) (h0 : Heap) (n0 : Nat) (v : Option Value) (h : Heap) (L : List Loc) : Prop := v = none ∧ Fr n0 L ∧ Keep h0 h [a1] ∧ Exa Z h a1 "com/example/farspan/farspan/core/LeaderTimeout" ∧ Fld Z h a1 "com/example/farspan/farspan/core/LeaderTimeout" "leaderTimeoutMs" "J" (.long q2) ∧ Fld Z h a1 "com/example/farspan/farspan/core/LeaderTimeout" "currentMs" "J" (.long q2) ∧ Fld Z h a1 "com/example/farspan/farspan/core/LeaderTimeout" "decided" "I" (.int (0 : Int32))
set_option maxRecDepth 65536 in
set_option maxHeartbeats 40000000 in
theorem rm1 (l : Launch) (Z : State) (a0 : Array Value) (hw : ∀ d ∈ tables_1, d.before a0 Z = true) (ws : List Jvm.Cond) (a1 : Addr) (q2 : Int64) (h0 : Heap) (n0 : Nat) (Z0 : n0 ≤ h0.size) (E_a : Exa Z h0 a1 "com/example/farspan/farspan/core/LeaderTimeout") (F_l : Fld Z h0 a1 "com/example/farspan/farspan/core/LeaderTimeout" "leaderTimeoutMs" "J" (.long (0 : Int64))) (F_c : Fld Z h0 a1 "com/example/farspan/farspan/core/LeaderTimeout" "currentMs" "J" (.long (0 : Int64))) (F_d : Fld Z h0 a1 "com/example/farspan/farspan/core/LeaderTimeout" "decided" "I" (.int (0 : Int32))) (g_a : n0 ≤ a1) :
    MetFree l (⟨"com/example/farspan/farspan/core/LeaderTimeout", "<init>", "(J)V"⟩ : MethodName) (head1 (Jvm.Cond.code (⟨"com/example/farspan/farspan/core/LeaderTimeout", "<init>", "(J)V"⟩ : MethodName) prog_40_method_1_code 3 none :: ws) ({ frames := 1, cells := 0, slots := 0, locals := 12 } : Room)) (fun a U => a = #[(.ref a1), (.long q2)] ∧ Z.Warmed39 U.vm ∧ U.heap = h0) (fun _ _ _ _ _ => True) (fun _ U o U' => ∃ v L, o = .returned v ∧ Q1 Z a1 q2 h0 n0 v U'.heap L ∧ FrameEnd U o U' L ({ frames := 1, cells := 0, slots := 0, locals := 12 } : Room).cells ({ frames := 1, cells := 0, slots := 0, locals := 12 } : Room).slots) := by
  refine MetFree.of_bodySF (plainFor_of_name pn_0) hisR ?_
  intro p e s m args below meth c s₁ Bd hml0 hP hK
  obtain ⟨rfl, hZ, hh⟩ := hP
  have hx := Bd.exec
  have hby := Bd.bytes
  have hml : c.maxLocals = 3 := hml0
  have hown : s.vm.findClass "com/example/farspan/farspan/core/LeaderTimeout" = some m.cls := findClass_of_methodNamed Bd.named
  have hnm := (name_of_methodNamed Bd.named Bd.method).1
  have X0 : Stand p l e ({ frames := 1, cells := 0, slots := 0, locals := 12 } : Room) s m #[(.ref a1), (.long q2)] below meth c s₁ [] 0 0 := Stand.of_body Bd
  have e0 : s₁.heap = h0 := by rw [← hh, Bd.state]; rfl
  have N0 := Fr.nil n0
  have eF : entryFrame m #[(.ref a1), (.long q2)] 3 = mkF m 0 #[.val (.ref a1), .val (.long q2), .second] [] := by first | (simp [entryFrame, mkF, argsToLocals, Value.category]; done) | rfl
  show Ends p e below s ({ frames := 1, cells := 0, slots := 0, locals := 12 } : Room) (Q1 Z a1 q2 h0 n0) (s₁.setTop (entryFrame m #[(.ref a1), (.long q2)] 3))
  rw [eF]
  refine Ends.of (F' := s₁.setTop (mkF m 1 #[.val (.ref a1), .val (.long q2), .second] [(.ref a1)])) (fun _ kt => ?_) ?_
  · show Steps p.tables e below (s₁.setTop (mkF m 0 #[.val (.ref a1), .val (.long q2), .second] [])) _
    refine XS.aloadN X0.here hx rfl (hb hby d1_0) rfl rfl ?_
    exact kt
  obtain ⟨T1, X1, e1, st1⟩ := initO X0 hx hZ hown (hw _ (List.mem_of_getElem? (i := 7) rfl)) (hw _ (List.mem_of_getElem? (i := 8) rfl)) (hw _ (List.mem_of_getElem? (i := 9) rfl)) e0 (g := (mkF m 1 #[.val (.ref a1), .val (.long q2), .second] [(.ref a1)])) rfl (by rw [hml]; rfl) rfl (hb hby d1_1) (by decide) (W := 0) (by show 2 * 0 + _ ≤ _; exact Nat.le_of_eq rfl) (by decide)
  refine Ends.of st1 ?_
  refine Ends.of (F' := T1.setTop (mkF m 6 #[.val (.ref a1), .val (.long q2), .second] [(.long q2), (.ref a1)])) (fun _ kt => ?_) ?_
  · show Steps p.tables e below (T1.setTop (mkF m 4 #[.val (.ref a1), .val (.long q2), .second] [])) _
    refine XS.aloadN X1.here hx rfl (hb hby d1_4) rfl rfl ?_
    show Steps p.tables e below (T1.setTop (mkF m 5 #[.val (.ref a1), .val (.long q2), .second] [(.ref a1)])) _
    refine XS.lloadN X1.here hx rfl (hb hby d1_5) rfl ?_
    exact kt
  obtain ⟨T2, h2, X2, e2, W2, st2⟩ := putF X1 hx hZ hown (host := "") (Or.inl (hw _ (List.mem_of_getElem? (i := 10) rfl))) Via.refl e1 F_l E_a (Or.inr ⟨(hw _ (List.mem_of_getElem? (i := 11) rfl)), rfl, hnm⟩) (hw _ (List.mem_of_getElem? (i := 2) rfl)) (ty := .long) (by decide) rfl rfl (g := (mkF m 6 #[.val (.ref a1), .val (.long q2), .second] [(.long q2), (.ref a1)])) rfl rfl (hb hby d1_6)
  refine Ends.of st2 ?_
  have N2 := Fr.snoc X2 N0 g_a
  have F1leaderTimeoutMs := F_l.same W2
  have F1currentMs := F_c.other W2 (Or.inr (slot_ne (Or.inl (hw _ (List.mem_of_getElem? (i := 13) rfl))) (Or.inr (hw _ (List.mem_of_getElem? (i := 11) rfl))) (by decide) (t := .long) (t' := .long) (by decide) (by decide)))
  have F1decided := F_d.other W2 (Or.inr (slot_ne (Or.inl (hw _ (List.mem_of_getElem? (i := 22) rfl))) (Or.inr (hw _ (List.mem_of_getElem? (i := 11) rfl))) (by decide) (t := .int) (t' := .long) (by decide) (by decide)))
  have E1 := E_a.wr W2
  have K1 : Keep h0 h2 [a1] := (Keep.refl _ _).wr W2 (Or.inl (List.mem_of_getElem? (i := 0) rfl))
  refine Ends.of (F' := T2.setTop (mkF m 11 #[.val (.ref a1), .val (.long q2), .second] [(.long q2), (.ref a1)])) (fun _ kt => ?_) ?_
  · show Steps p.tables e below (T2.setTop (mkF m 9 #[.val (.ref a1), .val (.long q2), .second] [])) _
    refine XS.aloadN X2.here hx rfl (hb hby d1_9) rfl rfl ?_
    show Steps p.tables e below (T2.setTop (mkF m 10 #[.val (.ref a1), .val (.long q2), .second] [(.ref a1)])) _
    refine XS.lloadN X2.here hx rfl (hb hby d1_10) rfl ?_
    exact kt
  obtain ⟨T3, h3, X3, e3, W3, st3⟩ := putF X2 hx hZ hown (host := "") (Or.inl (hw _ (List.mem_of_getElem? (i := 12) rfl))) Via.refl e2 F1currentMs E1 (Or.inl (hw _ (List.mem_of_getElem? (i := 13) rfl))) (hw _ (List.mem_of_getElem? (i := 2) rfl)) (ty := .long) (by decide) rfl rfl (g := (mkF m 11 #[.val (.ref a1), .val (.long q2), .second] [(.long q2), (.ref a1)])) rfl rfl (hb hby d1_11)
  refine Ends.of st3 ?_
  have N3 := Fr.snoc X3 N2 g_a
  have F2leaderTimeoutMs := F1leaderTimeoutMs.other W3 (Or.inr (slot_ne (Or.inr (hw _ (List.mem_of_getElem? (i := 11) rfl))) (Or.inl (hw _ (List.mem_of_getElem? (i := 13) rfl))) (by decide) (t := .long) (t' := .long) (by decide) (by decide)))
  have F2currentMs := F1currentMs.same W3
  have F2decided := F1decided.other W3 (Or.inr (slot_ne (Or.inl (hw _ (List.mem_of_getElem? (i := 22) rfl))) (Or.inl (hw _ (List.mem_of_getElem? (i := 13) rfl))) (by decide) (t := .int) (t' := .long) (by decide) (by decide)))
  have E2 := E1.wr W3
  have K2 : Keep h0 h3 [a1] := K1.wr W3 (Or.inl (List.mem_of_getElem? (i := 0) rfl))
  rw [← e3] at F2leaderTimeoutMs F2currentMs F2decided E2 K2
  obtain ⟨fs, hr, hrun, hended, hW, hsame⟩ := X3.leave (v := none) (fun _ => rfl)
  exact ⟨_, _, X3.returnOut hx Bd.returns (hb hby d1_14) hr, hrun, hended, _, _, rfl, ⟨rfl, N3, K2, E2, F2leaderTimeoutMs, F2currentMs, F2decided⟩, ⟨_, rfl⟩, hW, hsame.mono (by decide) (by decide)⟩
theorem d3_0 : decode prog_40_method_3_code 0 = .ok (.iconst 0, 1) := by decide +kernel
theorem d3_1 : decode prog_40_method_3_code 1 = .ok (.istore_n 2, 1) := by decide +kernel
theorem d3_2 : decode prog_40_method_3_code 2 = .ok (.iload_n 2, 1) := by decide +kernel
theorem d3_3 : decode prog_40_method_3_code 3 = .ok (.iload_n 1, 1) := by decide +kernel
theorem d3_4 : decode prog_40_method_3_code 4 = .ok (.if_icmp .ge 37, 3) := by decide +kernel
theorem d3_7 : decode prog_40_method_3_code 7 = .ok (.aload_n 0, 1) := by decide +kernel
theorem d3_8 : decode prog_40_method_3_code 8 = .ok (.getfield 13, 3) := by decide +kernel
theorem d3_11 : decode prog_40_method_3_code 11 = .ok (.ldc2_w 16, 3) := by decide +kernel
theorem d3_14 : decode prog_40_method_3_code 14 = .ok (.aload_n 0, 1) := by decide +kernel
theorem d3_15 : decode prog_40_method_3_code 15 = .ok (.getfield 7, 3) := by decide +kernel
theorem d3_18 : decode prog_40_method_3_code 18 = .ok (.lmul, 1) := by decide +kernel
theorem d3_19 : decode prog_40_method_3_code 19 = .ok (.lcmp, 1) := by decide +kernel
theorem d3_20 : decode prog_40_method_3_code 20 = .ok (.ifCond .ge 21, 3) := by decide +kernel
theorem d3_23 : decode prog_40_method_3_code 23 = .ok (.aload_n 0, 1) := by decide +kernel
theorem d3_24 : decode prog_40_method_3_code 24 = .ok (.dup, 1) := by decide +kernel
theorem d3_25 : decode prog_40_method_3_code 25 = .ok (.getfield 13, 3) := by decide +kernel
theorem d3_28 : decode prog_40_method_3_code 28 = .ok (.ldc2_w 18, 3) := by decide +kernel
theorem d3_31 : decode prog_40_method_3_code 31 = .ok (.lmul, 1) := by decide +kernel
theorem d3_32 : decode prog_40_method_3_code 32 = .ok (.putfield 13, 3) := by decide +kernel
theorem d3_35 : decode prog_40_method_3_code 35 = .ok (.iinc 2 1, 3) := by decide +kernel
theorem d3_38 : decode prog_40_method_3_code 38 = .ok (.goto (-36), 3) := by decide +kernel
theorem d3_41 : decode prog_40_method_3_code 41 = .ok (.aload_n 0, 1) := by decide +kernel
theorem d3_42 : decode prog_40_method_3_code 42 = .ok (.iconst 0, 1) := by decide +kernel
theorem d3_43 : decode prog_40_method_3_code 43 = .ok (.putfield 20, 3) := by decide +kernel
theorem d3_46 : decode prog_40_method_3_code 46 = .ok (.return_, 1) := by decide +kernel
def Q3 (Z : State) (a1 : Addr) (p2 : Int32) (bs : Int64) (j0 : Nat) (u0 : Value) (h0 : Heap) (n0 : Nat) (v : Option Value) (h : Heap) (L : List Loc) : Prop := v = none ∧ Fr n0 L ∧ Keep h0 h [a1] ∧ Exa Z h a1 "com/example/farspan/farspan/core/LeaderTimeout" ∧ Fld Z h a1 "com/example/farspan/farspan/core/LeaderTimeout" "leaderTimeoutMs" "J" (.long bs) ∧ Fld Z h a1 "com/example/farspan/farspan/core/LeaderTimeout" "currentMs" "J" (.long (bs * own_pw (min (j0 + p2.toNatClampNeg) 6))) ∧ Fld Z h a1 "com/example/farspan/farspan/core/LeaderTimeout" "decided" "I" (.int (0 : Int32))
set_option maxRecDepth 65536 in
set_option maxHeartbeats 40000000 in
theorem rm3 (l : Launch) (Z : State) (a0 : Array Value) (hw : ∀ d ∈ tables_1, d.before a0 Z = true) (ws : List Jvm.Cond) (a1 : Addr) (p2 : Int32) (bs : Int64) (j0 : Nat) (u0 : Value) (h0 : Heap) (n0 : Nat) (Z0 : n0 ≤ h0.size) (hb1 : 1 ≤ bs.toInt) (hb2 : bs.toInt ≤ 1099511627776) (hj0 : j0 ≤ 6) (E_a : Exa Z h0 a1 "com/example/farspan/farspan/core/LeaderTimeout") (F_l : Fld Z h0 a1 "com/example/farspan/farspan/core/LeaderTimeout" "leaderTimeoutMs" "J" (.long bs)) (F_c : Fld Z h0 a1 "com/example/farspan/farspan/core/LeaderTimeout" "currentMs" "J" (.long (bs * own_pw j0))) (F_d : Fld Z h0 a1 "com/example/farspan/farspan/core/LeaderTimeout" "decided" "I" u0) (g_a : n0 ≤ a1) :
    MetFree l (⟨"com/example/farspan/farspan/core/LeaderTimeout", "changed", "(I)V"⟩ : MethodName) (head1 (Jvm.Cond.code (⟨"com/example/farspan/farspan/core/LeaderTimeout", "changed", "(I)V"⟩ : MethodName) prog_40_method_3_code 3 none :: ws) ({ frames := 0, cells := 0, slots := 0, locals := 0 } : Room)) (fun a U => a = #[(.ref a1), (.int p2)] ∧ Z.Warmed39 U.vm ∧ U.heap = h0) (fun _ _ _ _ _ => True) (fun _ U o U' => ∃ v L, o = .returned v ∧ Q3 Z a1 p2 bs j0 u0 h0 n0 v U'.heap L ∧ FrameEnd U o U' L ({ frames := 0, cells := 0, slots := 0, locals := 0 } : Room).cells ({ frames := 0, cells := 0, slots := 0, locals := 0 } : Room).slots) := by
  refine MetFree.of_bodySF (plainFor_of_name pn_0) hisR ?_
  intro p e s m args below meth c s₁ Bd hml0 hP hK
  obtain ⟨rfl, hZ, hh⟩ := hP
  have hx := Bd.exec
  have hby := Bd.bytes
  have hml : c.maxLocals = 3 := hml0
  have hown : s.vm.findClass "com/example/farspan/farspan/core/LeaderTimeout" = some m.cls := findClass_of_methodNamed Bd.named
  have hnm := (name_of_methodNamed Bd.named Bd.method).1
  have X0 : Stand p l e ({ frames := 0, cells := 0, slots := 0, locals := 0 } : Room) s m #[(.ref a1), (.int p2)] below meth c s₁ [] 0 0 := Stand.of_body Bd
  have e0 : s₁.heap = h0 := by rw [← hh, Bd.state]; rfl
  have N0 := Fr.nil n0
  have eF : entryFrame m #[(.ref a1), (.int p2)] 3 = mkF m 0 #[.val (.ref a1), .val (.int p2), .unset] [] := by first | (simp [entryFrame, mkF, argsToLocals, Value.category]; done) | rfl
  show Ends p e below s ({ frames := 0, cells := 0, slots := 0, locals := 0 } : Room) (Q3 Z a1 p2 bs j0 u0 h0 n0) (s₁.setTop (entryFrame m #[(.ref a1), (.int p2)] 3))
  rw [eF]
  have loop : ∀ (d i j : Nat) (Tb : State) (lb : List Loc) (hB : Heap) (ub : Value), j + d = 7 → j ≤ 6 → j = j0 + i → i ≤ p2.toNatClampNeg → Stand p l e ({ frames := 0, cells := 0, slots := 0, locals := 0 } : Room) s m #[(.ref a1), (.int p2)] below meth c Tb lb 0 0 → Tb.heap = hB → Fr n0 lb → Keep h0 hB [a1] → Exa Z hB a1 "com/example/farspan/farspan/core/LeaderTimeout" → Fld Z hB a1 "com/example/farspan/farspan/core/LeaderTimeout" "leaderTimeoutMs" "J" (.long bs) → Fld Z hB a1 "com/example/farspan/farspan/core/LeaderTimeout" "currentMs" "J" (.long (bs * own_pw j)) → Fld Z hB a1 "com/example/farspan/farspan/core/LeaderTimeout" "decided" "I" ub → Ends p e below s ({ frames := 0, cells := 0, slots := 0, locals := 0 } : Room) (Q3 Z a1 p2 bs j0 u0 h0 n0) (Tb.setTop (mkF m 2 #[.val (.ref a1), .val (.int p2), .val (.int (Int32.ofNat i))] [])) := by
    intro d
    induction d with
    | zero => intro i j Tb lb hB ub hd hj; omega
    | succ d ih =>
      intro i j Tb lb hB ub hd hj hij hi Xb eb Nb Kb Eb Flb Fcb Fdb
      refine Ends.of (F' := Tb.setTop (mkF m 4 #[.val (.ref a1), .val (.int p2), .val (.int (Int32.ofNat i))] [(.int p2), (.int (Int32.ofNat i))])) (fun _ kt => ?_) ?_
      · show Steps p.tables e below (Tb.setTop (mkF m 2 #[.val (.ref a1), .val (.int p2), .val (.int (Int32.ofNat i))] [])) _
        refine XS.iloadN Xb.here hx rfl (hb hby d3_2) rfl ?_
        show Steps p.tables e below (Tb.setTop (mkF m 3 #[.val (.ref a1), .val (.int p2), .val (.int (Int32.ofNat i))] [(.int (Int32.ofNat i))])) _
        refine XS.iloadN Xb.here hx rfl (hb hby d3_3) rfl ?_
        exact kt
      by_cases hin : i < p2.toNatClampNeg
      · refine Ends.of (F' := Tb.setTop (mkF m 8 #[.val (.ref a1), .val (.int p2), .val (.int (Int32.ofNat i))] [(.ref a1)])) (fun _ kt => ?_) ?_
        · show Steps p.tables e below (Tb.setTop (mkF m 4 #[.val (.ref a1), .val (.int p2), .val (.int (Int32.ofNat i))] [(.int p2), (.int (Int32.ofNat i))])) _
          refine XS.icmpNo Xb.here hx rfl (hb hby d3_4) rfl (tlt ((own_in hi).mpr hin)).2.1 ?_
          show Steps p.tables e below (Tb.setTop (mkF m 7 #[.val (.ref a1), .val (.int p2), .val (.int (Int32.ofNat i))] [])) _
          refine XS.aloadN Xb.here hx rfl (hb hby d3_7) rfl rfl ?_
          exact kt
        obtain ⟨T5, X5, e5, st5⟩ := getF Xb hx hZ hown (host := "") (Or.inl (hw _ (List.mem_of_getElem? (i := 12) rfl))) Via.refl eb Fcb (g := (mkF m 8 #[.val (.ref a1), .val (.int p2), .val (.int (Int32.ofNat i))] [(.ref a1)])) rfl rfl (hb hby d3_8)
        refine Ends.of st5 ?_
        refine Ends.of (F' := T5.setTop (mkF m 15 #[.val (.ref a1), .val (.int p2), .val (.int (Int32.ofNat i))] [(.ref a1), (.long (64 : Int64)), (.long (bs * own_pw j))])) (fun _ kt => ?_) ?_
        · show Steps p.tables e below (T5.setTop (mkF m 11 #[.val (.ref a1), .val (.int p2), .val (.int (Int32.ofNat i))] [(.long (bs * own_pw j))])) _
          refine X5.ldc2Long hx hown (mvT hZ (hw _ (List.mem_of_getElem? (i := 19) rfl))) (g := (mkF m 11 #[.val (.ref a1), .val (.int p2), .val (.int (Int32.ofNat i))] [(.long (bs * own_pw j))])) rfl (hb hby d3_11) _ ?_
          show Steps p.tables e below (T5.setTop (mkF m 14 #[.val (.ref a1), .val (.int p2), .val (.int (Int32.ofNat i))] [(.long (64 : Int64)), (.long (bs * own_pw j))])) _
          refine XS.aloadN X5.here hx rfl (hb hby d3_14) rfl rfl ?_
          exact kt
        obtain ⟨T6, X6, e6, st6⟩ := getF X5 hx hZ hown (host := "") (Or.inl (hw _ (List.mem_of_getElem? (i := 10) rfl))) Via.refl e5 Flb (g := (mkF m 15 #[.val (.ref a1), .val (.int p2), .val (.int (Int32.ofNat i))] [(.ref a1), (.long (64 : Int64)), (.long (bs * own_pw j))])) rfl rfl (hb hby d3_15)
        refine Ends.of st6 ?_
        refine Ends.of (F' := T6.setTop (mkF m 20 #[.val (.ref a1), .val (.int p2), .val (.int (Int32.ofNat i))] [(.int (lcmpW (bs * own_pw j) ((64 : Int64) * bs)))])) (fun _ kt => ?_) ?_
        · show Steps p.tables e below (T6.setTop (mkF m 18 #[.val (.ref a1), .val (.int p2), .val (.int (Int32.ofNat i))] [(.long bs), (.long (64 : Int64)), (.long (bs * own_pw j))])) _
          refine XS.lmul X6.here hx rfl (hb hby d3_18) rfl ?_
          show Steps p.tables e below (T6.setTop (mkF m 19 #[.val (.ref a1), .val (.int p2), .val (.int (Int32.ofNat i))] [(.long ((64 : Int64) * bs)), (.long (bs * own_pw j))])) _
          refine XS.lcmp X6.here hx rfl (hb hby d3_19) rfl ?_
          exact kt
        by_cases hj6 : j < 6
        · refine Ends.of (F' := T6.setTop (mkF m 25 #[.val (.ref a1), .val (.int p2), .val (.int (Int32.ofNat i))] [(.ref a1), (.ref a1)])) (fun _ kt => ?_) ?_
          · show Steps p.tables e below (T6.setTop (mkF m 20 #[.val (.ref a1), .val (.int p2), .val (.int (Int32.ofNat i))] [(.int (lcmpW (bs * own_pw j) ((64 : Int64) * bs)))])) _
            refine XS.ifNo X6.here hx rfl (hb hby d3_20) rfl ((if0 _ _).trans (tlt ((lw_lt _ _).mpr ((own_lt hb1 hb2 hj).mpr hj6))).2.1) ?_
            show Steps p.tables e below (T6.setTop (mkF m 23 #[.val (.ref a1), .val (.int p2), .val (.int (Int32.ofNat i))] [])) _
            refine XS.aloadN X6.here hx rfl (hb hby d3_23) rfl rfl ?_
            show Steps p.tables e below (T6.setTop (mkF m 24 #[.val (.ref a1), .val (.int p2), .val (.int (Int32.ofNat i))] [(.ref a1)])) _
            refine XS.dup X6.here hx rfl (hb hby d3_24) rfl rfl ?_
            exact kt
          obtain ⟨T8, X8, e8, st8⟩ := getF X6 hx hZ hown (host := "") (Or.inl (hw _ (List.mem_of_getElem? (i := 12) rfl))) Via.refl e6 Fcb (g := (mkF m 25 #[.val (.ref a1), .val (.int p2), .val (.int (Int32.ofNat i))] [(.ref a1), (.ref a1)])) rfl rfl (hb hby d3_25)
          refine Ends.of st8 ?_
          refine Ends.of (F' := T8.setTop (mkF m 32 #[.val (.ref a1), .val (.int p2), .val (.int (Int32.ofNat i))] [(.long ((bs * own_pw j) * (2 : Int64))), (.ref a1)])) (fun _ kt => ?_) ?_
          · show Steps p.tables e below (T8.setTop (mkF m 28 #[.val (.ref a1), .val (.int p2), .val (.int (Int32.ofNat i))] [(.long (bs * own_pw j)), (.ref a1)])) _
            refine X8.ldc2Long hx hown (mvT hZ (hw _ (List.mem_of_getElem? (i := 20) rfl))) (g := (mkF m 28 #[.val (.ref a1), .val (.int p2), .val (.int (Int32.ofNat i))] [(.long (bs * own_pw j)), (.ref a1)])) rfl (hb hby d3_28) _ ?_
            show Steps p.tables e below (T8.setTop (mkF m 31 #[.val (.ref a1), .val (.int p2), .val (.int (Int32.ofNat i))] [(.long (2 : Int64)), (.long (bs * own_pw j)), (.ref a1)])) _
            refine XS.lmul X8.here hx rfl (hb hby d3_31) rfl ?_
            exact kt
          obtain ⟨T9, h9, X9, e9, W9, st9⟩ := putF X8 hx hZ hown (host := "") (Or.inl (hw _ (List.mem_of_getElem? (i := 12) rfl))) Via.refl e8 Fcb Eb (Or.inl (hw _ (List.mem_of_getElem? (i := 13) rfl))) (hw _ (List.mem_of_getElem? (i := 2) rfl)) (ty := .long) (by decide) rfl rfl (g := (mkF m 32 #[.val (.ref a1), .val (.int p2), .val (.int (Int32.ofNat i))] [(.long ((bs * own_pw j) * (2 : Int64))), (.ref a1)])) rfl rfl (hb hby d3_32)
          refine Ends.of st9 ?_
          have N9 := Fr.snoc X9 Nb g_a
          have Fl8 := Flb.other W9 (Or.inr (slot_ne (Or.inr (hw _ (List.mem_of_getElem? (i := 11) rfl))) (Or.inl (hw _ (List.mem_of_getElem? (i := 13) rfl))) (by decide) (t := .long) (t' := .long) (by decide) (by decide)))
          have Fd8 := Fdb.other W9 (Or.inr (slot_ne (Or.inl (hw _ (List.mem_of_getElem? (i := 22) rfl))) (Or.inl (hw _ (List.mem_of_getElem? (i := 13) rfl))) (by decide) (t := .int) (t' := .long) (by decide) (by decide)))
          have Fc8 := Fcb.same W9
          rw [own_dbl] at Fc8
          have E8 := Eb.wr W9
          have K8 : Keep h0 h9 [a1] := Kb.wr W9 (Or.inl (List.mem_of_getElem? (i := 0) rfl))
          refine Ends.of (F' := T9.setTop (mkF m 2 #[.val (.ref a1), .val (.int p2), .val (.int ((Int32.ofNat i) + (1 : Int32)))] [])) (fun _ kt => ?_) ?_
          · show Steps p.tables e below (T9.setTop (mkF m 35 #[.val (.ref a1), .val (.int p2), .val (.int (Int32.ofNat i))] [])) _
            refine XS.iinc X9.here hx rfl (hb hby d3_35) rfl (l' := #[.val (.ref a1), .val (.int p2), .val (.int ((Int32.ofNat i) + (1 : Int32)))]) rfl ?_
            show Steps p.tables e below (T9.setTop (mkF m 38 #[.val (.ref a1), .val (.int p2), .val (.int ((Int32.ofNat i) + (1 : Int32)))] [])) _
            refine XS.goto X9.here hx rfl (pc0 := 38) (pc' := 2) rfl (hb hby d3_38) (by decide) (by decide) ?_
            exact kt
          rw [own_one]
          exact ih (i + 1) (j + 1) _ _ _ _ (by omega) (by omega) (by omega) (by omega) X9 e9 N9 K8 E8 Fl8 Fc8 Fd8
        · refine Ends.of (F' := T6.setTop (mkF m 43 #[.val (.ref a1), .val (.int p2), .val (.int (Int32.ofNat i))] [(.int (0 : Int32)), (.ref a1)])) (fun _ kt => ?_) ?_
          · show Steps p.tables e below (T6.setTop (mkF m 20 #[.val (.ref a1), .val (.int p2), .val (.int (Int32.ofNat i))] [(.int (lcmpW (bs * own_pw j) ((64 : Int64) * bs)))])) _
            refine XS.ifYes X6.here hx rfl (pc0 := 20) (pc' := 41) rfl (hb hby d3_20) rfl ((if0 _ _).trans (flt (mt (fun q => (own_lt hb1 hb2 hj).mp ((lw_lt _ _).mp q)) hj6)).2.1) (by decide) (by decide) ?_
            show Steps p.tables e below (T6.setTop (mkF m 41 #[.val (.ref a1), .val (.int p2), .val (.int (Int32.ofNat i))] [])) _
            refine XS.aloadN X6.here hx rfl (hb hby d3_41) rfl rfl ?_
            show Steps p.tables e below (T6.setTop (mkF m 42 #[.val (.ref a1), .val (.int p2), .val (.int (Int32.ofNat i))] [(.ref a1)])) _
            refine XS.iconst X6.here hx rfl (hb hby d3_42) ?_
            exact kt
          obtain ⟨T7, h7, X7, e7, W7, st7⟩ := putF X6 hx hZ hown (host := "") (Or.inl (hw _ (List.mem_of_getElem? (i := 21) rfl))) Via.refl e6 Fdb Eb (Or.inl (hw _ (List.mem_of_getElem? (i := 22) rfl))) (hw _ (List.mem_of_getElem? (i := 2) rfl)) (ty := .int) (by decide) rfl rfl (g := (mkF m 43 #[.val (.ref a1), .val (.int p2), .val (.int (Int32.ofNat i))] [(.int (0 : Int32)), (.ref a1)])) rfl rfl (hb hby d3_43)
          refine Ends.of st7 ?_
          have N7 := Fr.snoc X7 Nb g_a
          have Fl9 := Flb.other W7 (Or.inr (slot_ne (Or.inr (hw _ (List.mem_of_getElem? (i := 11) rfl))) (Or.inl (hw _ (List.mem_of_getElem? (i := 22) rfl))) (by decide) (t := .long) (t' := .int) (by decide) (by decide)))
          have Fc9 := Fcb.other W7 (Or.inr (slot_ne (Or.inl (hw _ (List.mem_of_getElem? (i := 13) rfl))) (Or.inl (hw _ (List.mem_of_getElem? (i := 22) rfl))) (by decide) (t := .long) (t' := .int) (by decide) (by decide)))
          have Fd9 := Fdb.same W7
          have E9 := Eb.wr W7
          have K9 : Keep h0 h7 [a1] := Kb.wr W7 (Or.inl (List.mem_of_getElem? (i := 0) rfl))
          rw [← e7] at Fl9 Fc9 Fd9 E9 K9
          have ej : j = min (j0 + p2.toNatClampNeg) 6 := by omega
          rw [ej] at Fc9
          obtain ⟨fs, hr, hrun, hended, hW, hsame⟩ := X7.leave (v := none) (fun _ => rfl)
          exact ⟨_, _, X7.returnOut hx Bd.returns (hb hby d3_46) hr, hrun, hended, _, _, rfl, ⟨rfl, N7, K9, E9, Fl9, Fc9, Fd9⟩, ⟨_, rfl⟩, hW, hsame.mono (by decide) (by decide)⟩
      · refine Ends.of (F' := Tb.setTop (mkF m 43 #[.val (.ref a1), .val (.int p2), .val (.int (Int32.ofNat i))] [(.int (0 : Int32)), (.ref a1)])) (fun _ kt => ?_) ?_
        · show Steps p.tables e below (Tb.setTop (mkF m 4 #[.val (.ref a1), .val (.int p2), .val (.int (Int32.ofNat i))] [(.int p2), (.int (Int32.ofNat i))])) _
          refine XS.icmpYes Xb.here hx rfl (pc0 := 4) (pc' := 41) rfl (hb hby d3_4) rfl (flt (mt (own_in hi).mp hin)).2.1 (by decide) (by decide) ?_
          show Steps p.tables e below (Tb.setTop (mkF m 41 #[.val (.ref a1), .val (.int p2), .val (.int (Int32.ofNat i))] [])) _
          refine XS.aloadN Xb.here hx rfl (hb hby d3_41) rfl rfl ?_
          show Steps p.tables e below (Tb.setTop (mkF m 42 #[.val (.ref a1), .val (.int p2), .val (.int (Int32.ofNat i))] [(.ref a1)])) _
          refine XS.iconst Xb.here hx rfl (hb hby d3_42) ?_
          exact kt
        obtain ⟨T4, h4, X4, e4, W4, st4⟩ := putF Xb hx hZ hown (host := "") (Or.inl (hw _ (List.mem_of_getElem? (i := 21) rfl))) Via.refl eb Fdb Eb (Or.inl (hw _ (List.mem_of_getElem? (i := 22) rfl))) (hw _ (List.mem_of_getElem? (i := 2) rfl)) (ty := .int) (by decide) rfl rfl (g := (mkF m 43 #[.val (.ref a1), .val (.int p2), .val (.int (Int32.ofNat i))] [(.int (0 : Int32)), (.ref a1)])) rfl rfl (hb hby d3_43)
        refine Ends.of st4 ?_
        have N4 := Fr.snoc X4 Nb g_a
        have Fl9 := Flb.other W4 (Or.inr (slot_ne (Or.inr (hw _ (List.mem_of_getElem? (i := 11) rfl))) (Or.inl (hw _ (List.mem_of_getElem? (i := 22) rfl))) (by decide) (t := .long) (t' := .int) (by decide) (by decide)))
        have Fc9 := Fcb.other W4 (Or.inr (slot_ne (Or.inl (hw _ (List.mem_of_getElem? (i := 13) rfl))) (Or.inl (hw _ (List.mem_of_getElem? (i := 22) rfl))) (by decide) (t := .long) (t' := .int) (by decide) (by decide)))
        have Fd9 := Fdb.same W4
        have E9 := Eb.wr W4
        have K9 : Keep h0 h4 [a1] := Kb.wr W4 (Or.inl (List.mem_of_getElem? (i := 0) rfl))
        rw [← e4] at Fl9 Fc9 Fd9 E9 K9
        have ej : j = min (j0 + p2.toNatClampNeg) 6 := by omega
        rw [ej] at Fc9
        obtain ⟨fs, hr, hrun, hended, hW, hsame⟩ := X4.leave (v := none) (fun _ => rfl)
        exact ⟨_, _, X4.returnOut hx Bd.returns (hb hby d3_46) hr, hrun, hended, _, _, rfl, ⟨rfl, N4, K9, E9, Fl9, Fc9, Fd9⟩, ⟨_, rfl⟩, hW, hsame.mono (by decide) (by decide)⟩
  refine Ends.of (F' := s₁.setTop (mkF m 2 #[.val (.ref a1), .val (.int p2), .val (.int (0 : Int32))] [])) (fun _ kt => ?_) ?_
  · show Steps p.tables e below (s₁.setTop (mkF m 0 #[.val (.ref a1), .val (.int p2), .unset] [])) _
    refine XS.iconst X0.here hx rfl (hb hby d3_0) ?_
    show Steps p.tables e below (s₁.setTop (mkF m 1 #[.val (.ref a1), .val (.int p2), .unset] [(.int (0 : Int32))])) _
    refine XS.istoreN X0.here hx rfl (hb hby d3_1) rfl (l' := #[.val (.ref a1), .val (.int p2), .val (.int (0 : Int32))]) rfl ?_
    exact kt
  exact loop (7 - j0) 0 j0 _ _ _ _ (by omega) hj0 (by omega) (Nat.zero_le _) X0 e0 N0 (Keep.refl _ _) E_a F_l F_c F_d
theorem d5_0 : decode jdk_29_method_65_code 0 = .ok (.iload_n 0, 1) := by decide +kernel
theorem d5_1 : decode jdk_29_method_65_code 1 = .ok (.iload_n 1, 1) := by decide +kernel
theorem d5_2 : decode jdk_29_method_65_code 2 = .ok (.if_icmp .lt 7, 3) := by decide +kernel
theorem d5_5 : decode jdk_29_method_65_code 5 = .ok (.iload_n 0, 1) := by decide +kernel
theorem d5_6 : decode jdk_29_method_65_code 6 = .ok (.goto 4, 3) := by decide +kernel
theorem d5_9 : decode jdk_29_method_65_code 9 = .ok (.iload_n 1, 1) := by decide +kernel
theorem d5_10 : decode jdk_29_method_65_code 10 = .ok (.ireturn, 1) := by decide +kernel
def Q5 (Z : State) (p1 : Int32) (p2 : Int32) (h0 : Heap) (n0 : Nat) (v : Option Value) (h : Heap) (L : List Loc) : Prop := v = some (.int (if p1 < p2 then p2 else p1)) ∧ Fr n0 L ∧ h = h0
set_option maxRecDepth 65536 in
set_option maxHeartbeats 40000000 in
theorem rm5 (l : Launch) (Z : State) (a0 : Array Value) (hw : ∀ d ∈ tables_1, d.before a0 Z = true) (ws : List Jvm.Cond) (p1 : Int32) (p2 : Int32) (h0 : Heap) (n0 : Nat) (Z0 : n0 ≤ h0.size) :
    MetFree l (⟨"java/lang/Math", "max", "(II)I"⟩ : MethodName) (head1 (Jvm.Cond.code (⟨"java/lang/Math", "max", "(II)I"⟩ : MethodName) jdk_29_method_65_code 2 (some .int) :: ws) ({ frames := 0, cells := 0, slots := 0, locals := 0 } : Room)) (fun a U => a = #[(.int p1), (.int p2)] ∧ Z.Warmed39 U.vm ∧ U.heap = h0) (fun _ _ _ _ _ => True) (fun _ U o U' => ∃ v L, o = .returned v ∧ Q5 Z p1 p2 h0 n0 v U'.heap L ∧ FrameEnd U o U' L ({ frames := 0, cells := 0, slots := 0, locals := 0 } : Room).cells ({ frames := 0, cells := 0, slots := 0, locals := 0 } : Room).slots) := by
  refine MetFree.of_bodySF (Jvm.Free.JP.mathPlain rfl (by decide +kernel)) hisR ?_
  intro p e s m args below meth c s₁ Bd hml0 hP hK
  obtain ⟨rfl, hZ, hh⟩ := hP
  have hx := Bd.exec
  have hby := Bd.bytes
  have hml : c.maxLocals = 2 := hml0
  have hown : s.vm.findClass "java/lang/Math" = some m.cls := findClass_of_methodNamed Bd.named
  have hnm := (name_of_methodNamed Bd.named Bd.method).1
  have X0 : Stand p l e ({ frames := 0, cells := 0, slots := 0, locals := 0 } : Room) s m #[(.int p1), (.int p2)] below meth c s₁ [] 0 0 := Stand.of_body Bd
  have e0 : s₁.heap = h0 := by rw [← hh, Bd.state]; rfl
  have N0 := Fr.nil n0
  have eF : entryFrame m #[(.int p1), (.int p2)] 2 = mkF m 0 #[.val (.int p1), .val (.int p2)] [] := by first | (simp [entryFrame, mkF, argsToLocals, Value.category]; done) | rfl
  show Ends p e below s ({ frames := 0, cells := 0, slots := 0, locals := 0 } : Room) (Q5 Z p1 p2 h0 n0) (s₁.setTop (entryFrame m #[(.int p1), (.int p2)] 2))
  rw [eF]
  refine Ends.of (F' := s₁.setTop (mkF m 2 #[.val (.int p1), .val (.int p2)] [(.int p2), (.int p1)])) (fun _ kt => ?_) ?_
  · show Steps p.tables e below (s₁.setTop (mkF m 0 #[.val (.int p1), .val (.int p2)] [])) _
    refine XS.iloadN X0.here hx rfl (hb hby d5_0) rfl ?_
    show Steps p.tables e below (s₁.setTop (mkF m 1 #[.val (.int p1), .val (.int p2)] [(.int p1)])) _
    refine XS.iloadN X0.here hx rfl (hb hby d5_1) rfl ?_
    exact kt
  by_cases hc2 : p1 < p2
  · refine Ends.of (F' := s₁.setTop (mkF m 10 #[.val (.int p1), .val (.int p2)] [(.int p2)])) (fun _ kt => ?_) ?_
    · show Steps p.tables e below (s₁.setTop (mkF m 2 #[.val (.int p1), .val (.int p2)] [(.int p2), (.int p1)])) _
      refine XS.icmpYes X0.here hx rfl (pc0 := 2) (pc' := 9) rfl (hb hby d5_2) rfl (tlt hc2).1 (by decide) (by decide) ?_
      show Steps p.tables e below (s₁.setTop (mkF m 9 #[.val (.int p1), .val (.int p2)] [])) _
      refine XS.iloadN X0.here hx rfl (hb hby d5_9) rfl ?_
      exact kt
    obtain ⟨fs, hr, hrun, hended, hW, hsame⟩ := X0.leave (v := some (.int p2)) (fun h => by rw [Bd.returns] at h; cases h)
    exact ⟨_, _, retI X0 hx Bd.returns (hb hby d5_10) hr, hrun, hended, _, _, rfl, ⟨by rw [if_pos hc2], N0, e0⟩, ⟨_, rfl⟩, hW, hsame.mono (by decide) (by decide)⟩
  · refine Ends.of (F' := s₁.setTop (mkF m 10 #[.val (.int p1), .val (.int p2)] [(.int p1)])) (fun _ kt => ?_) ?_
    · show Steps p.tables e below (s₁.setTop (mkF m 2 #[.val (.int p1), .val (.int p2)] [(.int p2), (.int p1)])) _
      refine XS.icmpNo X0.here hx rfl (hb hby d5_2) rfl (flt hc2).1 ?_
      show Steps p.tables e below (s₁.setTop (mkF m 5 #[.val (.int p1), .val (.int p2)] [])) _
      refine XS.iloadN X0.here hx rfl (hb hby d5_5) rfl ?_
      show Steps p.tables e below (s₁.setTop (mkF m 6 #[.val (.int p1), .val (.int p2)] [(.int p1)])) _
      refine XS.goto X0.here hx rfl (pc0 := 6) (pc' := 10) rfl (hb hby d5_6) (by decide) (by decide) ?_
      exact kt
    obtain ⟨fs, hr, hrun, hended, hW, hsame⟩ := X0.leave (v := some (.int p1)) (fun h => by rw [Bd.returns] at h; cases h)
    exact ⟨_, _, retI X0 hx Bd.returns (hb hby d5_10) hr, hrun, hended, _, _, rfl, ⟨by rw [if_neg hc2], N0, e0⟩, ⟨_, rfl⟩, hW, hsame.mono (by decide) (by decide)⟩
theorem d6_0 : decode jdk_29_method_69_code 0 = .ok (.iload_n 0, 1) := by decide +kernel
theorem d6_1 : decode jdk_29_method_69_code 1 = .ok (.iload_n 1, 1) := by decide +kernel
theorem d6_2 : decode jdk_29_method_69_code 2 = .ok (.if_icmp .gt 7, 3) := by decide +kernel
theorem d6_5 : decode jdk_29_method_69_code 5 = .ok (.iload_n 0, 1) := by decide +kernel
theorem d6_6 : decode jdk_29_method_69_code 6 = .ok (.goto 4, 3) := by decide +kernel
theorem d6_9 : decode jdk_29_method_69_code 9 = .ok (.iload_n 1, 1) := by decide +kernel
theorem d6_10 : decode jdk_29_method_69_code 10 = .ok (.ireturn, 1) := by decide +kernel
def Q6 (Z : State) (p1 : Int32) (p2 : Int32) (h0 : Heap) (n0 : Nat) (v : Option Value) (h : Heap) (L : List Loc) : Prop := v = some (.int (if p2 < p1 then p2 else p1)) ∧ Fr n0 L ∧ h = h0
set_option maxRecDepth 65536 in
set_option maxHeartbeats 40000000 in
theorem rm6 (l : Launch) (Z : State) (a0 : Array Value) (hw : ∀ d ∈ tables_1, d.before a0 Z = true) (ws : List Jvm.Cond) (p1 : Int32) (p2 : Int32) (h0 : Heap) (n0 : Nat) (Z0 : n0 ≤ h0.size) :
    MetFree l (⟨"java/lang/Math", "min", "(II)I"⟩ : MethodName) (head1 (Jvm.Cond.code (⟨"java/lang/Math", "min", "(II)I"⟩ : MethodName) jdk_29_method_69_code 2 (some .int) :: ws) ({ frames := 0, cells := 0, slots := 0, locals := 0 } : Room)) (fun a U => a = #[(.int p1), (.int p2)] ∧ Z.Warmed39 U.vm ∧ U.heap = h0) (fun _ _ _ _ _ => True) (fun _ U o U' => ∃ v L, o = .returned v ∧ Q6 Z p1 p2 h0 n0 v U'.heap L ∧ FrameEnd U o U' L ({ frames := 0, cells := 0, slots := 0, locals := 0 } : Room).cells ({ frames := 0, cells := 0, slots := 0, locals := 0 } : Room).slots) := by
  refine MetFree.of_bodySF (Jvm.Free.JP.mathPlain rfl (by decide +kernel)) hisR ?_
  intro p e s m args below meth c s₁ Bd hml0 hP hK
  obtain ⟨rfl, hZ, hh⟩ := hP
  have hx := Bd.exec
  have hby := Bd.bytes
  have hml : c.maxLocals = 2 := hml0
  have hown : s.vm.findClass "java/lang/Math" = some m.cls := findClass_of_methodNamed Bd.named
  have hnm := (name_of_methodNamed Bd.named Bd.method).1
  have X0 : Stand p l e ({ frames := 0, cells := 0, slots := 0, locals := 0 } : Room) s m #[(.int p1), (.int p2)] below meth c s₁ [] 0 0 := Stand.of_body Bd
  have e0 : s₁.heap = h0 := by rw [← hh, Bd.state]; rfl
  have N0 := Fr.nil n0
  have eF : entryFrame m #[(.int p1), (.int p2)] 2 = mkF m 0 #[.val (.int p1), .val (.int p2)] [] := by first | (simp [entryFrame, mkF, argsToLocals, Value.category]; done) | rfl
  show Ends p e below s ({ frames := 0, cells := 0, slots := 0, locals := 0 } : Room) (Q6 Z p1 p2 h0 n0) (s₁.setTop (entryFrame m #[(.int p1), (.int p2)] 2))
  rw [eF]
  refine Ends.of (F' := s₁.setTop (mkF m 2 #[.val (.int p1), .val (.int p2)] [(.int p2), (.int p1)])) (fun _ kt => ?_) ?_
  · show Steps p.tables e below (s₁.setTop (mkF m 0 #[.val (.int p1), .val (.int p2)] [])) _
    refine XS.iloadN X0.here hx rfl (hb hby d6_0) rfl ?_
    show Steps p.tables e below (s₁.setTop (mkF m 1 #[.val (.int p1), .val (.int p2)] [(.int p1)])) _
    refine XS.iloadN X0.here hx rfl (hb hby d6_1) rfl ?_
    exact kt
  by_cases hc2 : p2 < p1
  · refine Ends.of (F' := s₁.setTop (mkF m 10 #[.val (.int p1), .val (.int p2)] [(.int p2)])) (fun _ kt => ?_) ?_
    · show Steps p.tables e below (s₁.setTop (mkF m 2 #[.val (.int p1), .val (.int p2)] [(.int p2), (.int p1)])) _
      refine XS.icmpYes X0.here hx rfl (pc0 := 2) (pc' := 9) rfl (hb hby d6_2) rfl (tlt hc2).2.2.1 (by decide) (by decide) ?_
      show Steps p.tables e below (s₁.setTop (mkF m 9 #[.val (.int p1), .val (.int p2)] [])) _
      refine XS.iloadN X0.here hx rfl (hb hby d6_9) rfl ?_
      exact kt
    obtain ⟨fs, hr, hrun, hended, hW, hsame⟩ := X0.leave (v := some (.int p2)) (fun h => by rw [Bd.returns] at h; cases h)
    exact ⟨_, _, retI X0 hx Bd.returns (hb hby d6_10) hr, hrun, hended, _, _, rfl, ⟨by rw [if_pos hc2], N0, e0⟩, ⟨_, rfl⟩, hW, hsame.mono (by decide) (by decide)⟩
  · refine Ends.of (F' := s₁.setTop (mkF m 10 #[.val (.int p1), .val (.int p2)] [(.int p1)])) (fun _ kt => ?_) ?_
    · show Steps p.tables e below (s₁.setTop (mkF m 2 #[.val (.int p1), .val (.int p2)] [(.int p2), (.int p1)])) _
      refine XS.icmpNo X0.here hx rfl (hb hby d6_2) rfl (flt hc2).2.2.1 ?_
      show Steps p.tables e below (s₁.setTop (mkF m 5 #[.val (.int p1), .val (.int p2)] [])) _
      refine XS.iloadN X0.here hx rfl (hb hby d6_5) rfl ?_
      show Steps p.tables e below (s₁.setTop (mkF m 6 #[.val (.int p1), .val (.int p2)] [(.int p1)])) _
      refine XS.goto X0.here hx rfl (pc0 := 6) (pc' := 10) rfl (hb hby d6_6) (by decide) (by decide) ?_
      exact kt
    obtain ⟨fs, hr, hrun, hended, hW, hsame⟩ := X0.leave (v := some (.int p1)) (fun h => by rw [Bd.returns] at h; cases h)
    exact ⟨_, _, retI X0 hx Bd.returns (hb hby d6_10) hr, hrun, hended, _, _, rfl, ⟨by rw [if_neg hc2], N0, e0⟩, ⟨_, rfl⟩, hW, hsame.mono (by decide) (by decide)⟩
theorem d4_0 : decode method_3_code 0 = .ok (.iload_n 0, 1) := by decide +kernel
theorem d4_1 : decode method_3_code 1 = .ok (.iconst 0, 1) := by decide +kernel
theorem d4_2 : decode method_3_code 2 = .ok (.invokestatic 34, 3) := by decide +kernel
theorem d4_5 : decode method_3_code 5 = .ok (.bipush 6, 2) := by decide +kernel
theorem d4_7 : decode method_3_code 7 = .ok (.invokestatic 28, 3) := by decide +kernel
theorem d4_10 : decode method_3_code 10 = .ok (.ireturn, 1) := by decide +kernel
theorem pn_1 : plainName "com/example/farspan/farspan/core/LeaderTimeoutChangedPinLaw" = true := by first | (simp [plainName, overriddenIn]; done) | decide +kernel
def Q4 (Z : State) (p1 : Int32) (h0 : Heap) (n0 : Nat) (v : Option Value) (h : Heap) (L : List Loc) : Prop := v = some (.int (own_steps p1)) ∧ Fr n0 L ∧ h = h0
set_option maxRecDepth 65536 in
set_option maxHeartbeats 40000000 in
theorem rm4 (l : Launch) (Z : State) (a0 : Array Value) (hw : ∀ d ∈ tables_1, d.before a0 Z = true) (ws : List Jvm.Cond) (p1 : Int32) (h0 : Heap) (n0 : Nat) (Z0 : n0 ≤ h0.size) :
    MetFree l (⟨"com/example/farspan/farspan/core/LeaderTimeoutChangedPinLaw", "steps", "(I)I"⟩ : MethodName) (head1 (Jvm.Cond.code (⟨"com/example/farspan/farspan/core/LeaderTimeoutChangedPinLaw", "steps", "(I)I"⟩ : MethodName) method_3_code 1 (some .int) :: ws) ({ frames := 1, cells := 0, slots := 0, locals := 13 } : Room)) (fun a U => a = #[(.int p1)] ∧ Z.Warmed39 U.vm ∧ U.heap = h0) (fun _ _ _ _ _ => True) (fun _ U o U' => ∃ v L, o = .returned v ∧ Q4 Z p1 h0 n0 v U'.heap L ∧ FrameEnd U o U' L ({ frames := 1, cells := 0, slots := 0, locals := 13 } : Room).cells ({ frames := 1, cells := 0, slots := 0, locals := 13 } : Room).slots) := by
  refine MetFree.of_bodySF (plainFor_of_name pn_1) hisR ?_
  intro p e s m args below meth c s₁ Bd hml0 hP hK
  obtain ⟨rfl, hZ, hh⟩ := hP
  have hx := Bd.exec
  have hby := Bd.bytes
  have hml : c.maxLocals = 1 := hml0
  have hown : s.vm.findClass "com/example/farspan/farspan/core/LeaderTimeoutChangedPinLaw" = some m.cls := findClass_of_methodNamed Bd.named
  have hnm := (name_of_methodNamed Bd.named Bd.method).1
  have X0 : Stand p l e ({ frames := 1, cells := 0, slots := 0, locals := 13 } : Room) s m #[(.int p1)] below meth c s₁ [] 0 0 := Stand.of_body Bd
  have e0 : s₁.heap = h0 := by rw [← hh, Bd.state]; rfl
  have N0 := Fr.nil n0
  have eF : entryFrame m #[(.int p1)] 1 = mkF m 0 #[.val (.int p1)] [] := by first | (simp [entryFrame, mkF, argsToLocals, Value.category]; done) | rfl
  show Ends p e below s ({ frames := 1, cells := 0, slots := 0, locals := 13 } : Room) (Q4 Z p1 h0 n0) (s₁.setTop (entryFrame m #[(.int p1)] 1))
  rw [eF]
  refine Ends.of (F' := s₁.setTop (mkF m 2 #[.val (.int p1)] [(.int (0 : Int32)), (.int p1)])) (fun _ kt => ?_) ?_
  · show Steps p.tables e below (s₁.setTop (mkF m 0 #[.val (.int p1)] [])) _
    refine XS.iloadN X0.here hx rfl (hb hby d4_0) rfl ?_
    show Steps p.tables e below (s₁.setTop (mkF m 1 #[.val (.int p1)] [(.int p1)])) _
    refine XS.iconst X0.here hx rfl (hb hby d4_1) ?_
    exact kt
  obtain ⟨_, _, ⟨T10, L10, k10, n10⟩, -, X10, ⟨Lc10, hQ10, l10, y10, z10⟩, st10⟩ := Jvm.LawKit.callS X0 hx (y := (⟨"java/lang/Math", "max", "(II)I"⟩ : MethodName)) hown (mvT hZ (hw _ (List.mem_of_getElem? (i := 27) rfl))) (mvT hZ (hw _ (List.mem_of_getElem? (i := 28) rfl))) (mvT hZ (hw _ (List.mem_of_getElem? (i := 29) rfl))) (mvT hZ (hw _ (List.mem_of_getElem? (i := 30) rfl))) (by decide) (backOf (W := 0) (rm5 l Z a0 hw [] p1 (0 : Int32) h0 n0 Z0) hZ (hw _ (List.mem_of_getElem? (i := 30) rfl)) (hw _ (List.mem_of_getElem? (i := 29) rfl)) (by decide) (by decide)) (g := (mkF m 2 #[.val (.int p1)] [(.int (0 : Int32)), (.int p1)])) rfl (by rw [hml]; rfl) (argsL := [(.int p1), (.int (0 : Int32))]) (rest := []) (lenOf pd_4 rfl) rfl (by show 2 * 0 + _ ≤ _; exact Nat.le_of_eq rfl) (hb hby d4_2) (fun _ _ => ⟨rfl, e0, (by decide : 0 + 0 ≤ _), (by decide : 0 + 0 ≤ _)⟩)
  dsimp only [Pt.U, Pt.locs, Pt.cells, Pt.slots] at X10 l10 y10 z10 st10 hQ10
  subst l10 y10 z10
  obtain ⟨rfl, N10q, e10⟩ := hQ10
  have N10 := Fr.app N0 N10q
  refine Ends.of st10 ?_
  refine Ends.of (F' := T10.setTop (mkF m 7 #[.val (.int p1)] [(.int (6 : Int32)), (.int (if p1 < (0 : Int32) then (0 : Int32) else p1))])) (fun _ kt => ?_) ?_
  · show Steps p.tables e below (T10.setTop (mkF m 5 #[.val (.int p1)] [(.int (if p1 < (0 : Int32) then (0 : Int32) else p1))])) _
    refine XS.bipush X10.here hx rfl (hb hby d4_5) ?_
    exact kt
  obtain ⟨_, _, ⟨T11, L11, k11, n11⟩, -, X11, ⟨Lc11, hQ11, l11, y11, z11⟩, st11⟩ := Jvm.LawKit.callS X10 hx (y := (⟨"java/lang/Math", "min", "(II)I"⟩ : MethodName)) hown (mvT hZ (hw _ (List.mem_of_getElem? (i := 31) rfl))) (mvT hZ (hw _ (List.mem_of_getElem? (i := 32) rfl))) (mvT hZ (hw _ (List.mem_of_getElem? (i := 29) rfl))) (mvT hZ (hw _ (List.mem_of_getElem? (i := 33) rfl))) (by decide) (backOf (W := 0) (rm6 l Z a0 hw [] (if p1 < (0 : Int32) then (0 : Int32) else p1) (6 : Int32) h0 n0 Z0) hZ (hw _ (List.mem_of_getElem? (i := 33) rfl)) (hw _ (List.mem_of_getElem? (i := 29) rfl)) (by decide) (by decide)) (g := (mkF m 7 #[.val (.int p1)] [(.int (6 : Int32)), (.int (if p1 < (0 : Int32) then (0 : Int32) else p1))])) rfl (by rw [hml]; rfl) (argsL := [(.int (if p1 < (0 : Int32) then (0 : Int32) else p1)), (.int (6 : Int32))]) (rest := []) (lenOf pd_4 rfl) rfl (by show 2 * 0 + _ ≤ _; exact Nat.le_of_eq rfl) (hb hby d4_7) (fun _ _ => ⟨rfl, e10, (by decide : 0 + 0 ≤ _), (by decide : 0 + 0 ≤ _)⟩)
  dsimp only [Pt.U, Pt.locs, Pt.cells, Pt.slots] at X11 l11 y11 z11 st11 hQ11
  subst l11 y11 z11
  obtain ⟨rfl, N11q, e11⟩ := hQ11
  have N11 := Fr.app N10 N11q
  refine Ends.of st11 ?_
  obtain ⟨fs, hr, hrun, hended, hW, hsame⟩ := X11.leave (v := some (.int (if (6 : Int32) < (if p1 < (0 : Int32) then (0 : Int32) else p1) then (6 : Int32) else (if p1 < (0 : Int32) then (0 : Int32) else p1)))) (fun h => by rw [Bd.returns] at h; cases h)
  exact ⟨_, _, retI X11 hx Bd.returns (hb hby d4_10) hr, hrun, hended, _, _, rfl, ⟨rfl, N11, e11⟩, ⟨_, rfl⟩, hW, hsame.mono (by decide) (by decide)⟩
theorem d7_0 : decode prog_40_method_2_code 0 = .ok (.aload_n 0, 1) := by decide +kernel
theorem d7_1 : decode prog_40_method_2_code 1 = .ok (.getfield 13, 3) := by decide +kernel
theorem d7_4 : decode prog_40_method_2_code 4 = .ok (.lreturn, 1) := by decide +kernel
def Q7 (Z : State) (a1 : Addr) (w2 : Int64) (h0 : Heap) (n0 : Nat) (v : Option Value) (h : Heap) (L : List Loc) : Prop := v = some (.long w2) ∧ Fr n0 L ∧ h = h0
set_option maxRecDepth 65536 in
set_option maxHeartbeats 40000000 in
theorem rm7 (l : Launch) (Z : State) (a0 : Array Value) (hw : ∀ d ∈ tables_1, d.before a0 Z = true) (ws : List Jvm.Cond) (a1 : Addr) (w2 : Int64) (h0 : Heap) (n0 : Nat) (Z0 : n0 ≤ h0.size) (F_c : Fld Z h0 a1 "com/example/farspan/farspan/core/LeaderTimeout" "currentMs" "J" (.long w2)) :
    MetFree l (⟨"com/example/farspan/farspan/core/LeaderTimeout", "currentMs", "()J"⟩ : MethodName) (head1 (Jvm.Cond.code (⟨"com/example/farspan/farspan/core/LeaderTimeout", "currentMs", "()J"⟩ : MethodName) prog_40_method_2_code 1 (some .long) :: ws) ({ frames := 0, cells := 0, slots := 0, locals := 0 } : Room)) (fun a U => a = #[(.ref a1)] ∧ Z.Warmed39 U.vm ∧ U.heap = h0) (fun _ _ _ _ _ => True) (fun _ U o U' => ∃ v L, o = .returned v ∧ Q7 Z a1 w2 h0 n0 v U'.heap L ∧ FrameEnd U o U' L ({ frames := 0, cells := 0, slots := 0, locals := 0 } : Room).cells ({ frames := 0, cells := 0, slots := 0, locals := 0 } : Room).slots) := by
  refine MetFree.of_bodySF (plainFor_of_name pn_0) hisR ?_
  intro p e s m args below meth c s₁ Bd hml0 hP hK
  obtain ⟨rfl, hZ, hh⟩ := hP
  have hx := Bd.exec
  have hby := Bd.bytes
  have hml : c.maxLocals = 1 := hml0
  have hown : s.vm.findClass "com/example/farspan/farspan/core/LeaderTimeout" = some m.cls := findClass_of_methodNamed Bd.named
  have hnm := (name_of_methodNamed Bd.named Bd.method).1
  have X0 : Stand p l e ({ frames := 0, cells := 0, slots := 0, locals := 0 } : Room) s m #[(.ref a1)] below meth c s₁ [] 0 0 := Stand.of_body Bd
  have e0 : s₁.heap = h0 := by rw [← hh, Bd.state]; rfl
  have N0 := Fr.nil n0
  have eF : entryFrame m #[(.ref a1)] 1 = mkF m 0 #[.val (.ref a1)] [] := by first | (simp [entryFrame, mkF, argsToLocals, Value.category]; done) | rfl
  show Ends p e below s ({ frames := 0, cells := 0, slots := 0, locals := 0 } : Room) (Q7 Z a1 w2 h0 n0) (s₁.setTop (entryFrame m #[(.ref a1)] 1))
  rw [eF]
  refine Ends.of (F' := s₁.setTop (mkF m 1 #[.val (.ref a1)] [(.ref a1)])) (fun _ kt => ?_) ?_
  · show Steps p.tables e below (s₁.setTop (mkF m 0 #[.val (.ref a1)] [])) _
    refine XS.aloadN X0.here hx rfl (hb hby d7_0) rfl rfl ?_
    exact kt
  obtain ⟨T12, X12, e12, st12⟩ := getF X0 hx hZ hown (host := "") (Or.inl (hw _ (List.mem_of_getElem? (i := 12) rfl))) Via.refl e0 F_c (g := (mkF m 1 #[.val (.ref a1)] [(.ref a1)])) rfl rfl (hb hby d7_1)
  refine Ends.of st12 ?_
  obtain ⟨fs, hr, hrun, hended, hW, hsame⟩ := X12.leave (v := some (.long w2)) (fun h => by rw [Bd.returns] at h; cases h)
  refine ⟨_, _, ?_, hrun, hended, _, _, rfl, ⟨rfl, N0, e12⟩, ⟨_, rfl⟩, hW, hsame.mono (by decide) (by decide)⟩
  show Steps p.tables e below (T12.setTop (mkF m 4 #[.val (.ref a1)] [(.long w2)])) _
  jvm_step X12.here [X12.here.top, hx, (hb hby d7_4), X12.method', Bd.returns, narrow]
  first | (intro acts; rw [hr _ acts rfl rfl rfl]) | rw [hr _ _ rfl rfl rfl]
  exact Steps.refl _
def Q0 (Z : State) (q1 : Int64) (p2 : Int32) (p3 : Int32) (h0 : Heap) (n0 : Nat) (v : Option Value) (h : Heap) (L : List Loc) : Prop := v = some (.int (1 : Int32)) ∧ Fr n0 L
set_option maxRecDepth 65536 in
set_option maxHeartbeats 40000000 in
theorem rm0 (l : Launch) (Z : State) (a0 : Array Value) (hw : ∀ d ∈ tables_1, d.before a0 Z = true) (ws : List Jvm.Cond) (q1 : Int64) (p2 : Int32) (p3 : Int32) (h0 : Heap) (n0 : Nat) (Z0 : n0 ≤ h0.size) :
    MetFree l x (head1 (Jvm.Cond.code x code maxLocals ret :: ws) room_1) (fun a U => a = #[(.long q1), (.int p2), (.int p3)] ∧ Z.Warmed39 U.vm ∧ U.heap = h0) (fun _ _ _ _ _ => True) (fun _ U o U' => ∃ v L, o = .returned v ∧ Q0 Z q1 p2 p3 h0 n0 v U'.heap L ∧ FrameEnd U o U' L room_1.cells room_1.slots) := by
  refine MetFree.of_bodySF (plainFor_of_name pn_1) hisR ?_
  intro p e s m args below meth c s₁ Bd hml0 hP hK
  obtain ⟨rfl, hZ, hh⟩ := hP
  have hx := Bd.exec
  have hby := Bd.bytes
  have hml : c.maxLocals = 13 := hml0
  have hown : s.vm.findClass "com/example/farspan/farspan/core/LeaderTimeoutChangedPinLaw" = some m.cls := findClass_of_methodNamed Bd.named
  have hnm := (name_of_methodNamed Bd.named Bd.method).1
  have X0 : Stand p l e room_1 s m #[(.long q1), (.int p2), (.int p3)] below meth c s₁ [] 0 0 := Stand.of_body Bd
  have e0 : s₁.heap = h0 := by rw [← hh, Bd.state]; rfl
  have N0 := Fr.nil n0
  have eF : entryFrame m #[(.long q1), (.int p2), (.int p3)] maxLocals = mkF m 0 #[.val (.long q1), .second, .val (.int p2), .val (.int p3), .unset, .unset, .unset, .unset, .unset, .unset, .unset, .unset, .unset] [] := by first | (simp [entryFrame, mkF, argsToLocals, Value.category, maxLocals]; done) | rfl
  show Ends p e below s room_1 (Q0 Z q1 p2 p3 h0 n0) (s₁.setTop (entryFrame m #[(.long q1), (.int p2), (.int p3)] maxLocals))
  rw [eF]
  refine Ends.of (F' := s₁.setTop (mkF m 7 #[.val (.long q1), .second, .val (.int p2), .val (.int p3), .unset, .unset, .unset, .unset, .unset, .unset, .unset, .unset, .unset] [(.long ((q1 &&& (1099511627775 : Int64)) + (1 : Int64)))])) (fun _ kt => ?_) ?_
  · show Steps p.tables e below (s₁.setTop (mkF m 0 #[.val (.long q1), .second, .val (.int p2), .val (.int p3), .unset, .unset, .unset, .unset, .unset, .unset, .unset, .unset, .unset] [])) _
    refine XS.lloadN X0.here hx rfl (hb hby at_0) rfl ?_
    show Steps p.tables e below (s₁.setTop (mkF m 1 #[.val (.long q1), .second, .val (.int p2), .val (.int p3), .unset, .unset, .unset, .unset, .unset, .unset, .unset, .unset, .unset] [(.long q1)])) _
    refine X0.ldc2Long hx hown (mvT hZ (hw _ (List.mem_of_getElem? (i := 0) rfl))) (g := (mkF m 1 #[.val (.long q1), .second, .val (.int p2), .val (.int p3), .unset, .unset, .unset, .unset, .unset, .unset, .unset, .unset, .unset] [(.long q1)])) rfl (hb hby at_1) _ ?_
    show Steps p.tables e below (s₁.setTop (mkF m 4 #[.val (.long q1), .second, .val (.int p2), .val (.int p3), .unset, .unset, .unset, .unset, .unset, .unset, .unset, .unset, .unset] [(.long (1099511627775 : Int64)), (.long q1)])) _
    refine XS.land X0.here hx rfl (hb hby at_4) rfl ?_
    show Steps p.tables e below (s₁.setTop (mkF m 5 #[.val (.long q1), .second, .val (.int p2), .val (.int p3), .unset, .unset, .unset, .unset, .unset, .unset, .unset, .unset, .unset] [(.long (q1 &&& (1099511627775 : Int64)))])) _
    refine XS.lconst X0.here hx rfl (hb hby at_5) ?_
    show Steps p.tables e below (s₁.setTop (mkF m 6 #[.val (.long q1), .second, .val (.int p2), .val (.int p3), .unset, .unset, .unset, .unset, .unset, .unset, .unset, .unset, .unset] [(.long (1 : Int64)), (.long (q1 &&& (1099511627775 : Int64)))])) _
    refine XS.ladd X0.here hx rfl (hb hby at_6) rfl ?_
    exact kt
  have hbs := own_base q1
  generalize ((q1 &&& (1099511627775 : Int64)) + (1 : Int64)) = bs at hbs ⊢
  refine Ends.of (F' := s₁.setTop (mkF m 9 #[.val (.long q1), .second, .val (.int p2), .val (.int p3), .val (.long bs), .second, .unset, .unset, .unset, .unset, .unset, .unset, .unset] [])) (fun _ kt => ?_) ?_
  · show Steps p.tables e below (s₁.setTop (mkF m 7 #[.val (.long q1), .second, .val (.int p2), .val (.int p3), .unset, .unset, .unset, .unset, .unset, .unset, .unset, .unset, .unset] [(.long bs)])) _
    refine XS.lstore X0.here hx rfl (hb hby at_7) rfl (l' := #[.val (.long q1), .second, .val (.int p2), .val (.int p3), .val (.long bs), .second, .unset, .unset, .unset, .unset, .unset, .unset, .unset]) rfl ?_
    exact kt
  obtain ⟨T13, h13, X13, e13, E13, A13, D13, -, st13⟩ := newO X0 hx hZ hown (hw _ (List.mem_of_getElem? (i := 1) rfl)) (hw _ (List.mem_of_getElem? (i := 2) rfl)) (hw _ (List.mem_of_getElem? (i := 3) rfl)) e0 (g := (mkF m 9 #[.val (.long q1), .second, .val (.int p2), .val (.int p3), .val (.long bs), .second, .unset, .unset, .unset, .unset, .unset, .unset, .unset] [])) rfl (hb hby at_9) (by decide) (by decide)
  obtain ⟨b13, g13⟩ : ∃ z, z = h0.size := ⟨_, rfl⟩
  rw [← g13] at A13 D13 st13
  have F_leaderTimeoutMs_b13 : Fld Z h13 b13 "com/example/farspan/farspan/core/LeaderTimeout" "leaderTimeoutMs" "J" (.long (0 : Int64)) := D13 (Or.inr (hw _ (List.mem_of_getElem? (i := 11) rfl))) (ty := .long) (by decide)
  have F_currentMs_b13 : Fld Z h13 b13 "com/example/farspan/farspan/core/LeaderTimeout" "currentMs" "J" (.long (0 : Int64)) := D13 (Or.inl (hw _ (List.mem_of_getElem? (i := 13) rfl))) (ty := .long) (by decide)
  have F_decided_b13 : Fld Z h13 b13 "com/example/farspan/farspan/core/LeaderTimeout" "decided" "I" (.int (0 : Int32)) := D13 (Or.inl (hw _ (List.mem_of_getElem? (i := 22) rfl))) (ty := .int) (by decide)
  refine Ends.of st13 ?_
  have Z1 : n0 ≤ h13.size := Nat.le_trans Z0 E13.1
  have gb : n0 ≤ b13 := Nat.le_trans Z0 (Nat.le_of_eq g13.symm)
  refine Ends.of (F' := T13.setTop (mkF m 15 #[.val (.long q1), .second, .val (.int p2), .val (.int p3), .val (.long bs), .second, .unset, .unset, .unset, .unset, .unset, .unset, .unset] [(.long bs), (.ref b13), (.ref b13)])) (fun _ kt => ?_) ?_
  · show Steps p.tables e below (T13.setTop (mkF m 12 #[.val (.long q1), .second, .val (.int p2), .val (.int p3), .val (.long bs), .second, .unset, .unset, .unset, .unset, .unset, .unset, .unset] [(.ref b13)])) _
    refine XS.dup X13.here hx rfl (hb hby at_12) rfl rfl ?_
    show Steps p.tables e below (T13.setTop (mkF m 13 #[.val (.long q1), .second, .val (.int p2), .val (.int p3), .val (.long bs), .second, .unset, .unset, .unset, .unset, .unset, .unset, .unset] [(.ref b13), (.ref b13)])) _
    refine XS.lload X13.here hx rfl (hb hby at_13) rfl ?_
    exact kt
  obtain ⟨_, _, ⟨T14, L14, k14, n14⟩, -, X14, ⟨Lc14, hQ14, l14, y14, z14⟩, st14⟩ := X13.specialBack hx (y := (⟨"com/example/farspan/farspan/core/LeaderTimeout", "<init>", "(J)V"⟩ : MethodName)) rfl hown (mvT hZ (hw _ (List.mem_of_getElem? (i := 4) rfl))) (mvT hZ (hw _ (List.mem_of_getElem? (i := 5) rfl))) (mvT hZ (hw _ (List.mem_of_getElem? (i := 6) rfl))) (by decide) (backOf (W := 1) (rm1 l Z a0 hw [] b13 bs h13 n0 Z1 A13 F_leaderTimeoutMs_b13 F_currentMs_b13 F_decided_b13 gb) hZ (hw _ (List.mem_of_getElem? (i := 6) rfl)) (hw _ (List.mem_of_getElem? (i := 3) rfl)) (by decide) (by decide)) (g := (mkF m 15 #[.val (.long q1), .second, .val (.int p2), .val (.int p3), .val (.long bs), .second, .unset, .unset, .unset, .unset, .unset, .unset, .unset] [(.long bs), (.ref b13), (.ref b13)])) rfl (by rw [hml]; rfl) (Steps.refl _) (a := b13) (argsL := [(.long bs)]) (rest := [(.ref b13)]) (lenOf pd_0 rfl) rfl (by show 2 * 0 + _ ≤ _; exact Nat.le_of_eq rfl) (hb hby at_15) (fun _ _ => ⟨rfl, e13, (by decide : 1 + 0 ≤ _), (by decide : 3 + 0 ≤ _)⟩)
  dsimp only [Pt.U, Pt.locs, Pt.cells, Pt.slots] at X14 l14 y14 z14 st14 hQ14
  subst l14 y14 z14
  obtain ⟨rfl, N14q, K14, Ex14, Fl14, Fc14, Fd14⟩ := hQ14
  have N14 := Fr.app N0 N14q
  refine Ends.st st14 ?_
  have Z2 : n0 ≤ T14.heap.size := Nat.le_trans Z1 K14.1
  rw [← own_p0 bs] at Fc14
  refine Ends.of (F' := T14.setTop (mkF m 23 #[.val (.long q1), .second, .val (.int p2), .val (.int p3), .val (.long bs), .second, .val (.ref b13), .unset, .unset, .unset, .unset, .unset, .unset] [(.int p2), (.ref b13)])) (fun _ kt => ?_) ?_
  · show Steps p.tables e below (T14.setTop (mkF m 18 #[.val (.long q1), .second, .val (.int p2), .val (.int p3), .val (.long bs), .second, .unset, .unset, .unset, .unset, .unset, .unset, .unset] [(.ref b13)])) _
    refine XS.astore X14.here hx rfl (hb hby at_18) rfl rfl (l' := #[.val (.long q1), .second, .val (.int p2), .val (.int p3), .val (.long bs), .second, .val (.ref b13), .unset, .unset, .unset, .unset, .unset, .unset]) rfl ?_
    show Steps p.tables e below (T14.setTop (mkF m 20 #[.val (.long q1), .second, .val (.int p2), .val (.int p3), .val (.long bs), .second, .val (.ref b13), .unset, .unset, .unset, .unset, .unset, .unset] [])) _
    refine XS.aload X14.here hx rfl (hb hby at_20) rfl rfl ?_
    show Steps p.tables e below (T14.setTop (mkF m 22 #[.val (.long q1), .second, .val (.int p2), .val (.int p3), .val (.long bs), .second, .val (.ref b13), .unset, .unset, .unset, .unset, .unset, .unset] [(.ref b13)])) _
    refine XS.iloadN X14.here hx rfl (hb hby at_22) rfl ?_
    exact kt
  obtain ⟨cq15, kq15, q15a, q15b, q15c⟩ := isOf hZ rfl Ex14
  obtain ⟨_, _, ⟨T15, L15, k15, n15⟩, -, X15, ⟨Lc15, hQ15, l15, y15, z15⟩, st15⟩ := X14.virtualBack hx (y := (⟨"com/example/farspan/farspan/core/LeaderTimeout", "changed", "(I)V"⟩ : MethodName)) (z := (⟨"com/example/farspan/farspan/core/LeaderTimeout", "changed", "(I)V"⟩ : MethodName)) hown (mvT hZ (hw _ (List.mem_of_getElem? (i := 14) rfl))) (mvT hZ (hw _ (List.mem_of_getElem? (i := 15) rfl))) (notFace_of_selects (args := #[]) (mvT hZ (hw _ (List.mem_of_getElem? (i := 17) rfl)))) (mvT hZ (hw _ (List.mem_of_getElem? (i := 17) rfl))) (mvT hZ (hw _ (List.mem_of_getElem? (i := 16) rfl))) (by decide) (backOf (W := 0) (rm3 l Z a0 hw [] b13 p2 bs 0 _ T14.heap n0 Z2 hbs.1 hbs.2 (by omega) Ex14 Fl14 Fc14 Fd14 gb) hZ (hw _ (List.mem_of_getElem? (i := 18) rfl)) (hw _ (List.mem_of_getElem? (i := 3) rfl)) (by decide) (by decide)) q15a q15c (g := (mkF m 23 #[.val (.long q1), .second, .val (.int p2), .val (.int p3), .val (.long bs), .second, .val (.ref b13), .unset, .unset, .unset, .unset, .unset, .unset] [(.int p2), (.ref b13)])) rfl (by rw [hml]; rfl) (Steps.refl _) (argsL := [(.int p2)]) (rest := []) (lenOf pd_2 rfl) rfl (by show 2 * 0 + _ ≤ _; exact Nat.le_of_eq rfl) (hb hby at_23) (fun _ _ => ⟨rfl, rfl, (by decide : 1 + 0 ≤ _), (by decide : 3 + 0 ≤ _)⟩)
  dsimp only [Pt.U, Pt.locs, Pt.cells, Pt.slots] at X15 l15 y15 z15 st15 hQ15
  subst l15 y15 z15
  obtain ⟨rfl, N15q, K15, Ex15, Fl15, Fc15, Fd15⟩ := hQ15
  have N15 := Fr.app N14 N15q
  refine Ends.st st15 ?_
  have Z3 : n0 ≤ T15.heap.size := Nat.le_trans Z2 K15.1
  refine Ends.of (F' := T15.setTop (mkF m 27 #[.val (.long q1), .second, .val (.int p2), .val (.int p3), .val (.long bs), .second, .val (.ref b13), .unset, .unset, .unset, .unset, .unset, .unset] [(.int p2)])) (fun _ kt => ?_) ?_
  · show Steps p.tables e below (T15.setTop (mkF m 26 #[.val (.long q1), .second, .val (.int p2), .val (.int p3), .val (.long bs), .second, .val (.ref b13), .unset, .unset, .unset, .unset, .unset, .unset] [])) _
    refine XS.iloadN X15.here hx rfl (hb hby at_26) rfl ?_
    exact kt
  obtain ⟨_, _, ⟨T16, L16, k16, n16⟩, -, X16, ⟨Lc16, hQ16, l16, y16, z16⟩, st16⟩ := Jvm.LawKit.callS X15 hx (y := (⟨"com/example/farspan/farspan/core/LeaderTimeoutChangedPinLaw", "steps", "(I)I"⟩ : MethodName)) hown (mvT hZ (hw _ (List.mem_of_getElem? (i := 23) rfl))) (mvT hZ (hw _ (List.mem_of_getElem? (i := 24) rfl))) (mvT hZ (hw _ (List.mem_of_getElem? (i := 25) rfl))) (mvT hZ (hw _ (List.mem_of_getElem? (i := 26) rfl))) (by decide) (backOf (W := 0) (rm4 l Z a0 hw [] p2 T15.heap n0 Z3) hZ (hw _ (List.mem_of_getElem? (i := 26) rfl)) (hw _ (List.mem_of_getElem? (i := 25) rfl)) (by decide) (by decide)) (g := (mkF m 27 #[.val (.long q1), .second, .val (.int p2), .val (.int p3), .val (.long bs), .second, .val (.ref b13), .unset, .unset, .unset, .unset, .unset, .unset] [(.int p2)])) rfl (by rw [hml]; rfl) (argsL := [(.int p2)]) (rest := []) (lenOf pd_3 rfl) rfl (by show 2 * 0 + _ ≤ _; exact Nat.le_of_eq rfl) (hb hby at_27) (fun _ _ => ⟨rfl, rfl, (by decide : 1 + 0 ≤ _), (by decide : 3 + 0 ≤ _)⟩)
  dsimp only [Pt.U, Pt.locs, Pt.cells, Pt.slots] at X16 l16 y16 z16 st16 hQ16
  subst l16 y16 z16
  obtain ⟨rfl, N16q, e16⟩ := hQ16
  have N16 := Fr.app N15 N16q
  refine Ends.of st16 ?_
  refine Ends.of (F' := T16.setTop (mkF m 34 #[.val (.long q1), .second, .val (.int p2), .val (.int p3), .val (.long bs), .second, .val (.ref b13), .val (.int (own_steps p2)), .unset, .unset, .unset, .unset, .unset] [(.ref b13)])) (fun _ kt => ?_) ?_
  · show Steps p.tables e below (T16.setTop (mkF m 30 #[.val (.long q1), .second, .val (.int p2), .val (.int p3), .val (.long bs), .second, .val (.ref b13), .unset, .unset, .unset, .unset, .unset, .unset] [(.int (own_steps p2))])) _
    refine XS.istore X16.here hx rfl (hb hby at_30) rfl (l' := #[.val (.long q1), .second, .val (.int p2), .val (.int p3), .val (.long bs), .second, .val (.ref b13), .val (.int (own_steps p2)), .unset, .unset, .unset, .unset, .unset]) rfl ?_
    show Steps p.tables e below (T16.setTop (mkF m 32 #[.val (.long q1), .second, .val (.int p2), .val (.int p3), .val (.long bs), .second, .val (.ref b13), .val (.int (own_steps p2)), .unset, .unset, .unset, .unset, .unset] [])) _
    refine XS.aload X16.here hx rfl (hb hby at_32) rfl rfl ?_
    exact kt
  obtain ⟨cq17, kq17, q17a, q17b, q17c⟩ := isOf hZ e16 Ex15
  obtain ⟨_, _, ⟨T17, L17, k17, n17⟩, -, X17, ⟨Lc17, hQ17, l17, y17, z17⟩, st17⟩ := X16.virtualBack hx (y := (⟨"com/example/farspan/farspan/core/LeaderTimeout", "currentMs", "()J"⟩ : MethodName)) (z := (⟨"com/example/farspan/farspan/core/LeaderTimeout", "currentMs", "()J"⟩ : MethodName)) hown (mvT hZ (hw _ (List.mem_of_getElem? (i := 34) rfl))) (mvT hZ (hw _ (List.mem_of_getElem? (i := 35) rfl))) (notFace_of_selects (args := #[]) (mvT hZ (hw _ (List.mem_of_getElem? (i := 37) rfl)))) (mvT hZ (hw _ (List.mem_of_getElem? (i := 37) rfl))) (mvT hZ (hw _ (List.mem_of_getElem? (i := 36) rfl))) (by decide) (backOf (W := 0) (rm7 l Z a0 hw [] b13 (bs * own_pw (min (0 + p2.toNatClampNeg) 6)) T15.heap n0 Z3 Fc15) hZ (hw _ (List.mem_of_getElem? (i := 38) rfl)) (hw _ (List.mem_of_getElem? (i := 3) rfl)) (by decide) (by decide)) q17a q17c (g := (mkF m 34 #[.val (.long q1), .second, .val (.int p2), .val (.int p3), .val (.long bs), .second, .val (.ref b13), .val (.int (own_steps p2)), .unset, .unset, .unset, .unset, .unset] [(.ref b13)])) rfl (by rw [hml]; rfl) (Steps.refl _) (argsL := []) (rest := []) (lenOf pd_5 rfl) rfl (by show 2 * 0 + _ ≤ _; exact Nat.le_of_eq rfl) (hb hby at_34) (fun _ _ => ⟨rfl, e16, (by decide : 1 + 0 ≤ _), (by decide : 3 + 0 ≤ _)⟩)
  dsimp only [Pt.U, Pt.locs, Pt.cells, Pt.slots] at X17 l17 y17 z17 st17 hQ17
  subst l17 y17 z17
  obtain ⟨rfl, N17q, e17⟩ := hQ17
  have N17 := Fr.app N16 N17q
  refine Ends.st st17 ?_
  refine Ends.of (F' := T17.setTop (mkF m 42 #[.val (.long q1), .second, .val (.int p2), .val (.int p3), .val (.long bs), .second, .val (.ref b13), .val (.int (own_steps p2)), .val (.long (bs * own_pw (min (0 + p2.toNatClampNeg) 6))), .second, .unset, .unset, .unset] [(.int p3), (.ref b13)])) (fun _ kt => ?_) ?_
  · show Steps p.tables e below (T17.setTop (mkF m 37 #[.val (.long q1), .second, .val (.int p2), .val (.int p3), .val (.long bs), .second, .val (.ref b13), .val (.int (own_steps p2)), .unset, .unset, .unset, .unset, .unset] [(.long (bs * own_pw (min (0 + p2.toNatClampNeg) 6)))])) _
    refine XS.lstore X17.here hx rfl (hb hby at_37) rfl (l' := #[.val (.long q1), .second, .val (.int p2), .val (.int p3), .val (.long bs), .second, .val (.ref b13), .val (.int (own_steps p2)), .val (.long (bs * own_pw (min (0 + p2.toNatClampNeg) 6))), .second, .unset, .unset, .unset]) rfl ?_
    show Steps p.tables e below (T17.setTop (mkF m 39 #[.val (.long q1), .second, .val (.int p2), .val (.int p3), .val (.long bs), .second, .val (.ref b13), .val (.int (own_steps p2)), .val (.long (bs * own_pw (min (0 + p2.toNatClampNeg) 6))), .second, .unset, .unset, .unset] [])) _
    refine XS.aload X17.here hx rfl (hb hby at_39) rfl rfl ?_
    show Steps p.tables e below (T17.setTop (mkF m 41 #[.val (.long q1), .second, .val (.int p2), .val (.int p3), .val (.long bs), .second, .val (.ref b13), .val (.int (own_steps p2)), .val (.long (bs * own_pw (min (0 + p2.toNatClampNeg) 6))), .second, .unset, .unset, .unset] [(.ref b13)])) _
    refine XS.iloadN X17.here hx rfl (hb hby at_41) rfl ?_
    exact kt
  obtain ⟨cq18, kq18, q18a, q18b, q18c⟩ := isOf hZ e17 Ex15
  obtain ⟨_, _, ⟨T18, L18, k18, n18⟩, -, X18, ⟨Lc18, hQ18, l18, y18, z18⟩, st18⟩ := X17.virtualBack hx (y := (⟨"com/example/farspan/farspan/core/LeaderTimeout", "changed", "(I)V"⟩ : MethodName)) (z := (⟨"com/example/farspan/farspan/core/LeaderTimeout", "changed", "(I)V"⟩ : MethodName)) hown (mvT hZ (hw _ (List.mem_of_getElem? (i := 14) rfl))) (mvT hZ (hw _ (List.mem_of_getElem? (i := 15) rfl))) (notFace_of_selects (args := #[]) (mvT hZ (hw _ (List.mem_of_getElem? (i := 17) rfl)))) (mvT hZ (hw _ (List.mem_of_getElem? (i := 17) rfl))) (mvT hZ (hw _ (List.mem_of_getElem? (i := 16) rfl))) (by decide) (backOf (W := 0) (rm3 l Z a0 hw [] b13 p3 bs (min (0 + p2.toNatClampNeg) 6) _ T15.heap n0 Z3 hbs.1 hbs.2 (by omega) Ex15 Fl15 Fc15 Fd15 gb) hZ (hw _ (List.mem_of_getElem? (i := 18) rfl)) (hw _ (List.mem_of_getElem? (i := 3) rfl)) (by decide) (by decide)) q18a q18c (g := (mkF m 42 #[.val (.long q1), .second, .val (.int p2), .val (.int p3), .val (.long bs), .second, .val (.ref b13), .val (.int (own_steps p2)), .val (.long (bs * own_pw (min (0 + p2.toNatClampNeg) 6))), .second, .unset, .unset, .unset] [(.int p3), (.ref b13)])) rfl (by rw [hml]; rfl) (Steps.refl _) (argsL := [(.int p3)]) (rest := []) (lenOf pd_2 rfl) rfl (by show 2 * 0 + _ ≤ _; exact Nat.le_of_eq rfl) (hb hby at_42) (fun _ _ => ⟨rfl, e17, (by decide : 1 + 0 ≤ _), (by decide : 3 + 0 ≤ _)⟩)
  dsimp only [Pt.U, Pt.locs, Pt.cells, Pt.slots] at X18 l18 y18 z18 st18 hQ18
  subst l18 y18 z18
  obtain ⟨rfl, N18q, K18, Ex18, Fl18, Fc18, Fd18⟩ := hQ18
  have N18 := Fr.app N17 N18q
  refine Ends.st st18 ?_
  have Z4 : n0 ≤ T18.heap.size := Nat.le_trans Z3 K18.1
  refine Ends.of (F' := T18.setTop (mkF m 48 #[.val (.long q1), .second, .val (.int p2), .val (.int p3), .val (.long bs), .second, .val (.ref b13), .val (.int (own_steps p2)), .val (.long (bs * own_pw (min (0 + p2.toNatClampNeg) 6))), .second, .unset, .unset, .unset] [(.int p3), (.int (own_steps p2))])) (fun _ kt => ?_) ?_
  · show Steps p.tables e below (T18.setTop (mkF m 45 #[.val (.long q1), .second, .val (.int p2), .val (.int p3), .val (.long bs), .second, .val (.ref b13), .val (.int (own_steps p2)), .val (.long (bs * own_pw (min (0 + p2.toNatClampNeg) 6))), .second, .unset, .unset, .unset] [])) _
    refine XS.iload X18.here hx rfl (hb hby at_45) rfl ?_
    show Steps p.tables e below (T18.setTop (mkF m 47 #[.val (.long q1), .second, .val (.int p2), .val (.int p3), .val (.long bs), .second, .val (.ref b13), .val (.int (own_steps p2)), .val (.long (bs * own_pw (min (0 + p2.toNatClampNeg) 6))), .second, .unset, .unset, .unset] [(.int (own_steps p2))])) _
    refine XS.iloadN X18.here hx rfl (hb hby at_47) rfl ?_
    exact kt
  obtain ⟨_, _, ⟨T19, L19, k19, n19⟩, -, X19, ⟨Lc19, hQ19, l19, y19, z19⟩, st19⟩ := Jvm.LawKit.callS X18 hx (y := (⟨"com/example/farspan/farspan/core/LeaderTimeoutChangedPinLaw", "steps", "(I)I"⟩ : MethodName)) hown (mvT hZ (hw _ (List.mem_of_getElem? (i := 23) rfl))) (mvT hZ (hw _ (List.mem_of_getElem? (i := 24) rfl))) (mvT hZ (hw _ (List.mem_of_getElem? (i := 25) rfl))) (mvT hZ (hw _ (List.mem_of_getElem? (i := 26) rfl))) (by decide) (backOf (W := 1) (rm4 l Z a0 hw [] p3 T18.heap n0 Z4) hZ (hw _ (List.mem_of_getElem? (i := 26) rfl)) (hw _ (List.mem_of_getElem? (i := 25) rfl)) (by decide) (by decide)) (g := (mkF m 48 #[.val (.long q1), .second, .val (.int p2), .val (.int p3), .val (.long bs), .second, .val (.ref b13), .val (.int (own_steps p2)), .val (.long (bs * own_pw (min (0 + p2.toNatClampNeg) 6))), .second, .unset, .unset, .unset] [(.int p3), (.int (own_steps p2))])) rfl (by rw [hml]; rfl) (argsL := [(.int p3)]) (rest := [(.int (own_steps p2))]) (lenOf pd_3 rfl) rfl (by show 2 * 0 + _ ≤ _; exact Nat.le_of_eq rfl) (hb hby at_48) (fun _ _ => ⟨rfl, rfl, (by decide : 1 + 0 ≤ _), (by decide : 3 + 0 ≤ _)⟩)
  dsimp only [Pt.U, Pt.locs, Pt.cells, Pt.slots] at X19 l19 y19 z19 st19 hQ19
  subst l19 y19 z19
  obtain ⟨rfl, N19q, e19⟩ := hQ19
  have N19 := Fr.app N18 N19q
  refine Ends.of st19 ?_
  refine Ends.of (F' := T19.setTop (mkF m 54 #[.val (.long q1), .second, .val (.int p2), .val (.int p3), .val (.long bs), .second, .val (.ref b13), .val (.int (own_steps p2)), .val (.long (bs * own_pw (min (0 + p2.toNatClampNeg) 6))), .second, .unset, .unset, .unset] [(.int (6 : Int32)), (.int ((own_steps p2) + (own_steps p3)))])) (fun _ kt => ?_) ?_
  · show Steps p.tables e below (T19.setTop (mkF m 51 #[.val (.long q1), .second, .val (.int p2), .val (.int p3), .val (.long bs), .second, .val (.ref b13), .val (.int (own_steps p2)), .val (.long (bs * own_pw (min (0 + p2.toNatClampNeg) 6))), .second, .unset, .unset, .unset] [(.int (own_steps p3)), (.int (own_steps p2))])) _
    refine XS.iadd X19.here hx rfl (hb hby at_51) rfl ?_
    show Steps p.tables e below (T19.setTop (mkF m 52 #[.val (.long q1), .second, .val (.int p2), .val (.int p3), .val (.long bs), .second, .val (.ref b13), .val (.int (own_steps p2)), .val (.long (bs * own_pw (min (0 + p2.toNatClampNeg) 6))), .second, .unset, .unset, .unset] [(.int ((own_steps p2) + (own_steps p3)))])) _
    refine XS.bipush X19.here hx rfl (hb hby at_52) ?_
    exact kt
  obtain ⟨_, _, ⟨T20, L20, k20, n20⟩, -, X20, ⟨Lc20, hQ20, l20, y20, z20⟩, st20⟩ := Jvm.LawKit.callS X19 hx (y := (⟨"java/lang/Math", "min", "(II)I"⟩ : MethodName)) hown (mvT hZ (hw _ (List.mem_of_getElem? (i := 31) rfl))) (mvT hZ (hw _ (List.mem_of_getElem? (i := 32) rfl))) (mvT hZ (hw _ (List.mem_of_getElem? (i := 29) rfl))) (mvT hZ (hw _ (List.mem_of_getElem? (i := 33) rfl))) (by decide) (backOf (W := 0) (rm6 l Z a0 hw [] (own_steps p2 + own_steps p3) (6 : Int32) T18.heap n0 Z4) hZ (hw _ (List.mem_of_getElem? (i := 33) rfl)) (hw _ (List.mem_of_getElem? (i := 29) rfl)) (by decide) (by decide)) (g := (mkF m 54 #[.val (.long q1), .second, .val (.int p2), .val (.int p3), .val (.long bs), .second, .val (.ref b13), .val (.int (own_steps p2)), .val (.long (bs * own_pw (min (0 + p2.toNatClampNeg) 6))), .second, .unset, .unset, .unset] [(.int (6 : Int32)), (.int ((own_steps p2) + (own_steps p3)))])) rfl (by rw [hml]; rfl) (argsL := [(.int ((own_steps p2) + (own_steps p3))), (.int (6 : Int32))]) (rest := []) (lenOf pd_4 rfl) rfl (by show 2 * 0 + _ ≤ _; exact Nat.le_of_eq rfl) (hb hby at_54) (fun _ _ => ⟨rfl, e19, (by decide : 1 + 0 ≤ _), (by decide : 3 + 0 ≤ _)⟩)
  dsimp only [Pt.U, Pt.locs, Pt.cells, Pt.slots] at X20 l20 y20 z20 st20 hQ20
  subst l20 y20 z20
  obtain ⟨rfl, N20q, e20⟩ := hQ20
  have N20 := Fr.app N19 N20q
  refine Ends.of st20 ?_
  refine Ends.of (F' := T20.setTop (mkF m 61 #[.val (.long q1), .second, .val (.int p2), .val (.int p3), .val (.long bs), .second, .val (.ref b13), .val (.int (own_steps p2)), .val (.long (bs * own_pw (min (0 + p2.toNatClampNeg) 6))), .second, .val (.int (if (6 : Int32) < (own_steps p2 + own_steps p3) then (6 : Int32) else (own_steps p2 + own_steps p3))), .unset, .unset] [(.ref b13)])) (fun _ kt => ?_) ?_
  · show Steps p.tables e below (T20.setTop (mkF m 57 #[.val (.long q1), .second, .val (.int p2), .val (.int p3), .val (.long bs), .second, .val (.ref b13), .val (.int (own_steps p2)), .val (.long (bs * own_pw (min (0 + p2.toNatClampNeg) 6))), .second, .unset, .unset, .unset] [(.int (if (6 : Int32) < (own_steps p2 + own_steps p3) then (6 : Int32) else (own_steps p2 + own_steps p3)))])) _
    refine XS.istore X20.here hx rfl (hb hby at_57) rfl (l' := #[.val (.long q1), .second, .val (.int p2), .val (.int p3), .val (.long bs), .second, .val (.ref b13), .val (.int (own_steps p2)), .val (.long (bs * own_pw (min (0 + p2.toNatClampNeg) 6))), .second, .val (.int (if (6 : Int32) < (own_steps p2 + own_steps p3) then (6 : Int32) else (own_steps p2 + own_steps p3))), .unset, .unset]) rfl ?_
    show Steps p.tables e below (T20.setTop (mkF m 59 #[.val (.long q1), .second, .val (.int p2), .val (.int p3), .val (.long bs), .second, .val (.ref b13), .val (.int (own_steps p2)), .val (.long (bs * own_pw (min (0 + p2.toNatClampNeg) 6))), .second, .val (.int (if (6 : Int32) < (own_steps p2 + own_steps p3) then (6 : Int32) else (own_steps p2 + own_steps p3))), .unset, .unset] [])) _
    refine XS.aload X20.here hx rfl (hb hby at_59) rfl rfl ?_
    exact kt
  obtain ⟨cq21, kq21, q21a, q21b, q21c⟩ := isOf hZ e20 Ex18
  obtain ⟨_, _, ⟨T21, L21, k21, n21⟩, -, X21, ⟨Lc21, hQ21, l21, y21, z21⟩, st21⟩ := X20.virtualBack hx (y := (⟨"com/example/farspan/farspan/core/LeaderTimeout", "currentMs", "()J"⟩ : MethodName)) (z := (⟨"com/example/farspan/farspan/core/LeaderTimeout", "currentMs", "()J"⟩ : MethodName)) hown (mvT hZ (hw _ (List.mem_of_getElem? (i := 34) rfl))) (mvT hZ (hw _ (List.mem_of_getElem? (i := 35) rfl))) (notFace_of_selects (args := #[]) (mvT hZ (hw _ (List.mem_of_getElem? (i := 37) rfl)))) (mvT hZ (hw _ (List.mem_of_getElem? (i := 37) rfl))) (mvT hZ (hw _ (List.mem_of_getElem? (i := 36) rfl))) (by decide) (backOf (W := 0) (rm7 l Z a0 hw [] b13 (bs * own_pw (min ((min (0 + p2.toNatClampNeg) 6) + p3.toNatClampNeg) 6)) T18.heap n0 Z4 Fc18) hZ (hw _ (List.mem_of_getElem? (i := 38) rfl)) (hw _ (List.mem_of_getElem? (i := 3) rfl)) (by decide) (by decide)) q21a q21c (g := (mkF m 61 #[.val (.long q1), .second, .val (.int p2), .val (.int p3), .val (.long bs), .second, .val (.ref b13), .val (.int (own_steps p2)), .val (.long (bs * own_pw (min (0 + p2.toNatClampNeg) 6))), .second, .val (.int (if (6 : Int32) < (own_steps p2 + own_steps p3) then (6 : Int32) else (own_steps p2 + own_steps p3))), .unset, .unset] [(.ref b13)])) rfl (by rw [hml]; rfl) (Steps.refl _) (argsL := []) (rest := []) (lenOf pd_5 rfl) rfl (by show 2 * 0 + _ ≤ _; exact Nat.le_of_eq rfl) (hb hby at_61) (fun _ _ => ⟨rfl, e20, (by decide : 1 + 0 ≤ _), (by decide : 3 + 0 ≤ _)⟩)
  dsimp only [Pt.U, Pt.locs, Pt.cells, Pt.slots] at X21 l21 y21 z21 st21 hQ21
  subst l21 y21 z21
  obtain ⟨rfl, N21q, e21⟩ := hQ21
  have N21 := Fr.app N20 N21q
  refine Ends.st st21 ?_
  refine Ends.of (F' := T21.setTop (mkF m 93 #[.val (.long q1), .second, .val (.int p2), .val (.int p3), .val (.long bs), .second, .val (.ref b13), .val (.int (own_steps p2)), .val (.long (bs * own_pw (min (0 + p2.toNatClampNeg) 6))), .second, .val (.int (if (6 : Int32) < (own_steps p2 + own_steps p3) then (6 : Int32) else (own_steps p2 + own_steps p3))), .val (.long (bs * own_pw (min ((min (0 + p2.toNatClampNeg) 6) + p3.toNatClampNeg) 6))), .second] [(.int (1 : Int32))])) (fun _ kt => ?_) ?_
  · show Steps p.tables e below (T21.setTop (mkF m 64 #[.val (.long q1), .second, .val (.int p2), .val (.int p3), .val (.long bs), .second, .val (.ref b13), .val (.int (own_steps p2)), .val (.long (bs * own_pw (min (0 + p2.toNatClampNeg) 6))), .second, .val (.int (if (6 : Int32) < (own_steps p2 + own_steps p3) then (6 : Int32) else (own_steps p2 + own_steps p3))), .unset, .unset] [(.long (bs * own_pw (min ((min (0 + p2.toNatClampNeg) 6) + p3.toNatClampNeg) 6)))])) _
    refine XS.lstore X21.here hx rfl (hb hby at_64) rfl (l' := #[.val (.long q1), .second, .val (.int p2), .val (.int p3), .val (.long bs), .second, .val (.ref b13), .val (.int (own_steps p2)), .val (.long (bs * own_pw (min (0 + p2.toNatClampNeg) 6))), .second, .val (.int (if (6 : Int32) < (own_steps p2 + own_steps p3) then (6 : Int32) else (own_steps p2 + own_steps p3))), .val (.long (bs * own_pw (min ((min (0 + p2.toNatClampNeg) 6) + p3.toNatClampNeg) 6))), .second]) rfl ?_
    show Steps p.tables e below (T21.setTop (mkF m 66 #[.val (.long q1), .second, .val (.int p2), .val (.int p3), .val (.long bs), .second, .val (.ref b13), .val (.int (own_steps p2)), .val (.long (bs * own_pw (min (0 + p2.toNatClampNeg) 6))), .second, .val (.int (if (6 : Int32) < (own_steps p2 + own_steps p3) then (6 : Int32) else (own_steps p2 + own_steps p3))), .val (.long (bs * own_pw (min ((min (0 + p2.toNatClampNeg) 6) + p3.toNatClampNeg) 6))), .second] [])) _
    refine XS.lload X21.here hx rfl (hb hby at_66) rfl ?_
    show Steps p.tables e below (T21.setTop (mkF m 68 #[.val (.long q1), .second, .val (.int p2), .val (.int p3), .val (.long bs), .second, .val (.ref b13), .val (.int (own_steps p2)), .val (.long (bs * own_pw (min (0 + p2.toNatClampNeg) 6))), .second, .val (.int (if (6 : Int32) < (own_steps p2 + own_steps p3) then (6 : Int32) else (own_steps p2 + own_steps p3))), .val (.long (bs * own_pw (min ((min (0 + p2.toNatClampNeg) 6) + p3.toNatClampNeg) 6))), .second] [(.long (bs * own_pw (min (0 + p2.toNatClampNeg) 6)))])) _
    refine XS.lload X21.here hx rfl (hb hby at_68) rfl ?_
    show Steps p.tables e below (T21.setTop (mkF m 70 #[.val (.long q1), .second, .val (.int p2), .val (.int p3), .val (.long bs), .second, .val (.ref b13), .val (.int (own_steps p2)), .val (.long (bs * own_pw (min (0 + p2.toNatClampNeg) 6))), .second, .val (.int (if (6 : Int32) < (own_steps p2 + own_steps p3) then (6 : Int32) else (own_steps p2 + own_steps p3))), .val (.long (bs * own_pw (min ((min (0 + p2.toNatClampNeg) 6) + p3.toNatClampNeg) 6))), .second] [(.long bs), (.long (bs * own_pw (min (0 + p2.toNatClampNeg) 6)))])) _
    refine XS.iload X21.here hx rfl (hb hby at_70) rfl ?_
    show Steps p.tables e below (T21.setTop (mkF m 72 #[.val (.long q1), .second, .val (.int p2), .val (.int p3), .val (.long bs), .second, .val (.ref b13), .val (.int (own_steps p2)), .val (.long (bs * own_pw (min (0 + p2.toNatClampNeg) 6))), .second, .val (.int (if (6 : Int32) < (own_steps p2 + own_steps p3) then (6 : Int32) else (own_steps p2 + own_steps p3))), .val (.long (bs * own_pw (min ((min (0 + p2.toNatClampNeg) 6) + p3.toNatClampNeg) 6))), .second] [(.int (own_steps p2)), (.long bs), (.long (bs * own_pw (min (0 + p2.toNatClampNeg) 6)))])) _
    refine XS.lshl X21.here hx rfl (hb hby at_72) rfl ?_
    show Steps p.tables e below (T21.setTop (mkF m 73 #[.val (.long q1), .second, .val (.int p2), .val (.int p3), .val (.long bs), .second, .val (.ref b13), .val (.int (own_steps p2)), .val (.long (bs * own_pw (min (0 + p2.toNatClampNeg) 6))), .second, .val (.int (if (6 : Int32) < (own_steps p2 + own_steps p3) then (6 : Int32) else (own_steps p2 + own_steps p3))), .val (.long (bs * own_pw (min ((min (0 + p2.toNatClampNeg) 6) + p3.toNatClampNeg) 6))), .second] [(.long (bs <<< ((own_steps p2) &&& 0x3f).toInt64)), (.long (bs * own_pw (min (0 + p2.toNatClampNeg) 6)))])) _
    refine XS.lcmp X21.here hx rfl (hb hby at_73) rfl ?_
    show Steps p.tables e below (T21.setTop (mkF m 74 #[.val (.long q1), .second, .val (.int p2), .val (.int p3), .val (.long bs), .second, .val (.ref b13), .val (.int (own_steps p2)), .val (.long (bs * own_pw (min (0 + p2.toNatClampNeg) 6))), .second, .val (.int (if (6 : Int32) < (own_steps p2 + own_steps p3) then (6 : Int32) else (own_steps p2 + own_steps p3))), .val (.long (bs * own_pw (min ((min (0 + p2.toNatClampNeg) 6) + p3.toNatClampNeg) 6))), .second] [(.int (lcmpW (bs * own_pw (min (0 + p2.toNatClampNeg) 6)) (bs <<< ((own_steps p2) &&& 0x3f).toInt64)))])) _
    refine XS.ifNo X21.here hx rfl (hb hby at_74) rfl ((if0 _ _).trans (teq (own_first bs p2)).2) ?_
    show Steps p.tables e below (T21.setTop (mkF m 77 #[.val (.long q1), .second, .val (.int p2), .val (.int p3), .val (.long bs), .second, .val (.ref b13), .val (.int (own_steps p2)), .val (.long (bs * own_pw (min (0 + p2.toNatClampNeg) 6))), .second, .val (.int (if (6 : Int32) < (own_steps p2 + own_steps p3) then (6 : Int32) else (own_steps p2 + own_steps p3))), .val (.long (bs * own_pw (min ((min (0 + p2.toNatClampNeg) 6) + p3.toNatClampNeg) 6))), .second] [])) _
    refine XS.lload X21.here hx rfl (hb hby at_77) rfl ?_
    show Steps p.tables e below (T21.setTop (mkF m 79 #[.val (.long q1), .second, .val (.int p2), .val (.int p3), .val (.long bs), .second, .val (.ref b13), .val (.int (own_steps p2)), .val (.long (bs * own_pw (min (0 + p2.toNatClampNeg) 6))), .second, .val (.int (if (6 : Int32) < (own_steps p2 + own_steps p3) then (6 : Int32) else (own_steps p2 + own_steps p3))), .val (.long (bs * own_pw (min ((min (0 + p2.toNatClampNeg) 6) + p3.toNatClampNeg) 6))), .second] [(.long (bs * own_pw (min ((min (0 + p2.toNatClampNeg) 6) + p3.toNatClampNeg) 6)))])) _
    refine XS.lload X21.here hx rfl (hb hby at_79) rfl ?_
    show Steps p.tables e below (T21.setTop (mkF m 81 #[.val (.long q1), .second, .val (.int p2), .val (.int p3), .val (.long bs), .second, .val (.ref b13), .val (.int (own_steps p2)), .val (.long (bs * own_pw (min (0 + p2.toNatClampNeg) 6))), .second, .val (.int (if (6 : Int32) < (own_steps p2 + own_steps p3) then (6 : Int32) else (own_steps p2 + own_steps p3))), .val (.long (bs * own_pw (min ((min (0 + p2.toNatClampNeg) 6) + p3.toNatClampNeg) 6))), .second] [(.long bs), (.long (bs * own_pw (min ((min (0 + p2.toNatClampNeg) 6) + p3.toNatClampNeg) 6)))])) _
    refine XS.iload X21.here hx rfl (hb hby at_81) rfl ?_
    show Steps p.tables e below (T21.setTop (mkF m 83 #[.val (.long q1), .second, .val (.int p2), .val (.int p3), .val (.long bs), .second, .val (.ref b13), .val (.int (own_steps p2)), .val (.long (bs * own_pw (min (0 + p2.toNatClampNeg) 6))), .second, .val (.int (if (6 : Int32) < (own_steps p2 + own_steps p3) then (6 : Int32) else (own_steps p2 + own_steps p3))), .val (.long (bs * own_pw (min ((min (0 + p2.toNatClampNeg) 6) + p3.toNatClampNeg) 6))), .second] [(.int (if (6 : Int32) < (own_steps p2 + own_steps p3) then (6 : Int32) else (own_steps p2 + own_steps p3))), (.long bs), (.long (bs * own_pw (min ((min (0 + p2.toNatClampNeg) 6) + p3.toNatClampNeg) 6)))])) _
    refine XS.lshl X21.here hx rfl (hb hby at_83) rfl ?_
    show Steps p.tables e below (T21.setTop (mkF m 84 #[.val (.long q1), .second, .val (.int p2), .val (.int p3), .val (.long bs), .second, .val (.ref b13), .val (.int (own_steps p2)), .val (.long (bs * own_pw (min (0 + p2.toNatClampNeg) 6))), .second, .val (.int (if (6 : Int32) < (own_steps p2 + own_steps p3) then (6 : Int32) else (own_steps p2 + own_steps p3))), .val (.long (bs * own_pw (min ((min (0 + p2.toNatClampNeg) 6) + p3.toNatClampNeg) 6))), .second] [(.long (bs <<< ((if (6 : Int32) < (own_steps p2 + own_steps p3) then (6 : Int32) else (own_steps p2 + own_steps p3)) &&& 0x3f).toInt64)), (.long (bs * own_pw (min ((min (0 + p2.toNatClampNeg) 6) + p3.toNatClampNeg) 6)))])) _
    refine XS.lcmp X21.here hx rfl (hb hby at_84) rfl ?_
    show Steps p.tables e below (T21.setTop (mkF m 85 #[.val (.long q1), .second, .val (.int p2), .val (.int p3), .val (.long bs), .second, .val (.ref b13), .val (.int (own_steps p2)), .val (.long (bs * own_pw (min (0 + p2.toNatClampNeg) 6))), .second, .val (.int (if (6 : Int32) < (own_steps p2 + own_steps p3) then (6 : Int32) else (own_steps p2 + own_steps p3))), .val (.long (bs * own_pw (min ((min (0 + p2.toNatClampNeg) 6) + p3.toNatClampNeg) 6))), .second] [(.int (lcmpW (bs * own_pw (min ((min (0 + p2.toNatClampNeg) 6) + p3.toNatClampNeg) 6)) (bs <<< ((if (6 : Int32) < (own_steps p2 + own_steps p3) then (6 : Int32) else (own_steps p2 + own_steps p3)) &&& 0x3f).toInt64)))])) _
    refine XS.ifNo X21.here hx rfl (hb hby at_85) rfl ((if0 _ _).trans (teq (own_second bs p2 p3)).2) ?_
    show Steps p.tables e below (T21.setTop (mkF m 88 #[.val (.long q1), .second, .val (.int p2), .val (.int p3), .val (.long bs), .second, .val (.ref b13), .val (.int (own_steps p2)), .val (.long (bs * own_pw (min (0 + p2.toNatClampNeg) 6))), .second, .val (.int (if (6 : Int32) < (own_steps p2 + own_steps p3) then (6 : Int32) else (own_steps p2 + own_steps p3))), .val (.long (bs * own_pw (min ((min (0 + p2.toNatClampNeg) 6) + p3.toNatClampNeg) 6))), .second] [])) _
    refine XS.iconst X21.here hx rfl (hb hby at_88) ?_
    show Steps p.tables e below (T21.setTop (mkF m 89 #[.val (.long q1), .second, .val (.int p2), .val (.int p3), .val (.long bs), .second, .val (.ref b13), .val (.int (own_steps p2)), .val (.long (bs * own_pw (min (0 + p2.toNatClampNeg) 6))), .second, .val (.int (if (6 : Int32) < (own_steps p2 + own_steps p3) then (6 : Int32) else (own_steps p2 + own_steps p3))), .val (.long (bs * own_pw (min ((min (0 + p2.toNatClampNeg) 6) + p3.toNatClampNeg) 6))), .second] [(.int (1 : Int32))])) _
    refine XS.goto X21.here hx rfl (pc0 := 89) (pc' := 93) rfl (hb hby at_89) (by decide) (by decide) ?_
    exact kt
  obtain ⟨fs, hr, hrun, hended, hW, hsame⟩ := X21.leave (v := some (.int (1 : Int32))) (fun h => by rw [Bd.returns] at h; cases h)
  exact ⟨_, _, retN X21 hx (t := .boolean) Bd.returns (by simp) (hb hby at_93) hr, hrun, hended, _, _, rfl, ⟨rfl, N21⟩, ⟨_, rfl⟩, hW, hsame.mono (by decide) (by decide)⟩
set_option maxRecDepth 65536 in
set_option maxHeartbeats 40000000 in
theorem comes_1 {Post : Tables → Env → Array Value → State → Outcome → State → Prop} (hpost : ∀ tb e args s v u, (limb_1_1.after args s (.returned v) u = true ∧ limb_1_2.after args s (.returned v) u = true ∧ True) → FrameEnd s (.returned v) u (Jvm.fieldLocs frame_1_writes args s ++ Jvm.arrayLocs frame_1_arrays args s ++ Jvm.staticLocs frame_1_statics s) 16 128 → Post tb e args s (.returned v) u) :
    ArmFor flags0 classFile x code maxLocals ret World_1 tables_1 room_1 Calls_1 rest_1 Pre_1 Post := by
  intro l hfl _ _ p e ha hc hk s m args below hf hA hF happ hP
  obtain ⟨hcalls, hrest, hpre⟩ := hP
  obtain ⟨-, -, -, hnamed, -, -, -, hat⟩ := (Spec.applies_iff hf).mp happ
  obtain ⟨hg, hn⟩ := and_e (Cond.before_iff.mp (show (Jvm.Cond.and given_1 narrow_1).before args s = true from hpre))
  obtain ⟨g0, gt0⟩ := and_e hg
  obtain ⟨gv0, gt1⟩ := and_e gt0
  obtain ⟨gv1, gt2⟩ := and_e gt1
  obtain ⟨w0, w1, w2, rfl⟩ : ∃ w0 w1 w2 : Value, args = #[w0, w1, w2] := by
    have hs : args.size = 3 := by simpa [Cond.value, given_1] using g0
    obtain ⟨L⟩ := args
    match L, hs with
    | [w0, w1, w2], _ => exact ⟨w0, w1, w2, rfl⟩
  have hw := fun d (hd : d ∈ tables_1) => atoms_spec (ws := Jvm.Cond.code x code maxLocals ret :: tables_1) hat d (List.mem_cons_of_mem _ hd)
  have hfit : Fit s := fun {y c} hc i hi => by
    obtain ⟨ha, rfl⟩ := Array.getElem?_eq_some_iff.mp hc
    have q := List.all_eq_true.mp ((Array.all_eq_true_iff_forall_mem.mp hF) _ (Array.getElem_mem ha)) i (List.mem_range.mpr hi)
    simpa [Array.getElem?_eq_getElem hi] using q
  obtain ⟨i0, ei0⟩ := isL_v gv0
  obtain rfl : w0 = (.long i0) := Option.some.inj ei0
  obtain ⟨i1, ei1⟩ := is_v gv1
  obtain rfl : w1 = (.int i1) := Option.some.inj ei1
  obtain ⟨i2, ei2⟩ := is_v gt2
  obtain rfl : w2 = (.int i2) := Option.some.inj ei2
  obtain ⟨n, o, h1, h2, h3, _, L, rfl, ⟨rfl, N⟩, hq⟩ := rm0 l s _ hw tables_1 i0 i1 i2  s.heap s.heap.size (Nat.le_refl _)  p e ha hc hk s m _ below hf ((Spec.applies_iff_loose hf).mp happ).1 ⟨rfl, State.Warmed39.refl s, rfl⟩ trivial
  refine ⟨n, _, h1, h2, h3, hpost _ _ _ _ _ _ ⟨Cond.after_iff.mpr rfl, Cond.after_iff.mpr (eq_i res_at (Term.int_eval (1)) rfl), trivial⟩ ⟨hq.1, hq.2.1, (hq.2.2.sift fun y hy => Or.inr (N y hy)).mono (by decide) (by decide)⟩⟩
theorem main_1_1 : Claimed_1_1 := comes_1 fun _ _ _ _ _ _ h hF => ⟨h.1, hF⟩
theorem main_1_2 : Claimed_1_2 := comes_1 fun _ _ _ _ _ _ h hF => ⟨h.2.1, hF⟩
end Jvm.Pilot.@@N@@
namespace Jvm.Pilot.@@N@@
open Jvm Jvm.ClassFile Sem Op Lib Jvm.Free Jvm.Stand Jvm.Pilot.@@N@@.Jvm.D
/-! MADE BY PROGRAM (witnessworld.py) out of the Statement's table words and the real class files: 8 classes; the members and pool entries that the words name. The judged class is class 1, her method 1. -/
namespace start1
open Jvm.ClassFile
def u (s : String) : CpInfo := .utf8 (stringToUtf16 s)
/-- a pool by its gaps: so many unusable entries, then the entry; so many at the end -/
def gap : Nat → List CpInfo → List CpInfo
  | 0, r => r
  | n + 1, r => .unusable :: gap n r
def poolList (es : List (Nat × CpInfo)) (last : Nat) : List CpInfo := es.foldr (fun e r => gap e.1 (e.2 :: r)) (gap last [])
def pool (es : List (Nat × CpInfo)) (last : Nat) : Array CpInfo := ⟨poolList es last⟩
def fileOf (pool : Array CpInfo) (this : Nat) (attrs : Array Attribute := #[]) (ms : Array MethodInfo := #[]) (fl : Nat := 33) (sup : Nat := 0) (ifs : Array Nat := #[]) (fds : Array FieldInfo := #[]) : ClassFile where
  minorVersion := 0
  majorVersion := 65
  constantPool := pool
  accessFlags := fl
  thisClass := this
  superClass := sup
  interfaces := ifs
  fields := fds
  methods := ms
  attributes := attrs
def plain (name : String) (sup : Option ClassId) : Class where
  name := name
  kind := .ordinary
  loader := none
  accessFlags := 33
  super := sup
  interfaces := #[]
  cf := none
  fields := #[]
  methods := #[]
  instanceTypes := #[]
  staticTypes := #[]
  resolved := #[]
  callSites := []
  init := .initialized
  statics := none
  mirror := none

def pool0 : Array CpInfo := pool [(5, u "<init>"), (0, u "()V"), (1, .class_ 10), (1, u "java/lang/Object")] 113

def k0c0 : Code := { maxStack := 0, maxLocals := 1, code := object_method_1_code, exceptionTable := #[], attributes := #[] }
def k0m0 : Method := { name := "<init>", desc := "()V", sig := { parameters := [], returnType := none }, accessFlags := 1, code := some k0c0 }
/-- java/lang/Object -/
def k0 : Class := { plain "java/lang/Object" none with
  accessFlags := 33
  interfaces := #[]
  cf := some (fileOf pool0 8 #[] #[{ accessFlags := 1, nameIndex := 5, descriptorIndex := 6, attributes := #[] }] 33 0 #[] #[])
  fields := #[]
  methods := #[k0m0]
  instanceTypes := #[]
  staticTypes := #[]
  resolved := Array.replicate 124 none
  statics := none }

def pool1 : Array CpInfo := pool [(2, .class_ 4), (1, u "java/lang/Object"), (0, u "<init>"), (0, u "()V"), (0, .long 1099511627775), (1, .class_ 10), (0, u "com/example/farspan/farspan/core/LeaderTimeout"), (0, .methodref 9 12), (0, .nameAndType 5 13), (0, u "(J)V"), (0, .methodref 9 15), (0, .nameAndType 16 17), (0, u "changed"), (0, u "(I)V"), (0, .methodref 19 20), (0, .class_ 21), (0, .nameAndType 22 23), (0, u "com/example/farspan/farspan/core/LeaderTimeoutChangedPinLaw"), (0, u "steps"), (0, u "(I)I"), (0, .methodref 9 25), (0, .nameAndType 26 27), (0, u "currentMs"), (0, u "()J"), (0, .methodref 29 30), (0, .class_ 31), (0, .nameAndType 32 33), (0, u "java/lang/Math"), (0, u "min"), (0, u "(II)I"), (0, .methodref 29 35), (0, .nameAndType 36 33), (0, u "max"), (2, u "law"), (0, u "(JII)Z")] 3

def k1m0 : Method := { name := "<init>", desc := "()V", sig := { parameters := [], returnType := none }, accessFlags := 1, code := none }
def k1c1 : Code := { maxStack := 5, maxLocals := 13, code := code, exceptionTable := #[], attributes := #[] }
def k1m1 : Method := { name := "law", desc := "(JII)Z", sig := { parameters := [.long, .int, .int], returnType := some .boolean }, accessFlags := 9, code := some k1c1 }
def k1c2 : Code := { maxStack := 2, maxLocals := 1, code := method_3_code, exceptionTable := #[], attributes := #[] }
def k1m2 : Method := { name := "steps", desc := "(I)I", sig := { parameters := [.int], returnType := some .int }, accessFlags := 10, code := some k1c2 }
/-- com/example/farspan/farspan/core/LeaderTimeoutChangedPinLaw -/
def k1 : Class := { plain "com/example/farspan/farspan/core/LeaderTimeoutChangedPinLaw" (some 0) with
  accessFlags := 49
  interfaces := #[]
  cf := some (fileOf pool1 19 #[] #[{ accessFlags := 1, nameIndex := 5, descriptorIndex := 6, attributes := #[] }, { accessFlags := 9, nameIndex := 39, descriptorIndex := 40, attributes := #[] }, { accessFlags := 10, nameIndex := 22, descriptorIndex := 23, attributes := #[] }] 49 2 #[] #[])
  fields := #[]
  methods := #[k1m0, k1m1, k1m2]
  instanceTypes := #[]
  staticTypes := #[]
  resolved := Array.replicate 44 none
  statics := none }

def pool2 : Array CpInfo := pool [(1, .methodref 2 3), (0, .class_ 4), (0, .nameAndType 5 6), (0, u "java/lang/Object"), (0, u "<init>"), (0, u "()V"), (0, .fieldref 8 9), (0, .class_ 10), (0, .nameAndType 11 12), (0, u "com/example/farspan/farspan/core/LeaderTimeout"), (0, u "leaderTimeoutMs"), (0, u "J"), (0, .fieldref 8 14), (0, .nameAndType 15 12), (0, u "currentMs"), (0, .long 64), (1, .long 2), (1, .fieldref 8 21), (0, .nameAndType 22 23), (0, u "decided"), (0, u "I"), (6, u "STABLE"), (2, u "MOST_TIMES"), (1, u "(J)V"), (2, u "()J"), (0, u "changed"), (0, u "(I)V")] 3

def k2c0 : Code := { maxStack := 3, maxLocals := 3, code := prog_40_method_1_code, exceptionTable := #[], attributes := #[] }
def k2m0 : Method := { name := "<init>", desc := "(J)V", sig := { parameters := [.long], returnType := none }, accessFlags := 0, code := some k2c0 }
def k2c1 : Code := { maxStack := 2, maxLocals := 1, code := prog_40_method_2_code, exceptionTable := #[], attributes := #[] }
def k2m1 : Method := { name := "currentMs", desc := "()J", sig := { parameters := [], returnType := some .long }, accessFlags := 0, code := some k2c1 }
def k2c2 : Code := { maxStack := 6, maxLocals := 3, code := prog_40_method_3_code, exceptionTable := #[], attributes := #[] }
def k2m2 : Method := { name := "changed", desc := "(I)V", sig := { parameters := [.int], returnType := none }, accessFlags := 0, code := some k2c2 }
/-- com/example/farspan/farspan/core/LeaderTimeout -/
def k2 : Class := { plain "com/example/farspan/farspan/core/LeaderTimeout" (some 0) with
  accessFlags := 48
  interfaces := #[]
  cf := some (fileOf pool2 8 #[] #[{ accessFlags := 0, nameIndex := 5, descriptorIndex := 35, attributes := #[] }, { accessFlags := 0, nameIndex := 15, descriptorIndex := 38, attributes := #[] }, { accessFlags := 0, nameIndex := 39, descriptorIndex := 40, attributes := #[] }] 48 2 #[] #[{ accessFlags := 24, nameIndex := 30, descriptorIndex := 23, attributes := #[] }, { accessFlags := 24, nameIndex := 33, descriptorIndex := 23, attributes := #[] }, { accessFlags := 18, nameIndex := 11, descriptorIndex := 12, attributes := #[] }, { accessFlags := 2, nameIndex := 15, descriptorIndex := 12, attributes := #[] }, { accessFlags := 2, nameIndex := 22, descriptorIndex := 23, attributes := #[] }])
  fields := #[{ name := "STABLE", type := .int, accessFlags := 24, slot := 0, constantValue := 0 }, { name := "MOST_TIMES", type := .int, accessFlags := 24, slot := 1, constantValue := 0 }, { name := "leaderTimeoutMs", type := .long, accessFlags := 18, slot := 0, constantValue := 0 }, { name := "currentMs", type := .long, accessFlags := 2, slot := 1, constantValue := 0 }, { name := "decided", type := .int, accessFlags := 2, slot := 2, constantValue := 0 }]
  methods := #[k2m0, k2m1, k2m2]
  instanceTypes := #[.long, .long, .int]
  staticTypes := #[.int, .int]
  resolved := Array.replicate 44 none
  statics := none }

def pool3 : Array CpInfo := pool [(1, .class_ 2), (0, u "java/lang/Math"), (1, .class_ 6), (1, u "java/lang/Object"), (0, u "<init>"), (0, u "()V"), (89, .class_ 100), (1, u "java/lang/Math$RandomNumberGeneratorHolder"), (71, u "negativeZeroFloatBits"), (0, u "J"), (2, u "negativeZeroDoubleBits"), (21, u "max"), (2, u "min"), (43, u "$assertionsDisabled"), (0, u "Z"), (88, u "(II)I"), (2, u "twoToTheDoubleScaleDown"), (0, u "D"), (4, u "twoToTheDoubleScaleUp"), (9, u "E"), (3, u "PI"), (2, u "TAU"), (2, u "DEGREES_TO_RADIANS"), (0, u "RADIANS_TO_DEGREES")] 94

def k3m0 : Method := { name := "<init>", desc := "()V", sig := { parameters := [], returnType := none }, accessFlags := 2, code := none }
def k3c1 : Code := { maxStack := 2, maxLocals := 2, code := jdk_29_method_65_code, exceptionTable := #[], attributes := #[] }
def k3m1 : Method := { name := "max", desc := "(II)I", sig := { parameters := [.int, .int], returnType := some .int }, accessFlags := 9, code := some k3c1 }
def k3c2 : Code := { maxStack := 2, maxLocals := 2, code := jdk_29_method_69_code, exceptionTable := #[], attributes := #[] }
def k3m2 : Method := { name := "min", desc := "(II)I", sig := { parameters := [.int, .int], returnType := some .int }, accessFlags := 9, code := some k3c2 }
/-- java/lang/Math -/
def k3 : Class := { plain "java/lang/Math" (some 0) with
  accessFlags := 49
  interfaces := #[]
  cf := some (fileOf pool3 1 #[.nestMembers #[98]] #[{ accessFlags := 2, nameIndex := 7, descriptorIndex := 8, attributes := #[] }, { accessFlags := 9, nameIndex := 198, descriptorIndex := 335, attributes := #[] }, { accessFlags := 9, nameIndex := 201, descriptorIndex := 335, attributes := #[] }] 49 4 #[] #[{ accessFlags := 25, nameIndex := 354, descriptorIndex := 339, attributes := #[] }, { accessFlags := 25, nameIndex := 358, descriptorIndex := 339, attributes := #[] }, { accessFlags := 25, nameIndex := 361, descriptorIndex := 339, attributes := #[] }, { accessFlags := 26, nameIndex := 364, descriptorIndex := 339, attributes := #[] }, { accessFlags := 26, nameIndex := 365, descriptorIndex := 339, attributes := #[] }, { accessFlags := 26, nameIndex := 172, descriptorIndex := 173, attributes := #[] }, { accessFlags := 26, nameIndex := 176, descriptorIndex := 173, attributes := #[] }, { accessFlags := 8, nameIndex := 344, descriptorIndex := 339, attributes := #[] }, { accessFlags := 8, nameIndex := 338, descriptorIndex := 339, attributes := #[] }, { accessFlags := 4120, nameIndex := 245, descriptorIndex := 246, attributes := #[] }])
  fields := #[{ name := "E", type := .double, accessFlags := 25, slot := 0, constantValue := 0 }, { name := "PI", type := .double, accessFlags := 25, slot := 1, constantValue := 0 }, { name := "TAU", type := .double, accessFlags := 25, slot := 2, constantValue := 0 }, { name := "DEGREES_TO_RADIANS", type := .double, accessFlags := 26, slot := 3, constantValue := 0 }, { name := "RADIANS_TO_DEGREES", type := .double, accessFlags := 26, slot := 4, constantValue := 0 }, { name := "negativeZeroFloatBits", type := .long, accessFlags := 26, slot := 5, constantValue := 0 }, { name := "negativeZeroDoubleBits", type := .long, accessFlags := 26, slot := 6, constantValue := 0 }, { name := "twoToTheDoubleScaleUp", type := .double, accessFlags := 8, slot := 7, constantValue := 0 }, { name := "twoToTheDoubleScaleDown", type := .double, accessFlags := 8, slot := 8, constantValue := 0 }, { name := "$assertionsDisabled", type := .boolean, accessFlags := 4120, slot := 9, constantValue := 0 }]
  methods := #[k3m0, k3m1, k3m2]
  instanceTypes := #[]
  staticTypes := #[.double, .double, .double, .double, .double, .long, .long, .double, .double, .boolean]
  resolved := Array.replicate 460 none
  statics := none }

def pool4 : Array CpInfo := pool [(1, u "java/lang/Cloneable"), (0, .class_ 1), (0, u "java/lang/Object"), (0, .class_ 3)] 3

/-- java/lang/Cloneable -/
def k4 : Class := { plain "java/lang/Cloneable" (some 0) with
  accessFlags := 1537
  interfaces := #[]
  cf := some (fileOf pool4 2 #[] #[] 1537 4 #[] #[])
  fields := #[]
  methods := #[]
  instanceTypes := #[]
  staticTypes := #[]
  resolved := Array.replicate 8 none
  statics := none }

def pool5 : Array CpInfo := pool [(1, u "java/io/Serializable"), (0, .class_ 1), (0, u "java/lang/Object"), (0, .class_ 3)] 3

/-- java/io/Serializable -/
def k5 : Class := { plain "java/io/Serializable" (some 0) with
  accessFlags := 1537
  interfaces := #[]
  cf := some (fileOf pool5 2 #[] #[] 1537 4 #[] #[])
  fields := #[]
  methods := #[]
  instanceTypes := #[]
  staticTypes := #[]
  resolved := Array.replicate 8 none
  statics := none }

/-- the primitive byte -/
def k6 : Class := { plain "byte" none with kind := .primitive 'B', accessFlags := 0x411 }
/-- [B -/
def k7 : Class := { plain "[B" (some 0) with kind := .array 6 .byte, interfaces := #[4, 5], accessFlags := 1041 }

def heap : Heap := #[]
def classes : Array Class := #[k0, k1, k2, k3, k4, k5, k6, k7]
def interned : List (Array UInt16 × Addr) := []
def slotsUsed : Nat := 0
def theMethod : MethodId := ⟨1, 1⟩
def args0 : Array Value := #[.long 5, .int 2, .int 3]
def aboutOver (below : List Frame) : State where
  vm := { classes := classes, interned := interned.toArray }
  heap := heap
  slotsUsed := slotsUsed
  threads := #[{ frames := .invoking theMethod args0 :: below }]
def below0 : List Frame := [.native { method := ⟨0, 0⟩, args := #[] }]
def about1 : State := aboutOver below0
def p0 : Program := .bare "" "" ""
def e0 : Env := launch0.env 0 0 0
theorem w_frames : about1.frames = Frame.invoking theMethod args0 :: below0 := rfl
set_option maxRecDepth 65536 in
theorem w_args : argsFit about1.vm theMethod args0 = true := by decide +kernel
set_option maxRecDepth 65536 in
theorem w_heap : heapFits about1 = true := by decide +kernel
set_option maxRecDepth 65536 in
theorem w_runnable : about1.curStatus? = some .runnable := by decide +kernel
set_option maxRecDepth 65536 in
theorem w_alone : about1.alone = true := by decide +kernel
set_option maxRecDepth 65536 in
theorem w_named : about1.methodNamed? x = some theMethod := by decide +kernel
set_option maxRecDepth 65536 in
theorem w_hears : about1.hears theMethod below0 = true := by decide +kernel
set_option maxRecDepth 65536 in
theorem w_ripe : about1.ripe theMethod args0 below0 = true := by decide +kernel
theorem w_running : about1.status = .running := rfl
set_option maxRecDepth 65536 in
theorem w_room : about1.hasRoom e0.platform room_1 = true :=
  launch0.hasRoom_least _ room_1 (by decide +kernel) (by decide +kernel) (by decide +kernel) (by decide +kernel) (by decide +kernel) (by decide +kernel)
theorem allAtoms_all (ts : List Jvm.Cond) (a : Array Jvm.Value) (st : Jvm.State) : (allAtoms ts).before a st = ts.all (fun c => c.before a st) := by
  induction ts with
  | nil => rfl
  | cons c t ih =>
    show (Jvm.Cond.and c (allAtoms t)).before a st = _
    rw [Jvm.Cond.before_and, ih, List.all_cons]
def words1 : List Jvm.Cond := Jvm.Cond.code x code maxLocals ret :: tables_1
/-- a 'code' word, met by the world's own term for the bytes: nothing is compared byte by byte -/
theorem code_word {y : MethodName} {bytes : ByteArray} {mx : Nat} {rt : Option FieldType} {a : Array Value} {s : State} {m : MethodId} {meth : Method} {c : Code} (h1 : s.methodNamed? y = some m) (h2 : s.vm.method? m = some meth) (h3 : meth.code = some c) (h4 : c.code = bytes)
    (h5 : (c.maxLocals == mx && c.exceptionTable.isEmpty && decide (c.maxStack ≤ mostOperands) && decide (meth.sig.returnType = rt) && !meth.locks && decide (parseMethodDescriptor y.desc = some meth.sig)) = true) : (Jvm.Cond.code y bytes mx rt).before a s = true := by
  simp only [Bool.and_eq_true, beq_iff_eq, Bool.not_eq_true', decide_eq_true_eq] at h5
  obtain ⟨⟨⟨⟨⟨g1, g2⟩, g3⟩, g4⟩, g5⟩, g6⟩ := h5
  simp [Cond.before, Cond.holds, Cond.value, h1, h2, h3, h4, g1, g2, g3, g4, g5, g6]
def isCode : Jvm.Cond → Bool
  | .code _ _ _ _ => true
  | _ => false
theorem all_split {L : List Jvm.Cond} {P : Jvm.Cond → Bool} (h1 : L.all (fun c => isCode c || P c) = true) (h2 : ∀ c ∈ L.filter isCode, P c = true) : L.all P = true := by
  refine List.all_eq_true.mpr fun c hc => ?_
  have h := List.all_eq_true.mp h1 c hc
  rcases Bool.eq_false_or_eq_true (isCode c) with hi | hi
  · exact h2 c (List.mem_filter.mpr ⟨hc, hi⟩)
  · simpa [hi] using h
set_option maxRecDepth 65536 in
theorem w_c0 : (Jvm.Cond.code x code maxLocals ret).before args0 about1 = true := code_word (m := ⟨1, 1⟩) (meth := k1m1) (c := k1c1) (by decide +kernel) rfl rfl rfl (by decide +kernel)
set_option maxRecDepth 65536 in
theorem w_c1 : (Jvm.Cond.code ({ cls := "com/example/farspan/farspan/core/LeaderTimeout", name := "<init>", desc := "(J)V" } : Jvm.MethodName) prog_40_method_1_code (3 : Nat) (Option.none : Option Jvm.ClassFile.FieldType)).before args0 about1 = true := code_word (m := ⟨2, 0⟩) (meth := k2m0) (c := k2c0) (by decide +kernel) rfl rfl rfl (by decide +kernel)
set_option maxRecDepth 65536 in
theorem w_c2 : (Jvm.Cond.code ({ cls := "java/lang/Object", name := "<init>", desc := "()V" } : Jvm.MethodName) object_method_1_code (1 : Nat) (Option.none : Option Jvm.ClassFile.FieldType)).before args0 about1 = true := code_word (m := ⟨0, 0⟩) (meth := k0m0) (c := k0c0) (by decide +kernel) rfl rfl rfl (by decide +kernel)
set_option maxRecDepth 65536 in
theorem w_c3 : (Jvm.Cond.code ({ cls := "com/example/farspan/farspan/core/LeaderTimeout", name := "changed", desc := "(I)V" } : Jvm.MethodName) prog_40_method_3_code (3 : Nat) (Option.none : Option Jvm.ClassFile.FieldType)).before args0 about1 = true := code_word (m := ⟨2, 2⟩) (meth := k2m2) (c := k2c2) (by decide +kernel) rfl rfl rfl (by decide +kernel)
set_option maxRecDepth 65536 in
theorem w_c4 : (Jvm.Cond.code ({ cls := "com/example/farspan/farspan/core/LeaderTimeoutChangedPinLaw", name := "steps", desc := "(I)I" } : Jvm.MethodName) method_3_code (1 : Nat) (Option.some Jvm.ClassFile.FieldType.int)).before args0 about1 = true := code_word (m := ⟨1, 2⟩) (meth := k1m2) (c := k1c2) (by decide +kernel) rfl rfl rfl (by decide +kernel)
set_option maxRecDepth 65536 in
theorem w_c5 : (Jvm.Cond.code ({ cls := "java/lang/Math", name := "max", desc := "(II)I" } : Jvm.MethodName) jdk_29_method_65_code (2 : Nat) (Option.some Jvm.ClassFile.FieldType.int)).before args0 about1 = true := code_word (m := ⟨3, 1⟩) (meth := k3m1) (c := k3c1) (by decide +kernel) rfl rfl rfl (by decide +kernel)
set_option maxRecDepth 65536 in
theorem w_c6 : (Jvm.Cond.code ({ cls := "java/lang/Math", name := "min", desc := "(II)I" } : Jvm.MethodName) jdk_29_method_69_code (2 : Nat) (Option.some Jvm.ClassFile.FieldType.int)).before args0 about1 = true := code_word (m := ⟨3, 2⟩) (meth := k3m2) (c := k3c2) (by decide +kernel) rfl rfl rfl (by decide +kernel)
set_option maxRecDepth 65536 in
theorem w_c7 : (Jvm.Cond.code ({ cls := "com/example/farspan/farspan/core/LeaderTimeout", name := "currentMs", desc := "()J" } : Jvm.MethodName) prog_40_method_2_code (1 : Nat) (Option.some Jvm.ClassFile.FieldType.long)).before args0 about1 = true := code_word (m := ⟨2, 1⟩) (meth := k2m1) (c := k2c1) (by decide +kernel) rfl rfl rfl (by decide +kernel)
def codes1 : List Jvm.Cond := [Jvm.Cond.code x code maxLocals ret, Jvm.Cond.code ({ cls := "com/example/farspan/farspan/core/LeaderTimeout", name := "<init>", desc := "(J)V" } : Jvm.MethodName) prog_40_method_1_code (3 : Nat) (Option.none : Option Jvm.ClassFile.FieldType), Jvm.Cond.code ({ cls := "java/lang/Object", name := "<init>", desc := "()V" } : Jvm.MethodName) object_method_1_code (1 : Nat) (Option.none : Option Jvm.ClassFile.FieldType), Jvm.Cond.code ({ cls := "com/example/farspan/farspan/core/LeaderTimeout", name := "changed", desc := "(I)V" } : Jvm.MethodName) prog_40_method_3_code (3 : Nat) (Option.none : Option Jvm.ClassFile.FieldType), Jvm.Cond.code ({ cls := "com/example/farspan/farspan/core/LeaderTimeoutChangedPinLaw", name := "steps", desc := "(I)I" } : Jvm.MethodName) method_3_code (1 : Nat) (Option.some Jvm.ClassFile.FieldType.int), Jvm.Cond.code ({ cls := "java/lang/Math", name := "max", desc := "(II)I" } : Jvm.MethodName) jdk_29_method_65_code (2 : Nat) (Option.some Jvm.ClassFile.FieldType.int), Jvm.Cond.code ({ cls := "java/lang/Math", name := "min", desc := "(II)I" } : Jvm.MethodName) jdk_29_method_69_code (2 : Nat) (Option.some Jvm.ClassFile.FieldType.int), Jvm.Cond.code ({ cls := "com/example/farspan/farspan/core/LeaderTimeout", name := "currentMs", desc := "()J" } : Jvm.MethodName) prog_40_method_2_code (1 : Nat) (Option.some Jvm.ClassFile.FieldType.long)]
set_option maxRecDepth 65536 in
theorem codes_eq : words1.filter isCode = codes1 := rfl
theorem w_codes : ∀ c ∈ words1.filter isCode, c.before args0 about1 = true := by
  rw [codes_eq]
  intro c hc
  simp only [codes1, List.mem_cons, List.not_mem_nil, or_false] at hc
  rcases hc with rfl | rfl | rfl | rfl | rfl | rfl | rfl | rfl
  · exact w_c0
  · exact w_c1
  · exact w_c2
  · exact w_c3
  · exact w_c4
  · exact w_c5
  · exact w_c6
  · exact w_c7
set_option maxRecDepth 65536 in
theorem w_t1 : (words1.take 24).all (fun c => isCode c || c.before args0 about1) = true := by decide +kernel
set_option maxRecDepth 65536 in
theorem w_t2 : (words1.drop 24).all (fun c => isCode c || c.before args0 about1) = true := by decide +kernel
theorem w_tables : (allAtoms (Jvm.Cond.code x code maxLocals ret :: tables_1)).before args0 about1 = true := by
  rw [allAtoms_all]
  show words1.all (fun c => c.before args0 about1) = true
  refine all_split ?_ w_codes
  rw [← List.take_append_drop 24 words1, List.all_append, w_t1, w_t2]
  rfl
set_option maxRecDepth 65536 in
theorem w_case : (Jvm.Cond.and given_1 narrow_1).before args0 about1 = true := by decide +kernel
theorem w_applies : (headSpec (Jvm.Cond.code x code maxLocals ret :: tables_1) room_1).applies x e0.platform about1 = true :=
  (Spec.applies_iff w_frames).mpr ⟨w_running, w_runnable, w_alone, w_named, w_hears, w_ripe, w_room, w_tables⟩
theorem atStart : AtStart classFile x code maxLocals ret World_1 tables_1 room_1 Calls_1 rest_1 Pre_1 launch0 p0 e0 about1 theMethod args0 below0 :=
  ⟨lists_1, trivial, launch0.admits_env _ _ _, launch0.least_env, fairChoices_fair.cas, fairChoices_fair.clock, w_frames, w_args, w_heap, w_applies, trivial, trivial, w_case⟩
end start1
theorem witness_1 : WitnessClaimed_1 := ⟨start1.p0, start1.e0, start1.about1, start1.theMethod, start1.args0, start1.below0, start1.atStart⟩
end Jvm.Pilot.@@N@@
