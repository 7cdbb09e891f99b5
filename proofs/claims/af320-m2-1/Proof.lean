import JvmDerived
import JvmDerived.Pilot.@@N@@Statement
import JvmDerived.Pilot.@@N@@Code
set_option linter.unusedVariables false
set_option linter.unusedSimpArgs false
namespace Jvm.RoadKit
open Sem ClassFile Op Lib Jvm.Stand Jvm.Free Jvm.LawKit
section New
variable {p : Program} {l : Launch} {e : Env} {R : Room} {s : State} {m : MethodId} {args : Array Value} {below : List Frame} {meth : Method} {c : Code} {T : State} {locs : List Loc} {cells slots : Nat}
theorem retI (X : Stand p l e R s m args below meth c T locs cells slots) (hx : p.tables.exec = Jvm.exec) {pc : Nat} {Ls : Array Slot} {z : Int32} {rest : List Value} (hret : meth.sig.returnType = some .int) (hd : decode c.code pc = .ok (.ireturn, 1)) {fs : List Frame}
    (hl : ∀ (f : JFrame) (acts : List Action), f.method = m → f.locked = none → f.entered = [] → (doReturn e (T.setTop f) acts (some (.int z))).1 = T.setFrames fs) : Steps p.tables e below (T.setTop (mkF m pc Ls (.int z :: rest))) (T.setFrames fs) := by
  have hm' : T.vm.method? m = some meth := X.method'
  have hn : narrow .int (.int z) = .int z := rfl
  show Steps p.tables e below (T.setTop { method := m, pc := pc, locals := Ls, stack := _ :: rest, locked := none }) _
  jvm_step X.here [X.here.top, hx, hd, hm', hret, hn]
  first | (intro acts; rw [hl _ acts rfl rfl rfl]) | rw [hl _ _ rfl rfl rfl]
  exact Steps.refl _
end New
end Jvm.RoadKit
namespace Jvm.Pilot.@@N@@
open Jvm Jvm.ClassFile Sem Op Lib Jvm.Free Jvm.Stand Jvm.LawKit Jvm.RoadKit Bundle Jvm.Pilot.@@N@@.Jvm.D
/-- from the state F the walk ends as Q says (what it returns, the heap, the places written) -/
def Ends (p : Program) (e : Env) (below : List Frame) (s : State) (R : Room) (Q : Option Value → Heap → List Loc → Prop) (F : State) : Prop :=
  ∃ t o, Steps p.tables e below F t ∧ t.status = .running ∧ Ended t below o ∧ ∃ v L, o = .returned v ∧ Q v t.heap L ∧ FrameEnd s o t L R.cells R.slots
theorem Ends.of {p : Program} {e : Env} {below : List Frame} {s : State} {R : Room} {Q : Option Value → Heap → List Loc → Prop} {F F' : State} (h : ∀ t, Steps p.tables e below F' t → Steps p.tables e below F t) (k : Ends p e below s R Q F') : Ends p e below s R Q F := by
  obtain ⟨t, o, h1, r⟩ := k
  exact ⟨t, o, h t h1, r⟩
theorem Ends.st {p : Program} {e : Env} {below : List Frame} {s : State} {R : Room} {Q : Option Value → Heap → List Loc → Prop} {F F' : State} (h : Steps p.tables e below F F') (k : Ends p e below s R Q F') : Ends p e below s R Q F := Ends.of (fun _ q => h.trans q) k

theorem own_nat (z : Int32) (b : Nat) (h0 : 0 ≤ z.toInt) (h1 : z.toInt ≤ b) : ∃ n : Nat, n ≤ b ∧ z = Int32.ofNat n := by
  have := rng32 z
  refine ⟨z.toInt.toNat, by omega, Int32.toInt_inj.mp ?_⟩
  rw [Int32.toInt_ofNat_of_lt (by omega)]
  omega
theorem own_tl (t : Int32) : ∃ n : Nat, n ≤ 4 ∧ (((t.toUInt32 >>> ((8 : Int32) &&& 31).toUInt32).toInt32) % (5 : Int32)) = Int32.ofNat n := by
  have h := c_iushr t (8 : Int32) 8 (by decide) (by decide)
  have h2 := (c_irem ((t.toUInt32 >>> ((8 : Int32) &&& 31).toUInt32).toInt32) (5 : Int32) 5 (by decide)).1 (by omega)
  exact own_nat _ 4 (by omega) (by omega)
theorem own_wl (t : Int32) : ∃ n : Nat, n ≤ 3 ∧ (((t.toUInt32 >>> ((6 : Int32) &&& 31).toUInt32).toInt32) &&& (3 : Int32)) = Int32.ofNat n := by
  have h := c_mask ((t.toUInt32 >>> ((6 : Int32) &&& 31).toUInt32).toInt32) (3 : Int32) 2 (by decide) (by decide)
  exact own_nat _ 3 (by omega) (by omega)
theorem own_at (t : Int32) : ∃ n : Nat, n ≤ 7 ∧ (t &&& (7 : Int32)) = Int32.ofNat n := by
  have h := c_mask t (7 : Int32) 3 (by decide) (by decide)
  exact own_nat _ 7 (by omega) (by omega)
theorem own_toInt {n : Nat} (h : n ≤ 1000) : (Int32.ofNat n).toInt = n := Int32.toInt_ofNat_of_lt (by omega)
theorem own_ltN (i n : Nat) (h : i ≤ 1000) (h' : n ≤ 1000) : Int32.ofNat i < Int32.ofNat n ↔ i < n := by
  rw [Int32.lt_iff_toInt_lt, own_toInt h, own_toInt h']
  omega
theorem own_add (a b : Nat) : Int32.ofNat a + Int32.ofNat b = Int32.ofNat (a + b) := (Int32.ofNat_add a b).symm
theorem own_ltA (k a b : Nat) (h : k ≤ 1000) (h' : a + b ≤ 1000) : Int32.ofNat k < (Int32.ofNat a + Int32.ofNat b) ↔ k < a + b := by
  rw [own_add]
  exact own_ltN k (a + b) h h'
theorem own_clamp {n : Nat} (h : n ≤ 1000) : (Int32.ofNat n).toNatClampNeg = n := by
  have e : (Int32.ofNat n).toNatClampNeg = (Int32.ofNat n).toInt.toNat := rfl
  rw [e, own_toInt h]
  omega
theorem own_nn {n : Nat} (h : n ≤ 1000) : ¬ Int32.ofNat n < (0 : Int32) := by
  rw [Int32.lt_iff_toInt_lt, own_toInt h]
  have : ((0 : Int32)).toInt = 0 := by decide
  omega
def own_pick (x : Int32) : Int32 := if (x &&& (3 : Int32)) = (0 : Int32) then (97 : Int32) else if (x &&& (3 : Int32)) = (1 : Int32) then (65 : Int32) else if (x &&& (3 : Int32)) = (2 : Int32) then (98 : Int32) else (233 : Int32)
theorem own_pickn (x : Int32) : nar .char (own_pick x) = own_pick x := by
  unfold own_pick
  split
  · decide
  · split
    · decide
    · split <;> decide
def own_tx (x : Int32) (i : Nat) : Int32 := if i = 0 then own_pick x else if i = 1 then own_pick ((x.toUInt32 >>> ((2 : Int32) &&& 31).toUInt32).toInt32) else if i = 2 then own_pick ((x.toUInt32 >>> ((4 : Int32) &&& 31).toUInt32).toInt32) else own_pick ((x.toUInt32 >>> ((6 : Int32) &&& 31).toUInt32).toInt32)
/-- an array of chars of length n whose first j places hold X -/
def Chr (Z : State) (h : Heap) (a : Addr) (n j : Nat) (X : Nat → Int32) : Prop := ∃ c : Cell, Arr Z h a c .char ∧ c.slots.size = n ∧ ∀ i, i < j → i < n → c.slots[i]? = some (.int (X i))
theorem Chr.lt {Z : State} {h : Heap} {a : Addr} {n j : Nat} {X : Nat → Int32} (C : Chr Z h a n j X) : a < h.size := by
  obtain ⟨c, A, -⟩ := C
  exact A.lt
theorem Chr.ext {Z : State} {h h' : Heap} {a : Addr} {n j : Nat} {X : Nat → Int32} (C : Chr Z h a n j X) (E : Ext h h') : Chr Z h' a n j X := by
  obtain ⟨c, A, r⟩ := C
  exact ⟨c, A.ext E, r⟩
theorem Chr.other {Z : State} {h h' : Heap} {a b : Addr} {n j sl : Nat} {v : Value} {X : Nat → Int32} (C : Chr Z h a n j X) (W : Wr h h' b sl v) (q : a ≠ b) : Chr Z h' a n j X := by
  obtain ⟨c, A, r⟩ := C
  exact ⟨c, A.other W q, r⟩
theorem Chr.new {Z : State} {h : Heap} {a : Addr} {k : ClassId} {z : Int32} {n : Nat} {X : Nat → Int32} (A : Arr Z h a (newA k .char z) .char) (e : z.toNatClampNeg = n) : Chr Z h a n 0 X :=
  ⟨_, A, by rw [sz_new, e], fun i h => absurd h (Nat.not_lt_zero i)⟩
theorem Chr.mono {Z : State} {h : Heap} {a : Addr} {n j j' : Nat} {X : Nat → Int32} (C : Chr Z h a n j X) (q : ∀ i, i < j' → i < n → i < j) : Chr Z h a n j' X := by
  obtain ⟨c, A, S, H⟩ := C
  exact ⟨c, A, S, fun i h1 h2 => H i (q i h1 h2) h2⟩
theorem Chr.set {Z : State} {h h' : Heap} {a : Addr} {c : Cell} {n j : Nat} {X : Nat → Int32} {q x : Int32} (A : Arr Z h a c .char) (S : c.slots.size = n) (H : ∀ i, i < j → i < n → c.slots[i]? = some (.int (X i))) (hq : q.toNatClampNeg = j) (W : Wr h h' a q.toNatClampNeg (.int x)) (hx : x = X j) : Chr Z h' a n (j + 1) X := by
  refine ⟨c.setSlot q.toNatClampNeg (.int x), A.same W, by rw [sz_set, S], fun i h1 h2 => ?_⟩
  rw [hq]
  show (c.slots.setIfInBounds j (.int x))[i]? = _
  by_cases e : i = j
  · subst e
    rw [Array.getElem?_setIfInBounds_self_of_lt (by rw [S]; exact h2), hx]
  · rw [Array.getElem?_setIfInBounds_ne (Ne.symm e)]
    exact H i (by omega) h2
theorem own_hin {c : Cell} {n i : Nat} {q : Int32} (S : c.slots.size = n) (e : q = Int32.ofNat i) (hi : i < n) (hn : n ≤ 1000) : ¬ (q < 0 ∨ c.slots.size ≤ q.toNatClampNeg) := by
  subst e
  rw [own_clamp (by omega), S]
  intro h
  exact h.elim (own_nn (by omega)) (by omega)
theorem own_hat {c : Cell} {n j i : Nat} {q : Int32} {X : Nat → Int32} (H : ∀ i, i < j → i < n → c.slots[i]? = some (.int (X i))) (e : q = Int32.ofNat i) (hi : i < n) (hj : i < j) (hn : n ≤ 1000) : c.slots[q.toNatClampNeg]? = some (.int (X i)) := by
  subst e
  rw [own_clamp (by omega)]
  exact H i hj hi
theorem pd_0 : parseMethodDescriptor "([CI[C)Z" = some ⟨[(.array .char), .int, (.array .char)], some .boolean⟩ := by decide +kernel
theorem pd_1 : parseMethodDescriptor "(I)C" = some ⟨[.int], some .char⟩ := by decide +kernel
theorem d2_0 : decode method_3_code 0 = .ok (.iload_n 0, 1) := by decide +kernel
theorem d2_1 : decode method_3_code 1 = .ok (.iconst 3, 1) := by decide +kernel
theorem d2_2 : decode method_3_code 2 = .ok (.iand, 1) := by decide +kernel
theorem d2_3 : decode method_3_code 3 = .ok (.istore_n 1, 1) := by decide +kernel
theorem d2_4 : decode method_3_code 4 = .ok (.iload_n 1, 1) := by decide +kernel
theorem d2_5 : decode method_3_code 5 = .ok (.ifCond .ne 6, 3) := by decide +kernel
theorem d2_8 : decode method_3_code 8 = .ok (.bipush 97, 2) := by decide +kernel
theorem d2_10 : decode method_3_code 10 = .ok (.ireturn, 1) := by decide +kernel
theorem d2_11 : decode method_3_code 11 = .ok (.iload_n 1, 1) := by decide +kernel
theorem d2_12 : decode method_3_code 12 = .ok (.iconst 1, 1) := by decide +kernel
theorem d2_13 : decode method_3_code 13 = .ok (.if_icmp .ne 6, 3) := by decide +kernel
theorem d2_16 : decode method_3_code 16 = .ok (.bipush 65, 2) := by decide +kernel
theorem d2_18 : decode method_3_code 18 = .ok (.ireturn, 1) := by decide +kernel
theorem d2_19 : decode method_3_code 19 = .ok (.iload_n 1, 1) := by decide +kernel
theorem d2_20 : decode method_3_code 20 = .ok (.iconst 2, 1) := by decide +kernel
theorem d2_21 : decode method_3_code 21 = .ok (.if_icmp .ne 6, 3) := by decide +kernel
theorem d2_24 : decode method_3_code 24 = .ok (.bipush 98, 2) := by decide +kernel
theorem d2_26 : decode method_3_code 26 = .ok (.ireturn, 1) := by decide +kernel
theorem d2_27 : decode method_3_code 27 = .ok (.sipush 233, 3) := by decide +kernel
theorem d2_30 : decode method_3_code 30 = .ok (.ireturn, 1) := by decide +kernel
theorem pn_0 : plainName "com/example/fence_finder/fencefinder/io/TextStartsWithPinLaw" = true := by first | (simp [plainName, overriddenIn]; done) | decide +kernel
def Q2 (Z : State) (p1 : Int32) (h0 : Heap) (n0 : Nat) (v : Option Value) (h : Heap) (L : List Loc) : Prop := v = some (.int (own_pick p1)) ∧ Fr n0 L ∧ h = h0
set_option maxRecDepth 65536 in
set_option maxHeartbeats 40000000 in
theorem rm2 (l : Launch) (Z : State) (a0 : Array Value) (hw : ∀ d ∈ tables_1, d.before a0 Z = true) (ws : List Jvm.Cond) (p1 : Int32) (h0 : Heap) (n0 : Nat) (Z0 : n0 ≤ h0.size) :
    MetFree l (⟨"com/example/fence_finder/fencefinder/io/TextStartsWithPinLaw", "pick", "(I)C"⟩ : MethodName) (head1 (Jvm.Cond.code (⟨"com/example/fence_finder/fencefinder/io/TextStartsWithPinLaw", "pick", "(I)C"⟩ : MethodName) method_3_code 2 (some .char) :: ws) ({ frames := 0, cells := 0, slots := 0, locals := 0 } : Room)) (fun a U => a = #[(.int p1)] ∧ Z.Warmed39 U.vm ∧ U.heap = h0) (fun _ _ _ _ _ => True) (fun _ U o U' => ∃ v L, o = .returned v ∧ Q2 Z p1 h0 n0 v U'.heap L ∧ FrameEnd U o U' L ({ frames := 0, cells := 0, slots := 0, locals := 0 } : Room).cells ({ frames := 0, cells := 0, slots := 0, locals := 0 } : Room).slots) := by
  refine MetFree.of_bodySF (plainFor_of_name pn_0) hisR ?_
  intro p e s m args below meth c s₁ Bd hml0 hP hK
  obtain ⟨rfl, hZ, hh⟩ := hP
  have hx := Bd.exec
  have hby := Bd.bytes
  have hml : c.maxLocals = 2 := hml0
  have hown : s.vm.findClass "com/example/fence_finder/fencefinder/io/TextStartsWithPinLaw" = some m.cls := findClass_of_methodNamed Bd.named
  have hnm := (name_of_methodNamed Bd.named Bd.method).1
  have X0 : Stand p l e ({ frames := 0, cells := 0, slots := 0, locals := 0 } : Room) s m #[(.int p1)] below meth c s₁ [] 0 0 := Stand.of_body Bd
  have e0 : s₁.heap = h0 := by rw [← hh, Bd.state]; rfl
  have N0 := Fr.nil n0
  have eF : entryFrame m #[(.int p1)] 2 = mkF m 0 #[.val (.int p1), .unset] [] := by first | (simp [entryFrame, mkF, argsToLocals, Value.category]; done) | rfl
  show Ends p e below s ({ frames := 0, cells := 0, slots := 0, locals := 0 } : Room) (Q2 Z p1 h0 n0) (s₁.setTop (entryFrame m #[(.int p1)] 2))
  rw [eF]
  refine Ends.of (F' := s₁.setTop (mkF m 5 #[.val (.int p1), .val (.int (p1 &&& (3 : Int32)))] [(.int (p1 &&& (3 : Int32)))])) (fun _ kt => ?_) ?_
  · show Steps p.tables e below (s₁.setTop (mkF m 0 #[.val (.int p1), .unset] [])) _
    refine XS.iloadN X0.here hx rfl (hb hby d2_0) rfl ?_
    show Steps p.tables e below (s₁.setTop (mkF m 1 #[.val (.int p1), .unset] [(.int p1)])) _
    refine XS.iconst X0.here hx rfl (hb hby d2_1) ?_
    show Steps p.tables e below (s₁.setTop (mkF m 2 #[.val (.int p1), .unset] [(.int (3 : Int32)), (.int p1)])) _
    refine XS.iand X0.here hx rfl (hb hby d2_2) rfl ?_
    show Steps p.tables e below (s₁.setTop (mkF m 3 #[.val (.int p1), .unset] [(.int (p1 &&& (3 : Int32)))])) _
    refine XS.istoreN X0.here hx rfl (hb hby d2_3) rfl (l' := #[.val (.int p1), .val (.int (p1 &&& (3 : Int32)))]) rfl ?_
    show Steps p.tables e below (s₁.setTop (mkF m 4 #[.val (.int p1), .val (.int (p1 &&& (3 : Int32)))] [])) _
    refine XS.iloadN X0.here hx rfl (hb hby d2_4) rfl ?_
    exact kt
  by_cases hc5 : (p1 &&& (3 : Int32)) = (0 : Int32)
  · refine Ends.of (F' := s₁.setTop (mkF m 10 #[.val (.int p1), .val (.int (p1 &&& (3 : Int32)))] [(.int (97 : Int32))])) (fun _ kt => ?_) ?_
    · show Steps p.tables e below (s₁.setTop (mkF m 5 #[.val (.int p1), .val (.int (p1 &&& (3 : Int32)))] [(.int (p1 &&& (3 : Int32)))])) _
      refine XS.ifNo X0.here hx rfl (hb hby d2_5) rfl ((if0 _ _).trans (teq hc5).2) ?_
      show Steps p.tables e below (s₁.setTop (mkF m 8 #[.val (.int p1), .val (.int (p1 &&& (3 : Int32)))] [])) _
      refine XS.bipush X0.here hx rfl (hb hby d2_8) ?_
      exact kt
    obtain ⟨fs, hr, hrun, hended, hW, hsame⟩ := X0.leave (v := some (.int (97 : Int32))) (fun h => by rw [Bd.returns] at h; cases h)
    exact ⟨_, _, retN X0 hx (t := .char) Bd.returns (by simp) (hb hby d2_10) hr, hrun, hended, _, _, rfl, ⟨by rw [own_pick, if_pos hc5], N0, e0⟩, ⟨_, rfl⟩, hW, hsame.mono (by decide) (by decide)⟩
  · refine Ends.of (F' := s₁.setTop (mkF m 13 #[.val (.int p1), .val (.int (p1 &&& (3 : Int32)))] [(.int (1 : Int32)), (.int (p1 &&& (3 : Int32)))])) (fun _ kt => ?_) ?_
    · show Steps p.tables e below (s₁.setTop (mkF m 5 #[.val (.int p1), .val (.int (p1 &&& (3 : Int32)))] [(.int (p1 &&& (3 : Int32)))])) _
      refine XS.ifYes X0.here hx rfl (pc0 := 5) (pc' := 11) rfl (hb hby d2_5) rfl ((if0 _ _).trans (feq hc5).2) (by decide) (by decide) ?_
      show Steps p.tables e below (s₁.setTop (mkF m 11 #[.val (.int p1), .val (.int (p1 &&& (3 : Int32)))] [])) _
      refine XS.iloadN X0.here hx rfl (hb hby d2_11) rfl ?_
      show Steps p.tables e below (s₁.setTop (mkF m 12 #[.val (.int p1), .val (.int (p1 &&& (3 : Int32)))] [(.int (p1 &&& (3 : Int32)))])) _
      refine XS.iconst X0.here hx rfl (hb hby d2_12) ?_
      exact kt
    by_cases hc13 : (p1 &&& (3 : Int32)) = (1 : Int32)
    · refine Ends.of (F' := s₁.setTop (mkF m 18 #[.val (.int p1), .val (.int (p1 &&& (3 : Int32)))] [(.int (65 : Int32))])) (fun _ kt => ?_) ?_
      · show Steps p.tables e below (s₁.setTop (mkF m 13 #[.val (.int p1), .val (.int (p1 &&& (3 : Int32)))] [(.int (1 : Int32)), (.int (p1 &&& (3 : Int32)))])) _
        refine XS.icmpNo X0.here hx rfl (hb hby d2_13) rfl (teq hc13).2 ?_
        show Steps p.tables e below (s₁.setTop (mkF m 16 #[.val (.int p1), .val (.int (p1 &&& (3 : Int32)))] [])) _
        refine XS.bipush X0.here hx rfl (hb hby d2_16) ?_
        exact kt
      obtain ⟨fs, hr, hrun, hended, hW, hsame⟩ := X0.leave (v := some (.int (65 : Int32))) (fun h => by rw [Bd.returns] at h; cases h)
      exact ⟨_, _, retN X0 hx (t := .char) Bd.returns (by simp) (hb hby d2_18) hr, hrun, hended, _, _, rfl, ⟨by rw [own_pick, if_neg hc5, if_pos hc13], N0, e0⟩, ⟨_, rfl⟩, hW, hsame.mono (by decide) (by decide)⟩
    · refine Ends.of (F' := s₁.setTop (mkF m 21 #[.val (.int p1), .val (.int (p1 &&& (3 : Int32)))] [(.int (2 : Int32)), (.int (p1 &&& (3 : Int32)))])) (fun _ kt => ?_) ?_
      · show Steps p.tables e below (s₁.setTop (mkF m 13 #[.val (.int p1), .val (.int (p1 &&& (3 : Int32)))] [(.int (1 : Int32)), (.int (p1 &&& (3 : Int32)))])) _
        refine XS.icmpYes X0.here hx rfl (pc0 := 13) (pc' := 19) rfl (hb hby d2_13) rfl (feq hc13).2 (by decide) (by decide) ?_
        show Steps p.tables e below (s₁.setTop (mkF m 19 #[.val (.int p1), .val (.int (p1 &&& (3 : Int32)))] [])) _
        refine XS.iloadN X0.here hx rfl (hb hby d2_19) rfl ?_
        show Steps p.tables e below (s₁.setTop (mkF m 20 #[.val (.int p1), .val (.int (p1 &&& (3 : Int32)))] [(.int (p1 &&& (3 : Int32)))])) _
        refine XS.iconst X0.here hx rfl (hb hby d2_20) ?_
        exact kt
      by_cases hc21 : (p1 &&& (3 : Int32)) = (2 : Int32)
      · refine Ends.of (F' := s₁.setTop (mkF m 26 #[.val (.int p1), .val (.int (p1 &&& (3 : Int32)))] [(.int (98 : Int32))])) (fun _ kt => ?_) ?_
        · show Steps p.tables e below (s₁.setTop (mkF m 21 #[.val (.int p1), .val (.int (p1 &&& (3 : Int32)))] [(.int (2 : Int32)), (.int (p1 &&& (3 : Int32)))])) _
          refine XS.icmpNo X0.here hx rfl (hb hby d2_21) rfl (teq hc21).2 ?_
          show Steps p.tables e below (s₁.setTop (mkF m 24 #[.val (.int p1), .val (.int (p1 &&& (3 : Int32)))] [])) _
          refine XS.bipush X0.here hx rfl (hb hby d2_24) ?_
          exact kt
        obtain ⟨fs, hr, hrun, hended, hW, hsame⟩ := X0.leave (v := some (.int (98 : Int32))) (fun h => by rw [Bd.returns] at h; cases h)
        exact ⟨_, _, retN X0 hx (t := .char) Bd.returns (by simp) (hb hby d2_26) hr, hrun, hended, _, _, rfl, ⟨by rw [own_pick, if_neg hc5, if_neg hc13, if_pos hc21], N0, e0⟩, ⟨_, rfl⟩, hW, hsame.mono (by decide) (by decide)⟩
      · refine Ends.of (F' := s₁.setTop (mkF m 30 #[.val (.int p1), .val (.int (p1 &&& (3 : Int32)))] [(.int (233 : Int32))])) (fun _ kt => ?_) ?_
        · show Steps p.tables e below (s₁.setTop (mkF m 21 #[.val (.int p1), .val (.int (p1 &&& (3 : Int32)))] [(.int (2 : Int32)), (.int (p1 &&& (3 : Int32)))])) _
          refine XS.icmpYes X0.here hx rfl (pc0 := 21) (pc' := 27) rfl (hb hby d2_21) rfl (feq hc21).2 (by decide) (by decide) ?_
          show Steps p.tables e below (s₁.setTop (mkF m 27 #[.val (.int p1), .val (.int (p1 &&& (3 : Int32)))] [])) _
          refine XS.sipush X0.here hx rfl (hb hby d2_27) ?_
          exact kt
        obtain ⟨fs, hr, hrun, hended, hW, hsame⟩ := X0.leave (v := some (.int (233 : Int32))) (fun h => by rw [Bd.returns] at h; cases h)
        exact ⟨_, _, retN X0 hx (t := .char) Bd.returns (by simp) (hb hby d2_30) hr, hrun, hended, _, _, rfl, ⟨by rw [own_pick, if_neg hc5, if_neg hc13, if_neg hc21], N0, e0⟩, ⟨_, rfl⟩, hW, hsame.mono (by decide) (by decide)⟩
theorem d1_0 : decode prog_15_method_10_code 0 = .ok (.iload_n 1, 1) := by decide +kernel
theorem d1_1 : decode prog_15_method_10_code 1 = .ok (.aload_n 2, 1) := by decide +kernel
theorem d1_2 : decode prog_15_method_10_code 2 = .ok (.arraylength, 1) := by decide +kernel
theorem d1_3 : decode prog_15_method_10_code 3 = .ok (.iadd, 1) := by decide +kernel
theorem d1_4 : decode prog_15_method_10_code 4 = .ok (.aload_n 0, 1) := by decide +kernel
theorem d1_5 : decode prog_15_method_10_code 5 = .ok (.arraylength, 1) := by decide +kernel
theorem d1_6 : decode prog_15_method_10_code 6 = .ok (.if_icmp .gt 7, 3) := by decide +kernel
theorem d1_9 : decode prog_15_method_10_code 9 = .ok (.iconst 1, 1) := by decide +kernel
theorem d1_10 : decode prog_15_method_10_code 10 = .ok (.goto 4, 3) := by decide +kernel
theorem d1_13 : decode prog_15_method_10_code 13 = .ok (.iconst 0, 1) := by decide +kernel
theorem d1_14 : decode prog_15_method_10_code 14 = .ok (.istore_n 3, 1) := by decide +kernel
theorem d1_15 : decode prog_15_method_10_code 15 = .ok (.iconst 0, 1) := by decide +kernel
theorem d1_16 : decode prog_15_method_10_code 16 = .ok (.istore 4, 2) := by decide +kernel
theorem d1_18 : decode prog_15_method_10_code 18 = .ok (.iload 4, 2) := by decide +kernel
theorem d1_20 : decode prog_15_method_10_code 20 = .ok (.aload_n 2, 1) := by decide +kernel
theorem d1_21 : decode prog_15_method_10_code 21 = .ok (.arraylength, 1) := by decide +kernel
theorem d1_22 : decode prog_15_method_10_code 22 = .ok (.if_icmp .ge 32, 3) := by decide +kernel
theorem d1_25 : decode prog_15_method_10_code 25 = .ok (.iload_n 3, 1) := by decide +kernel
theorem d1_26 : decode prog_15_method_10_code 26 = .ok (.ifCond .eq 28, 3) := by decide +kernel
theorem d1_29 : decode prog_15_method_10_code 29 = .ok (.aload_n 0, 1) := by decide +kernel
theorem d1_30 : decode prog_15_method_10_code 30 = .ok (.iload_n 1, 1) := by decide +kernel
theorem d1_31 : decode prog_15_method_10_code 31 = .ok (.iload 4, 2) := by decide +kernel
theorem d1_33 : decode prog_15_method_10_code 33 = .ok (.iadd, 1) := by decide +kernel
theorem d1_34 : decode prog_15_method_10_code 34 = .ok (.caload, 1) := by decide +kernel
theorem d1_35 : decode prog_15_method_10_code 35 = .ok (.aload_n 2, 1) := by decide +kernel
theorem d1_36 : decode prog_15_method_10_code 36 = .ok (.iload 4, 2) := by decide +kernel
theorem d1_38 : decode prog_15_method_10_code 38 = .ok (.caload, 1) := by decide +kernel
theorem d1_39 : decode prog_15_method_10_code 39 = .ok (.if_icmp .ne 7, 3) := by decide +kernel
theorem d1_42 : decode prog_15_method_10_code 42 = .ok (.iconst 1, 1) := by decide +kernel
theorem d1_43 : decode prog_15_method_10_code 43 = .ok (.goto 4, 3) := by decide +kernel
theorem d1_46 : decode prog_15_method_10_code 46 = .ok (.iconst 0, 1) := by decide +kernel
theorem d1_47 : decode prog_15_method_10_code 47 = .ok (.istore_n 3, 1) := by decide +kernel
theorem d1_48 : decode prog_15_method_10_code 48 = .ok (.iinc 4 1, 3) := by decide +kernel
theorem d1_51 : decode prog_15_method_10_code 51 = .ok (.goto (-33), 3) := by decide +kernel
theorem d1_54 : decode prog_15_method_10_code 54 = .ok (.iload_n 3, 1) := by decide +kernel
theorem d1_55 : decode prog_15_method_10_code 55 = .ok (.ireturn, 1) := by decide +kernel
theorem pn_1 : plainName "com/example/fence_finder/fencefinder/io/Text" = true := by first | (simp [plainName, overriddenIn]; done) | decide +kernel
def Q1 (Z : State) (a1 : Addr) (an : Nat) (a2 : Addr) (n : Nat) (mm : Nat) (X : Nat → Int32) (Y : Nat → Int32) (h0 : Heap) (n0 : Nat) (v : Option Value) (h : Heap) (L : List Loc) : Prop := v = some (.int (if (an + mm ≤ n ∧ ∀ i, i < mm → X (an + i) = Y i) then (1 : Int32) else (0 : Int32))) ∧ Fr n0 L ∧ h = h0
set_option maxRecDepth 65536 in
set_option maxHeartbeats 40000000 in
theorem rm1 (l : Launch) (Z : State) (a0 : Array Value) (hw : ∀ d ∈ tables_1, d.before a0 Z = true) (ws : List Jvm.Cond) (a1 : Addr) (an : Nat) (a2 : Addr) (n : Nat) (mm : Nat) (X : Nat → Int32) (Y : Nat → Int32) (h0 : Heap) (n0 : Nat) (Z0 : n0 ≤ h0.size) (C1 : Chr Z h0 a1 n n X) (C2 : Chr Z h0 a2 mm mm Y) (ha : an ≤ 100) (hn : n ≤ 100) (hm : mm ≤ 100) :
    MetFree l (⟨"com/example/fence_finder/fencefinder/io/Text", "startsWith", "([CI[C)Z"⟩ : MethodName) (head1 (Jvm.Cond.code (⟨"com/example/fence_finder/fencefinder/io/Text", "startsWith", "([CI[C)Z"⟩ : MethodName) prog_15_method_10_code 5 (some .boolean) :: ws) ({ frames := 0, cells := 0, slots := 0, locals := 0 } : Room)) (fun a U => a = #[(.ref a1), (.int (Int32.ofNat an)), (.ref a2)] ∧ Z.Warmed39 U.vm ∧ U.heap = h0) (fun _ _ _ _ _ => True) (fun _ U o U' => ∃ v L, o = .returned v ∧ Q1 Z a1 an a2 n mm X Y h0 n0 v U'.heap L ∧ FrameEnd U o U' L ({ frames := 0, cells := 0, slots := 0, locals := 0 } : Room).cells ({ frames := 0, cells := 0, slots := 0, locals := 0 } : Room).slots) := by
  refine MetFree.of_bodySF (plainFor_of_name pn_1) hisR ?_
  intro p e s m args below meth c s₁ Bd hml0 hP hK
  obtain ⟨rfl, hZ, hh⟩ := hP
  have hx := Bd.exec
  have hby := Bd.bytes
  have hml : c.maxLocals = 5 := hml0
  have hown : s.vm.findClass "com/example/fence_finder/fencefinder/io/Text" = some m.cls := findClass_of_methodNamed Bd.named
  have hnm := (name_of_methodNamed Bd.named Bd.method).1
  have X0 : Stand p l e ({ frames := 0, cells := 0, slots := 0, locals := 0 } : Room) s m #[(.ref a1), (.int (Int32.ofNat an)), (.ref a2)] below meth c s₁ [] 0 0 := Stand.of_body Bd
  have e0 : s₁.heap = h0 := by rw [← hh, Bd.state]; rfl
  have N0 := Fr.nil n0
  have eF : entryFrame m #[(.ref a1), (.int (Int32.ofNat an)), (.ref a2)] 5 = mkF m 0 #[.val (.ref a1), .val (.int (Int32.ofNat an)), .val (.ref a2), .unset, .unset] [] := by first | (simp [entryFrame, mkF, argsToLocals, Value.category]; done) | rfl
  show Ends p e below s ({ frames := 0, cells := 0, slots := 0, locals := 0 } : Room) (Q1 Z a1 an a2 n mm X Y h0 n0) (s₁.setTop (entryFrame m #[(.ref a1), (.int (Int32.ofNat an)), (.ref a2)] 5))
  rw [eF]
  obtain ⟨c1, A1, S1, H1⟩ := C1
  obtain ⟨c2, A2, S2, H2⟩ := C2
  have zero : ∀ i : Nat, i ≤ mm → ¬ (an + mm ≤ n ∧ ∀ i, i < mm → X (an + i) = Y i) → Ends p e below s ({ frames := 0, cells := 0, slots := 0, locals := 0 } : Room) (Q1 Z a1 an a2 n mm X Y h0 n0) (s₁.setTop (mkF m 18 #[.val (.ref a1), .val (.int (Int32.ofNat an)), .val (.ref a2), .val (.int (0 : Int32)), .val (.int (Int32.ofNat i))] [])) := by
    intro i hi hsw
    refine Ends.of (F' := s₁.setTop (mkF m 22 #[.val (.ref a1), .val (.int (Int32.ofNat an)), .val (.ref a2), .val (.int (0 : Int32)), .val (.int (Int32.ofNat i))] [(.int (Int32.ofNat mm)), (.int (Int32.ofNat i))])) (fun _ kt => ?_) ?_
    · show Steps p.tables e below (s₁.setTop (mkF m 18 #[.val (.ref a1), .val (.int (Int32.ofNat an)), .val (.ref a2), .val (.int (0 : Int32)), .val (.int (Int32.ofNat i))] [])) _
      refine XS.iload X0.here hx rfl (hb hby d1_18) rfl ?_
      show Steps p.tables e below (s₁.setTop (mkF m 20 #[.val (.ref a1), .val (.int (Int32.ofNat an)), .val (.ref a2), .val (.int (0 : Int32)), .val (.int (Int32.ofNat i))] [(.int (Int32.ofNat i))])) _
      refine XS.aloadN X0.here hx rfl (hb hby d1_20) rfl rfl ?_
      show Steps p.tables e below (s₁.setTop (mkF m 21 #[.val (.ref a1), .val (.int (Int32.ofNat an)), .val (.ref a2), .val (.int (0 : Int32)), .val (.int (Int32.ofNat i))] [(.ref a2), (.int (Int32.ofNat i))])) _
      refine X0.arraylength hx (by rw [e0]; exact A2.1) (State.isArrayOf_alike hZ.alike A2.2.1) (g := (mkF m 21 #[.val (.ref a1), .val (.int (Int32.ofNat an)), .val (.ref a2), .val (.int (0 : Int32)), .val (.int (Int32.ofNat i))] [(.ref a2), (.int (Int32.ofNat i))])) rfl rfl (hb hby d1_21) _ ?_
      rw [S2]
      exact kt
    by_cases hlt : i < mm
    · refine Ends.of (F' := s₁.setTop (mkF m 55 #[.val (.ref a1), .val (.int (Int32.ofNat an)), .val (.ref a2), .val (.int (0 : Int32)), .val (.int (Int32.ofNat i))] [(.int (0 : Int32))])) (fun _ kt => ?_) ?_
      · show Steps p.tables e below (s₁.setTop (mkF m 22 #[.val (.ref a1), .val (.int (Int32.ofNat an)), .val (.ref a2), .val (.int (0 : Int32)), .val (.int (Int32.ofNat i))] [(.int (Int32.ofNat mm)), (.int (Int32.ofNat i))])) _
        refine XS.icmpNo X0.here hx rfl (hb hby d1_22) rfl (tlt ((own_ltN i mm (by omega) (by omega)).mpr hlt)).2.1 ?_
        show Steps p.tables e below (s₁.setTop (mkF m 25 #[.val (.ref a1), .val (.int (Int32.ofNat an)), .val (.ref a2), .val (.int (0 : Int32)), .val (.int (Int32.ofNat i))] [])) _
        refine XS.iloadN X0.here hx rfl (hb hby d1_25) rfl ?_
        show Steps p.tables e below (s₁.setTop (mkF m 26 #[.val (.ref a1), .val (.int (Int32.ofNat an)), .val (.ref a2), .val (.int (0 : Int32)), .val (.int (Int32.ofNat i))] [(.int (0 : Int32))])) _
        refine XS.ifYes X0.here hx rfl (pc0 := 26) (pc' := 54) rfl (hb hby d1_26) rfl ((if0 _ _).trans (teq rfl).1) (by decide) (by decide) ?_
        show Steps p.tables e below (s₁.setTop (mkF m 54 #[.val (.ref a1), .val (.int (Int32.ofNat an)), .val (.ref a2), .val (.int (0 : Int32)), .val (.int (Int32.ofNat i))] [])) _
        refine XS.iloadN X0.here hx rfl (hb hby d1_54) rfl ?_
        exact kt
      obtain ⟨fs, hr, hrun, hended, hW, hsame⟩ := X0.leave (v := some (.int (0 : Int32))) (fun h => by rw [Bd.returns] at h; cases h)
      exact ⟨_, _, retN X0 hx (t := .boolean) Bd.returns (by simp) (hb hby d1_55) hr, hrun, hended, _, _, rfl, ⟨by rw [if_neg hsw], N0, e0⟩, ⟨_, rfl⟩, hW, hsame.mono (by decide) (by decide)⟩
    · refine Ends.of (F' := s₁.setTop (mkF m 55 #[.val (.ref a1), .val (.int (Int32.ofNat an)), .val (.ref a2), .val (.int (0 : Int32)), .val (.int (Int32.ofNat i))] [(.int (0 : Int32))])) (fun _ kt => ?_) ?_
      · show Steps p.tables e below (s₁.setTop (mkF m 22 #[.val (.ref a1), .val (.int (Int32.ofNat an)), .val (.ref a2), .val (.int (0 : Int32)), .val (.int (Int32.ofNat i))] [(.int (Int32.ofNat mm)), (.int (Int32.ofNat i))])) _
        refine XS.icmpYes X0.here hx rfl (pc0 := 22) (pc' := 54) rfl (hb hby d1_22) rfl (flt (mt (own_ltN i mm (by omega) (by omega)).mp hlt)).2.1 (by decide) (by decide) ?_
        show Steps p.tables e below (s₁.setTop (mkF m 54 #[.val (.ref a1), .val (.int (Int32.ofNat an)), .val (.ref a2), .val (.int (0 : Int32)), .val (.int (Int32.ofNat i))] [])) _
        refine XS.iloadN X0.here hx rfl (hb hby d1_54) rfl ?_
        exact kt
      obtain ⟨fs, hr, hrun, hended, hW, hsame⟩ := X0.leave (v := some (.int (0 : Int32))) (fun h => by rw [Bd.returns] at h; cases h)
      exact ⟨_, _, retN X0 hx (t := .boolean) Bd.returns (by simp) (hb hby d1_55) hr, hrun, hended, _, _, rfl, ⟨by rw [if_neg hsw], N0, e0⟩, ⟨_, rfl⟩, hW, hsame.mono (by decide) (by decide)⟩
  have loop : ∀ (d i : Nat), i + d = mm → an + mm ≤ n → (∀ k, k < i → X (an + k) = Y k) → Ends p e below s ({ frames := 0, cells := 0, slots := 0, locals := 0 } : Room) (Q1 Z a1 an a2 n mm X Y h0 n0) (s₁.setTop (mkF m 18 #[.val (.ref a1), .val (.int (Int32.ofNat an)), .val (.ref a2), .val (.int (1 : Int32)), .val (.int (Int32.ofNat i))] [])) := by
    intro d
    induction d with
    | zero =>
      intro i hi hle hall
      refine Ends.of (F' := s₁.setTop (mkF m 55 #[.val (.ref a1), .val (.int (Int32.ofNat an)), .val (.ref a2), .val (.int (1 : Int32)), .val (.int (Int32.ofNat i))] [(.int (1 : Int32))])) (fun _ kt => ?_) ?_
      · show Steps p.tables e below (s₁.setTop (mkF m 18 #[.val (.ref a1), .val (.int (Int32.ofNat an)), .val (.ref a2), .val (.int (1 : Int32)), .val (.int (Int32.ofNat i))] [])) _
        refine XS.iload X0.here hx rfl (hb hby d1_18) rfl ?_
        show Steps p.tables e below (s₁.setTop (mkF m 20 #[.val (.ref a1), .val (.int (Int32.ofNat an)), .val (.ref a2), .val (.int (1 : Int32)), .val (.int (Int32.ofNat i))] [(.int (Int32.ofNat i))])) _
        refine XS.aloadN X0.here hx rfl (hb hby d1_20) rfl rfl ?_
        show Steps p.tables e below (s₁.setTop (mkF m 21 #[.val (.ref a1), .val (.int (Int32.ofNat an)), .val (.ref a2), .val (.int (1 : Int32)), .val (.int (Int32.ofNat i))] [(.ref a2), (.int (Int32.ofNat i))])) _
        refine X0.arraylength hx (by rw [e0]; exact A2.1) (State.isArrayOf_alike hZ.alike A2.2.1) (g := (mkF m 21 #[.val (.ref a1), .val (.int (Int32.ofNat an)), .val (.ref a2), .val (.int (1 : Int32)), .val (.int (Int32.ofNat i))] [(.ref a2), (.int (Int32.ofNat i))])) rfl rfl (hb hby d1_21) _ ?_
        rw [S2]
        show Steps p.tables e below (s₁.setTop (mkF m 22 #[.val (.ref a1), .val (.int (Int32.ofNat an)), .val (.ref a2), .val (.int (1 : Int32)), .val (.int (Int32.ofNat i))] [(.int (Int32.ofNat mm)), (.int (Int32.ofNat i))])) _
        refine XS.icmpYes X0.here hx rfl (pc0 := 22) (pc' := 54) rfl (hb hby d1_22) rfl (flt (mt (own_ltN i mm (by omega) (by omega)).mp (by omega))).2.1 (by decide) (by decide) ?_
        show Steps p.tables e below (s₁.setTop (mkF m 54 #[.val (.ref a1), .val (.int (Int32.ofNat an)), .val (.ref a2), .val (.int (1 : Int32)), .val (.int (Int32.ofNat i))] [])) _
        refine XS.iloadN X0.here hx rfl (hb hby d1_54) rfl ?_
        exact kt
      obtain ⟨fs, hr, hrun, hended, hW, hsame⟩ := X0.leave (v := some (.int (1 : Int32))) (fun h => by rw [Bd.returns] at h; cases h)
      exact ⟨_, _, retN X0 hx (t := .boolean) Bd.returns (by simp) (hb hby d1_55) hr, hrun, hended, _, _, rfl, ⟨by rw [if_pos ⟨hle, fun k hk => hall k (by omega)⟩], N0, e0⟩, ⟨_, rfl⟩, hW, hsame.mono (by decide) (by decide)⟩
    | succ d ih =>
      intro i hi hle hall
      refine Ends.of (F' := s₁.setTop (mkF m 39 #[.val (.ref a1), .val (.int (Int32.ofNat an)), .val (.ref a2), .val (.int (1 : Int32)), .val (.int (Int32.ofNat i))] [(.int (Y i)), (.int (X (an + i)))])) (fun _ kt => ?_) ?_
      · show Steps p.tables e below (s₁.setTop (mkF m 18 #[.val (.ref a1), .val (.int (Int32.ofNat an)), .val (.ref a2), .val (.int (1 : Int32)), .val (.int (Int32.ofNat i))] [])) _
        refine XS.iload X0.here hx rfl (hb hby d1_18) rfl ?_
        show Steps p.tables e below (s₁.setTop (mkF m 20 #[.val (.ref a1), .val (.int (Int32.ofNat an)), .val (.ref a2), .val (.int (1 : Int32)), .val (.int (Int32.ofNat i))] [(.int (Int32.ofNat i))])) _
        refine XS.aloadN X0.here hx rfl (hb hby d1_20) rfl rfl ?_
        show Steps p.tables e below (s₁.setTop (mkF m 21 #[.val (.ref a1), .val (.int (Int32.ofNat an)), .val (.ref a2), .val (.int (1 : Int32)), .val (.int (Int32.ofNat i))] [(.ref a2), (.int (Int32.ofNat i))])) _
        refine X0.arraylength hx (by rw [e0]; exact A2.1) (State.isArrayOf_alike hZ.alike A2.2.1) (g := (mkF m 21 #[.val (.ref a1), .val (.int (Int32.ofNat an)), .val (.ref a2), .val (.int (1 : Int32)), .val (.int (Int32.ofNat i))] [(.ref a2), (.int (Int32.ofNat i))])) rfl rfl (hb hby d1_21) _ ?_
        rw [S2]
        show Steps p.tables e below (s₁.setTop (mkF m 22 #[.val (.ref a1), .val (.int (Int32.ofNat an)), .val (.ref a2), .val (.int (1 : Int32)), .val (.int (Int32.ofNat i))] [(.int (Int32.ofNat mm)), (.int (Int32.ofNat i))])) _
        refine XS.icmpNo X0.here hx rfl (hb hby d1_22) rfl (tlt ((own_ltN i mm (by omega) (by omega)).mpr (by omega))).2.1 ?_
        show Steps p.tables e below (s₁.setTop (mkF m 25 #[.val (.ref a1), .val (.int (Int32.ofNat an)), .val (.ref a2), .val (.int (1 : Int32)), .val (.int (Int32.ofNat i))] [])) _
        refine XS.iloadN X0.here hx rfl (hb hby d1_25) rfl ?_
        show Steps p.tables e below (s₁.setTop (mkF m 26 #[.val (.ref a1), .val (.int (Int32.ofNat an)), .val (.ref a2), .val (.int (1 : Int32)), .val (.int (Int32.ofNat i))] [(.int (1 : Int32))])) _
        refine XS.ifNo X0.here hx rfl (hb hby d1_26) rfl ((if0 _ _).trans (feq (by decide)).1) ?_
        show Steps p.tables e below (s₁.setTop (mkF m 29 #[.val (.ref a1), .val (.int (Int32.ofNat an)), .val (.ref a2), .val (.int (1 : Int32)), .val (.int (Int32.ofNat i))] [])) _
        refine XS.aloadN X0.here hx rfl (hb hby d1_29) rfl rfl ?_
        show Steps p.tables e below (s₁.setTop (mkF m 30 #[.val (.ref a1), .val (.int (Int32.ofNat an)), .val (.ref a2), .val (.int (1 : Int32)), .val (.int (Int32.ofNat i))] [(.ref a1)])) _
        refine XS.iloadN X0.here hx rfl (hb hby d1_30) rfl ?_
        show Steps p.tables e below (s₁.setTop (mkF m 31 #[.val (.ref a1), .val (.int (Int32.ofNat an)), .val (.ref a2), .val (.int (1 : Int32)), .val (.int (Int32.ofNat i))] [(.int (Int32.ofNat an)), (.ref a1)])) _
        refine XS.iload X0.here hx rfl (hb hby d1_31) rfl ?_
        show Steps p.tables e below (s₁.setTop (mkF m 33 #[.val (.ref a1), .val (.int (Int32.ofNat an)), .val (.ref a2), .val (.int (1 : Int32)), .val (.int (Int32.ofNat i))] [(.int (Int32.ofNat i)), (.int (Int32.ofNat an)), (.ref a1)])) _
        refine XS.iadd X0.here hx rfl (hb hby d1_33) rfl ?_
        show Steps p.tables e below (s₁.setTop (mkF m 34 #[.val (.ref a1), .val (.int (Int32.ofNat an)), .val (.ref a2), .val (.int (1 : Int32)), .val (.int (Int32.ofNat i))] [(.int ((Int32.ofNat an) + (Int32.ofNat i))), (.ref a1)])) _
        refine X0.caload hx (j := ((Int32.ofNat an) + (Int32.ofNat i))) (v := (.int (X (an + i)))) (by rw [e0]; exact A1.1) (State.isArrayOf_alike hZ.alike A1.2.1) A1.2.2 (own_hin S1 (own_add an i) (by omega) (by omega)) (own_hat H1 (own_add an i) (by omega) (by omega) (by omega)) (g := (mkF m 34 #[.val (.ref a1), .val (.int (Int32.ofNat an)), .val (.ref a2), .val (.int (1 : Int32)), .val (.int (Int32.ofNat i))] [(.int ((Int32.ofNat an) + (Int32.ofNat i))), (.ref a1)])) rfl rfl (hb hby d1_34) _ ?_
        show Steps p.tables e below (s₁.setTop (mkF m 35 #[.val (.ref a1), .val (.int (Int32.ofNat an)), .val (.ref a2), .val (.int (1 : Int32)), .val (.int (Int32.ofNat i))] [(.int (X (an + i)))])) _
        refine XS.aloadN X0.here hx rfl (hb hby d1_35) rfl rfl ?_
        show Steps p.tables e below (s₁.setTop (mkF m 36 #[.val (.ref a1), .val (.int (Int32.ofNat an)), .val (.ref a2), .val (.int (1 : Int32)), .val (.int (Int32.ofNat i))] [(.ref a2), (.int (X (an + i)))])) _
        refine XS.iload X0.here hx rfl (hb hby d1_36) rfl ?_
        show Steps p.tables e below (s₁.setTop (mkF m 38 #[.val (.ref a1), .val (.int (Int32.ofNat an)), .val (.ref a2), .val (.int (1 : Int32)), .val (.int (Int32.ofNat i))] [(.int (Int32.ofNat i)), (.ref a2), (.int (X (an + i)))])) _
        refine X0.caload hx (j := (Int32.ofNat i)) (v := (.int (Y i))) (by rw [e0]; exact A2.1) (State.isArrayOf_alike hZ.alike A2.2.1) A2.2.2 (own_hin S2 rfl (by omega) (by omega)) (own_hat H2 rfl (by omega) (by omega) (by omega)) (g := (mkF m 38 #[.val (.ref a1), .val (.int (Int32.ofNat an)), .val (.ref a2), .val (.int (1 : Int32)), .val (.int (Int32.ofNat i))] [(.int (Int32.ofNat i)), (.ref a2), (.int (X (an + i)))])) rfl rfl (hb hby d1_38) _ ?_
        exact kt
      by_cases heq : (X (an + i)) = (Y i)
      · refine Ends.of (F' := s₁.setTop (mkF m 18 #[.val (.ref a1), .val (.int (Int32.ofNat an)), .val (.ref a2), .val (.int (1 : Int32)), .val (.int ((Int32.ofNat i) + (1 : Int32)))] [])) (fun _ kt => ?_) ?_
        · show Steps p.tables e below (s₁.setTop (mkF m 39 #[.val (.ref a1), .val (.int (Int32.ofNat an)), .val (.ref a2), .val (.int (1 : Int32)), .val (.int (Int32.ofNat i))] [(.int (Y i)), (.int (X (an + i)))])) _
          refine XS.icmpNo X0.here hx rfl (hb hby d1_39) rfl (teq heq).2 ?_
          show Steps p.tables e below (s₁.setTop (mkF m 42 #[.val (.ref a1), .val (.int (Int32.ofNat an)), .val (.ref a2), .val (.int (1 : Int32)), .val (.int (Int32.ofNat i))] [])) _
          refine XS.iconst X0.here hx rfl (hb hby d1_42) ?_
          show Steps p.tables e below (s₁.setTop (mkF m 43 #[.val (.ref a1), .val (.int (Int32.ofNat an)), .val (.ref a2), .val (.int (1 : Int32)), .val (.int (Int32.ofNat i))] [(.int (1 : Int32))])) _
          refine XS.goto X0.here hx rfl (pc0 := 43) (pc' := 47) rfl (hb hby d1_43) (by decide) (by decide) ?_
          show Steps p.tables e below (s₁.setTop (mkF m 47 #[.val (.ref a1), .val (.int (Int32.ofNat an)), .val (.ref a2), .val (.int (1 : Int32)), .val (.int (Int32.ofNat i))] [(.int (1 : Int32))])) _
          refine XS.istoreN X0.here hx rfl (hb hby d1_47) rfl (l' := #[.val (.ref a1), .val (.int (Int32.ofNat an)), .val (.ref a2), .val (.int (1 : Int32)), .val (.int (Int32.ofNat i))]) rfl ?_
          show Steps p.tables e below (s₁.setTop (mkF m 48 #[.val (.ref a1), .val (.int (Int32.ofNat an)), .val (.ref a2), .val (.int (1 : Int32)), .val (.int (Int32.ofNat i))] [])) _
          refine XS.iinc X0.here hx rfl (hb hby d1_48) rfl (l' := #[.val (.ref a1), .val (.int (Int32.ofNat an)), .val (.ref a2), .val (.int (1 : Int32)), .val (.int ((Int32.ofNat i) + (1 : Int32)))]) rfl ?_
          show Steps p.tables e below (s₁.setTop (mkF m 51 #[.val (.ref a1), .val (.int (Int32.ofNat an)), .val (.ref a2), .val (.int (1 : Int32)), .val (.int ((Int32.ofNat i) + (1 : Int32)))] [])) _
          refine XS.goto X0.here hx rfl (pc0 := 51) (pc' := 18) rfl (hb hby d1_51) (by decide) (by decide) ?_
          exact kt
        rw [show Int32.ofNat i + (1 : Int32) = Int32.ofNat (i + 1) from own_add i 1]
        refine ih (i + 1) (by omega) hle (fun k hk => ?_)
        by_cases hki : k = i
        · rw [hki]; exact heq
        · exact hall k (by omega)
      · refine Ends.of (F' := s₁.setTop (mkF m 18 #[.val (.ref a1), .val (.int (Int32.ofNat an)), .val (.ref a2), .val (.int (0 : Int32)), .val (.int ((Int32.ofNat i) + (1 : Int32)))] [])) (fun _ kt => ?_) ?_
        · show Steps p.tables e below (s₁.setTop (mkF m 39 #[.val (.ref a1), .val (.int (Int32.ofNat an)), .val (.ref a2), .val (.int (1 : Int32)), .val (.int (Int32.ofNat i))] [(.int (Y i)), (.int (X (an + i)))])) _
          refine XS.icmpYes X0.here hx rfl (pc0 := 39) (pc' := 46) rfl (hb hby d1_39) rfl (feq heq).2 (by decide) (by decide) ?_
          show Steps p.tables e below (s₁.setTop (mkF m 46 #[.val (.ref a1), .val (.int (Int32.ofNat an)), .val (.ref a2), .val (.int (1 : Int32)), .val (.int (Int32.ofNat i))] [])) _
          refine XS.iconst X0.here hx rfl (hb hby d1_46) ?_
          show Steps p.tables e below (s₁.setTop (mkF m 47 #[.val (.ref a1), .val (.int (Int32.ofNat an)), .val (.ref a2), .val (.int (1 : Int32)), .val (.int (Int32.ofNat i))] [(.int (0 : Int32))])) _
          refine XS.istoreN X0.here hx rfl (hb hby d1_47) rfl (l' := #[.val (.ref a1), .val (.int (Int32.ofNat an)), .val (.ref a2), .val (.int (0 : Int32)), .val (.int (Int32.ofNat i))]) rfl ?_
          show Steps p.tables e below (s₁.setTop (mkF m 48 #[.val (.ref a1), .val (.int (Int32.ofNat an)), .val (.ref a2), .val (.int (0 : Int32)), .val (.int (Int32.ofNat i))] [])) _
          refine XS.iinc X0.here hx rfl (hb hby d1_48) rfl (l' := #[.val (.ref a1), .val (.int (Int32.ofNat an)), .val (.ref a2), .val (.int (0 : Int32)), .val (.int ((Int32.ofNat i) + (1 : Int32)))]) rfl ?_
          show Steps p.tables e below (s₁.setTop (mkF m 51 #[.val (.ref a1), .val (.int (Int32.ofNat an)), .val (.ref a2), .val (.int (0 : Int32)), .val (.int ((Int32.ofNat i) + (1 : Int32)))] [])) _
          refine XS.goto X0.here hx rfl (pc0 := 51) (pc' := 18) rfl (hb hby d1_51) (by decide) (by decide) ?_
          exact kt
        rw [show Int32.ofNat i + (1 : Int32) = Int32.ofNat (i + 1) from own_add i 1]
        exact zero (i + 1) (by omega) (fun q => heq (q.2 i (by omega)))
  refine Ends.of (F' := s₁.setTop (mkF m 6 #[.val (.ref a1), .val (.int (Int32.ofNat an)), .val (.ref a2), .unset, .unset] [(.int (Int32.ofNat n)), (.int ((Int32.ofNat an) + (Int32.ofNat mm)))])) (fun _ kt => ?_) ?_
  · show Steps p.tables e below (s₁.setTop (mkF m 0 #[.val (.ref a1), .val (.int (Int32.ofNat an)), .val (.ref a2), .unset, .unset] [])) _
    refine XS.iloadN X0.here hx rfl (hb hby d1_0) rfl ?_
    show Steps p.tables e below (s₁.setTop (mkF m 1 #[.val (.ref a1), .val (.int (Int32.ofNat an)), .val (.ref a2), .unset, .unset] [(.int (Int32.ofNat an))])) _
    refine XS.aloadN X0.here hx rfl (hb hby d1_1) rfl rfl ?_
    show Steps p.tables e below (s₁.setTop (mkF m 2 #[.val (.ref a1), .val (.int (Int32.ofNat an)), .val (.ref a2), .unset, .unset] [(.ref a2), (.int (Int32.ofNat an))])) _
    refine X0.arraylength hx (by rw [e0]; exact A2.1) (State.isArrayOf_alike hZ.alike A2.2.1) (g := (mkF m 2 #[.val (.ref a1), .val (.int (Int32.ofNat an)), .val (.ref a2), .unset, .unset] [(.ref a2), (.int (Int32.ofNat an))])) rfl rfl (hb hby d1_2) _ ?_
    rw [S2]
    show Steps p.tables e below (s₁.setTop (mkF m 3 #[.val (.ref a1), .val (.int (Int32.ofNat an)), .val (.ref a2), .unset, .unset] [(.int (Int32.ofNat mm)), (.int (Int32.ofNat an))])) _
    refine XS.iadd X0.here hx rfl (hb hby d1_3) rfl ?_
    show Steps p.tables e below (s₁.setTop (mkF m 4 #[.val (.ref a1), .val (.int (Int32.ofNat an)), .val (.ref a2), .unset, .unset] [(.int ((Int32.ofNat an) + (Int32.ofNat mm)))])) _
    refine XS.aloadN X0.here hx rfl (hb hby d1_4) rfl rfl ?_
    show Steps p.tables e below (s₁.setTop (mkF m 5 #[.val (.ref a1), .val (.int (Int32.ofNat an)), .val (.ref a2), .unset, .unset] [(.ref a1), (.int ((Int32.ofNat an) + (Int32.ofNat mm)))])) _
    refine X0.arraylength hx (by rw [e0]; exact A1.1) (State.isArrayOf_alike hZ.alike A1.2.1) (g := (mkF m 5 #[.val (.ref a1), .val (.int (Int32.ofNat an)), .val (.ref a2), .unset, .unset] [(.ref a1), (.int ((Int32.ofNat an) + (Int32.ofNat mm)))])) rfl rfl (hb hby d1_5) _ ?_
    rw [S1]
    exact kt
  by_cases hov : n < an + mm
  · refine Ends.of (F' := s₁.setTop (mkF m 18 #[.val (.ref a1), .val (.int (Int32.ofNat an)), .val (.ref a2), .val (.int (0 : Int32)), .val (.int (0 : Int32))] [])) (fun _ kt => ?_) ?_
    · show Steps p.tables e below (s₁.setTop (mkF m 6 #[.val (.ref a1), .val (.int (Int32.ofNat an)), .val (.ref a2), .unset, .unset] [(.int (Int32.ofNat n)), (.int ((Int32.ofNat an) + (Int32.ofNat mm)))])) _
      refine XS.icmpYes X0.here hx rfl (pc0 := 6) (pc' := 13) rfl (hb hby d1_6) rfl (tlt ((own_ltA n an mm (by omega) (by omega)).mpr hov)).2.2.1 (by decide) (by decide) ?_
      show Steps p.tables e below (s₁.setTop (mkF m 13 #[.val (.ref a1), .val (.int (Int32.ofNat an)), .val (.ref a2), .unset, .unset] [])) _
      refine XS.iconst X0.here hx rfl (hb hby d1_13) ?_
      show Steps p.tables e below (s₁.setTop (mkF m 14 #[.val (.ref a1), .val (.int (Int32.ofNat an)), .val (.ref a2), .unset, .unset] [(.int (0 : Int32))])) _
      refine XS.istoreN X0.here hx rfl (hb hby d1_14) rfl (l' := #[.val (.ref a1), .val (.int (Int32.ofNat an)), .val (.ref a2), .val (.int (0 : Int32)), .unset]) rfl ?_
      show Steps p.tables e below (s₁.setTop (mkF m 15 #[.val (.ref a1), .val (.int (Int32.ofNat an)), .val (.ref a2), .val (.int (0 : Int32)), .unset] [])) _
      refine XS.iconst X0.here hx rfl (hb hby d1_15) ?_
      show Steps p.tables e below (s₁.setTop (mkF m 16 #[.val (.ref a1), .val (.int (Int32.ofNat an)), .val (.ref a2), .val (.int (0 : Int32)), .unset] [(.int (0 : Int32))])) _
      refine XS.istore X0.here hx rfl (hb hby d1_16) rfl (l' := #[.val (.ref a1), .val (.int (Int32.ofNat an)), .val (.ref a2), .val (.int (0 : Int32)), .val (.int (0 : Int32))]) rfl ?_
      exact kt
    exact zero 0 (by omega) (fun q => by omega)
  · refine Ends.of (F' := s₁.setTop (mkF m 18 #[.val (.ref a1), .val (.int (Int32.ofNat an)), .val (.ref a2), .val (.int (1 : Int32)), .val (.int (0 : Int32))] [])) (fun _ kt => ?_) ?_
    · show Steps p.tables e below (s₁.setTop (mkF m 6 #[.val (.ref a1), .val (.int (Int32.ofNat an)), .val (.ref a2), .unset, .unset] [(.int (Int32.ofNat n)), (.int ((Int32.ofNat an) + (Int32.ofNat mm)))])) _
      refine XS.icmpNo X0.here hx rfl (hb hby d1_6) rfl (flt (mt (own_ltA n an mm (by omega) (by omega)).mp hov)).2.2.1 ?_
      show Steps p.tables e below (s₁.setTop (mkF m 9 #[.val (.ref a1), .val (.int (Int32.ofNat an)), .val (.ref a2), .unset, .unset] [])) _
      refine XS.iconst X0.here hx rfl (hb hby d1_9) ?_
      show Steps p.tables e below (s₁.setTop (mkF m 10 #[.val (.ref a1), .val (.int (Int32.ofNat an)), .val (.ref a2), .unset, .unset] [(.int (1 : Int32))])) _
      refine XS.goto X0.here hx rfl (pc0 := 10) (pc' := 14) rfl (hb hby d1_10) (by decide) (by decide) ?_
      show Steps p.tables e below (s₁.setTop (mkF m 14 #[.val (.ref a1), .val (.int (Int32.ofNat an)), .val (.ref a2), .unset, .unset] [(.int (1 : Int32))])) _
      refine XS.istoreN X0.here hx rfl (hb hby d1_14) rfl (l' := #[.val (.ref a1), .val (.int (Int32.ofNat an)), .val (.ref a2), .val (.int (1 : Int32)), .unset]) rfl ?_
      show Steps p.tables e below (s₁.setTop (mkF m 15 #[.val (.ref a1), .val (.int (Int32.ofNat an)), .val (.ref a2), .val (.int (1 : Int32)), .unset] [])) _
      refine XS.iconst X0.here hx rfl (hb hby d1_15) ?_
      show Steps p.tables e below (s₁.setTop (mkF m 16 #[.val (.ref a1), .val (.int (Int32.ofNat an)), .val (.ref a2), .val (.int (1 : Int32)), .unset] [(.int (0 : Int32))])) _
      refine XS.istore X0.here hx rfl (hb hby d1_16) rfl (l' := #[.val (.ref a1), .val (.int (Int32.ofNat an)), .val (.ref a2), .val (.int (1 : Int32)), .val (.int (0 : Int32))]) rfl ?_
      exact kt
    exact loop mm 0 (by omega) (by omega) (fun k hk => absurd hk (Nat.not_lt_zero k))
def Q0 (Z : State) (p1 : Int32) (p2 : Int32) (p3 : Int32) (h0 : Heap) (n0 : Nat) (v : Option Value) (h : Heap) (L : List Loc) : Prop := v = some (.int (1 : Int32)) ∧ Fr n0 L
set_option maxRecDepth 65536 in
set_option maxHeartbeats 40000000 in
theorem rm0 (l : Launch) (Z : State) (a0 : Array Value) (hw : ∀ d ∈ tables_1, d.before a0 Z = true) (ws : List Jvm.Cond) (p1 : Int32) (p2 : Int32) (p3 : Int32) (h0 : Heap) (n0 : Nat) (Z0 : n0 ≤ h0.size) :
    MetFree l x (head1 (Jvm.Cond.code x code maxLocals ret :: ws) room_1) (fun a U => a = #[(.int p1), (.int p2), (.int p3)] ∧ Z.Warmed39 U.vm ∧ U.heap = h0) (fun _ _ _ _ _ => True) (fun _ U o U' => ∃ v L, o = .returned v ∧ Q0 Z p1 p2 p3 h0 n0 v U'.heap L ∧ FrameEnd U o U' L room_1.cells room_1.slots) := by
  refine MetFree.of_bodySF (plainFor_of_name pn_0) hisR ?_
  intro p e s m args below meth c s₁ Bd hml0 hP hK
  obtain ⟨rfl, hZ, hh⟩ := hP
  have hx := Bd.exec
  have hby := Bd.bytes
  have hml : c.maxLocals = 9 := hml0
  have hown : s.vm.findClass "com/example/fence_finder/fencefinder/io/TextStartsWithPinLaw" = some m.cls := findClass_of_methodNamed Bd.named
  have hnm := (name_of_methodNamed Bd.named Bd.method).1
  have X0 : Stand p l e room_1 s m #[(.int p1), (.int p2), (.int p3)] below meth c s₁ [] 0 0 := Stand.of_body Bd
  have e0 : s₁.heap = h0 := by rw [← hh, Bd.state]; rfl
  have N0 := Fr.nil n0
  have eF : entryFrame m #[(.int p1), (.int p2), (.int p3)] maxLocals = mkF m 0 #[.val (.int p1), .val (.int p2), .val (.int p3), .unset, .unset, .unset, .unset, .unset, .unset] [] := by first | (simp [entryFrame, mkF, argsToLocals, Value.category, maxLocals]; done) | rfl
  show Ends p e below s room_1 (Q0 Z p1 p2 p3 h0 n0) (s₁.setTop (entryFrame m #[(.int p1), (.int p2), (.int p3)] maxLocals))
  rw [eF]
  refine Ends.of (F' := s₁.setTop (mkF m 6 #[.val (.int p1), .val (.int p2), .val (.int p3), .unset, .unset, .unset, .unset, .unset, .unset] [(.int (((p1.toUInt32 >>> ((8 : Int32) &&& 31).toUInt32).toInt32) % (5 : Int32)))])) (fun _ kt => ?_) ?_
  · show Steps p.tables e below (s₁.setTop (mkF m 0 #[.val (.int p1), .val (.int p2), .val (.int p3), .unset, .unset, .unset, .unset, .unset, .unset] [])) _
    refine XS.iloadN X0.here hx rfl (hb hby at_0) rfl ?_
    show Steps p.tables e below (s₁.setTop (mkF m 1 #[.val (.int p1), .val (.int p2), .val (.int p3), .unset, .unset, .unset, .unset, .unset, .unset] [(.int p1)])) _
    refine XS.bipush X0.here hx rfl (hb hby at_1) ?_
    show Steps p.tables e below (s₁.setTop (mkF m 3 #[.val (.int p1), .val (.int p2), .val (.int p3), .unset, .unset, .unset, .unset, .unset, .unset] [(.int (8 : Int32)), (.int p1)])) _
    refine XS.iushr X0.here hx rfl (hb hby at_3) rfl ?_
    show Steps p.tables e below (s₁.setTop (mkF m 4 #[.val (.int p1), .val (.int p2), .val (.int p3), .unset, .unset, .unset, .unset, .unset, .unset] [(.int ((p1.toUInt32 >>> ((8 : Int32) &&& 31).toUInt32).toInt32))])) _
    refine XS.iconst X0.here hx rfl (hb hby at_4) ?_
    show Steps p.tables e below (s₁.setTop (mkF m 5 #[.val (.int p1), .val (.int p2), .val (.int p3), .unset, .unset, .unset, .unset, .unset, .unset] [(.int (5 : Int32)), (.int ((p1.toUInt32 >>> ((8 : Int32) &&& 31).toUInt32).toInt32))])) _
    refine iremM (g := (mkF m 5 #[.val (.int p1), .val (.int p2), .val (.int p3), .unset, .unset, .unset, .unset, .unset, .unset] [(.int (5 : Int32)), (.int ((p1.toUInt32 >>> ((8 : Int32) &&& 31).toUInt32).toInt32))])) X0 hx rfl (hb hby at_5) rfl (by decide) ?_
    exact kt
  obtain ⟨tn, htn, etn⟩ := own_tl p1
  rw [etn]
  refine Ends.of (F' := s₁.setTop (mkF m 13 #[.val (.int p1), .val (.int p2), .val (.int p3), .val (.int (Int32.ofNat tn)), .unset, .unset, .unset, .unset, .unset] [(.int (((p2.toUInt32 >>> ((6 : Int32) &&& 31).toUInt32).toInt32) &&& (3 : Int32)))])) (fun _ kt => ?_) ?_
  · show Steps p.tables e below (s₁.setTop (mkF m 6 #[.val (.int p1), .val (.int p2), .val (.int p3), .unset, .unset, .unset, .unset, .unset, .unset] [(.int (Int32.ofNat tn))])) _
    refine XS.istoreN X0.here hx rfl (hb hby at_6) rfl (l' := #[.val (.int p1), .val (.int p2), .val (.int p3), .val (.int (Int32.ofNat tn)), .unset, .unset, .unset, .unset, .unset]) rfl ?_
    show Steps p.tables e below (s₁.setTop (mkF m 7 #[.val (.int p1), .val (.int p2), .val (.int p3), .val (.int (Int32.ofNat tn)), .unset, .unset, .unset, .unset, .unset] [])) _
    refine XS.iloadN X0.here hx rfl (hb hby at_7) rfl ?_
    show Steps p.tables e below (s₁.setTop (mkF m 8 #[.val (.int p1), .val (.int p2), .val (.int p3), .val (.int (Int32.ofNat tn)), .unset, .unset, .unset, .unset, .unset] [(.int p2)])) _
    refine XS.bipush X0.here hx rfl (hb hby at_8) ?_
    show Steps p.tables e below (s₁.setTop (mkF m 10 #[.val (.int p1), .val (.int p2), .val (.int p3), .val (.int (Int32.ofNat tn)), .unset, .unset, .unset, .unset, .unset] [(.int (6 : Int32)), (.int p2)])) _
    refine XS.iushr X0.here hx rfl (hb hby at_10) rfl ?_
    show Steps p.tables e below (s₁.setTop (mkF m 11 #[.val (.int p1), .val (.int p2), .val (.int p3), .val (.int (Int32.ofNat tn)), .unset, .unset, .unset, .unset, .unset] [(.int ((p2.toUInt32 >>> ((6 : Int32) &&& 31).toUInt32).toInt32))])) _
    refine XS.iconst X0.here hx rfl (hb hby at_11) ?_
    show Steps p.tables e below (s₁.setTop (mkF m 12 #[.val (.int p1), .val (.int p2), .val (.int p3), .val (.int (Int32.ofNat tn)), .unset, .unset, .unset, .unset, .unset] [(.int (3 : Int32)), (.int ((p2.toUInt32 >>> ((6 : Int32) &&& 31).toUInt32).toInt32))])) _
    refine XS.iand X0.here hx rfl (hb hby at_12) rfl ?_
    exact kt
  obtain ⟨wn, hwn, ewn⟩ := own_wl p2
  rw [ewn]
  refine Ends.of (F' := s₁.setTop (mkF m 19 #[.val (.int p1), .val (.int p2), .val (.int p3), .val (.int (Int32.ofNat tn)), .val (.int (Int32.ofNat wn)), .unset, .unset, .unset, .unset] [(.int (p3 &&& (7 : Int32)))])) (fun _ kt => ?_) ?_
  · show Steps p.tables e below (s₁.setTop (mkF m 13 #[.val (.int p1), .val (.int p2), .val (.int p3), .val (.int (Int32.ofNat tn)), .unset, .unset, .unset, .unset, .unset] [(.int (Int32.ofNat wn))])) _
    refine XS.istore X0.here hx rfl (hb hby at_13) rfl (l' := #[.val (.int p1), .val (.int p2), .val (.int p3), .val (.int (Int32.ofNat tn)), .val (.int (Int32.ofNat wn)), .unset, .unset, .unset, .unset]) rfl ?_
    show Steps p.tables e below (s₁.setTop (mkF m 15 #[.val (.int p1), .val (.int p2), .val (.int p3), .val (.int (Int32.ofNat tn)), .val (.int (Int32.ofNat wn)), .unset, .unset, .unset, .unset] [])) _
    refine XS.iloadN X0.here hx rfl (hb hby at_15) rfl ?_
    show Steps p.tables e below (s₁.setTop (mkF m 16 #[.val (.int p1), .val (.int p2), .val (.int p3), .val (.int (Int32.ofNat tn)), .val (.int (Int32.ofNat wn)), .unset, .unset, .unset, .unset] [(.int p3)])) _
    refine XS.bipush X0.here hx rfl (hb hby at_16) ?_
    show Steps p.tables e below (s₁.setTop (mkF m 18 #[.val (.int p1), .val (.int p2), .val (.int p3), .val (.int (Int32.ofNat tn)), .val (.int (Int32.ofNat wn)), .unset, .unset, .unset, .unset] [(.int (7 : Int32)), (.int p3)])) _
    refine XS.iand X0.here hx rfl (hb hby at_18) rfl ?_
    exact kt
  obtain ⟨an, han, ean⟩ := own_at p3
  rw [ean]
  refine Ends.of (F' := s₁.setTop (mkF m 22 #[.val (.int p1), .val (.int p2), .val (.int p3), .val (.int (Int32.ofNat tn)), .val (.int (Int32.ofNat wn)), .val (.int (Int32.ofNat an)), .unset, .unset, .unset] [(.int (Int32.ofNat tn))])) (fun _ kt => ?_) ?_
  · show Steps p.tables e below (s₁.setTop (mkF m 19 #[.val (.int p1), .val (.int p2), .val (.int p3), .val (.int (Int32.ofNat tn)), .val (.int (Int32.ofNat wn)), .unset, .unset, .unset, .unset] [(.int (Int32.ofNat an))])) _
    refine XS.istore X0.here hx rfl (hb hby at_19) rfl (l' := #[.val (.int p1), .val (.int p2), .val (.int p3), .val (.int (Int32.ofNat tn)), .val (.int (Int32.ofNat wn)), .val (.int (Int32.ofNat an)), .unset, .unset, .unset]) rfl ?_
    show Steps p.tables e below (s₁.setTop (mkF m 21 #[.val (.int p1), .val (.int p2), .val (.int p3), .val (.int (Int32.ofNat tn)), .val (.int (Int32.ofNat wn)), .val (.int (Int32.ofNat an)), .unset, .unset, .unset] [])) _
    refine XS.iloadN X0.here hx rfl (hb hby at_21) rfl ?_
    exact kt
  obtain ⟨T1, h1, k1, X1, e1, E1, A1, st1⟩ := newP X0 hx hZ (hw _ (List.mem_of_getElem? (i := 0) rfl)) e0 (g := (mkF m 22 #[.val (.int p1), .val (.int p2), .val (.int p3), .val (.int (Int32.ofNat tn)), .val (.int (Int32.ofNat wn)), .val (.int (Int32.ofNat an)), .unset, .unset, .unset] [(.int (Int32.ofNat tn))])) rfl (hb hby at_22) rfl (own_nn (by omega)) (cap := 4) (by rw [own_clamp (by omega)]; omega) (by decide) (by decide) (by decide)
  obtain ⟨b1, g1⟩ : ∃ z, z = h0.size := ⟨_, rfl⟩
  rw [← g1] at A1 st1
  refine Ends.of st1 ?_
  have C0 : Chr Z h1 b1 tn 0 (own_tx p1) := Chr.new A1 (own_clamp (by omega))
  have gb1 : n0 ≤ b1 := Nat.le_trans Z0 (Nat.le_of_eq g1.symm)
  have Z1 : n0 ≤ h1.size := Nat.le_trans Z0 E1.1
  refine Ends.of (F' := T1.setTop (mkF m 26 #[.val (.int p1), .val (.int p2), .val (.int p3), .val (.int (Int32.ofNat tn)), .val (.int (Int32.ofNat wn)), .val (.int (Int32.ofNat an)), .val (.ref b1), .unset, .unset] [])) (fun _ kt => ?_) ?_
  · show Steps p.tables e below (T1.setTop (mkF m 24 #[.val (.int p1), .val (.int p2), .val (.int p3), .val (.int (Int32.ofNat tn)), .val (.int (Int32.ofNat wn)), .val (.int (Int32.ofNat an)), .unset, .unset, .unset] [(.ref b1)])) _
    refine XS.astore X1.here hx rfl (hb hby at_24) rfl rfl (l' := #[.val (.int p1), .val (.int p2), .val (.int p3), .val (.int (Int32.ofNat tn)), .val (.int (Int32.ofNat wn)), .val (.int (Int32.ofNat an)), .val (.ref b1), .unset, .unset]) rfl ?_
    exact kt
  have blk84 : ∀ (Tb : State) (lb : List Loc) (hB : Heap), Stand p l e room_1 s m #[(.int p1), (.int p2), (.int p3)] below meth c Tb lb 1 4 → Tb.heap = hB → Fr n0 lb → n0 ≤ hB.size → Chr Z hB b1 tn 4 (own_tx p1) → Ends p e below s room_1 (Q0 Z p1 p2 p3 h0 n0) (Tb.setTop (mkF m 84 #[.val (.int p1), .val (.int p2), .val (.int p3), .val (.int (Int32.ofNat tn)), .val (.int (Int32.ofNat wn)), .val (.int (Int32.ofNat an)), .val (.ref b1), .unset, .unset] [])) := by
    intro Tb lb hB Xb eb Nb Zb C
    refine Ends.of (F' := Tb.setTop (mkF m 86 #[.val (.int p1), .val (.int p2), .val (.int p3), .val (.int (Int32.ofNat tn)), .val (.int (Int32.ofNat wn)), .val (.int (Int32.ofNat an)), .val (.ref b1), .unset, .unset] [(.int (Int32.ofNat wn))])) (fun _ kt => ?_) ?_
    · show Steps p.tables e below (Tb.setTop (mkF m 84 #[.val (.int p1), .val (.int p2), .val (.int p3), .val (.int (Int32.ofNat tn)), .val (.int (Int32.ofNat wn)), .val (.int (Int32.ofNat an)), .val (.ref b1), .unset, .unset] [])) _
      refine XS.iload Xb.here hx rfl (hb hby at_84) rfl ?_
      exact kt
    obtain ⟨T2, h2, k2, X2, e2, E2, A2, st2⟩ := newP Xb hx hZ (hw _ (List.mem_of_getElem? (i := 0) rfl)) eb (g := (mkF m 86 #[.val (.int p1), .val (.int p2), .val (.int p3), .val (.int (Int32.ofNat tn)), .val (.int (Int32.ofNat wn)), .val (.int (Int32.ofNat an)), .val (.ref b1), .unset, .unset] [(.int (Int32.ofNat wn))])) rfl (hb hby at_86) rfl (own_nn (by omega)) (cap := 3) (by rw [own_clamp (by omega)]; omega) (by decide) (by decide) (by decide)
    obtain ⟨b2, g2⟩ : ∃ z, z = hB.size := ⟨_, rfl⟩
    rw [← g2] at A2 st2
    refine Ends.of st2 ?_
    have D0 : Chr Z h2 b2 wn 0 (own_tx p2) := Chr.new A2 (own_clamp (by omega))
    have C4 := C.ext E2
    have gb2 : n0 ≤ b2 := Nat.le_trans Zb (Nat.le_of_eq g2.symm)
    have Z2 : n0 ≤ h2.size := Nat.le_trans Zb E2.1
    have ne12 : b1 ≠ b2 := Nat.ne_of_lt (Nat.lt_of_lt_of_le C.lt (Nat.le_of_eq g2.symm))
    refine Ends.of (F' := T2.setTop (mkF m 90 #[.val (.int p1), .val (.int p2), .val (.int p3), .val (.int (Int32.ofNat tn)), .val (.int (Int32.ofNat wn)), .val (.int (Int32.ofNat an)), .val (.ref b1), .val (.ref b2), .unset] [])) (fun _ kt => ?_) ?_
    · show Steps p.tables e below (T2.setTop (mkF m 88 #[.val (.int p1), .val (.int p2), .val (.int p3), .val (.int (Int32.ofNat tn)), .val (.int (Int32.ofNat wn)), .val (.int (Int32.ofNat an)), .val (.ref b1), .unset, .unset] [(.ref b2)])) _
      refine XS.astore X2.here hx rfl (hb hby at_88) rfl rfl (l' := #[.val (.int p1), .val (.int p2), .val (.int p3), .val (.int (Int32.ofNat tn)), .val (.int (Int32.ofNat wn)), .val (.int (Int32.ofNat an)), .val (.ref b1), .val (.ref b2), .unset]) rfl ?_
      exact kt
    have blk135 : ∀ (Tb : State) (lb : List Loc) (hB : Heap), Stand p l e room_1 s m #[(.int p1), (.int p2), (.int p3)] below meth c Tb lb 2 7 → Tb.heap = hB → Fr n0 lb → n0 ≤ hB.size → Chr Z hB b1 tn 4 (own_tx p1) → Chr Z hB b2 wn 3 (own_tx p2) → Ends p e below s room_1 (Q0 Z p1 p2 p3 h0 n0) (Tb.setTop (mkF m 135 #[.val (.int p1), .val (.int p2), .val (.int p3), .val (.int (Int32.ofNat tn)), .val (.int (Int32.ofNat wn)), .val (.int (Int32.ofNat an)), .val (.ref b1), .val (.ref b2), .unset] [])) := by
      intro Tb lb hB Xb eb Nb Zb C D
      have C5 := C.mono (j' := tn) (fun i h1 h2 => by omega)
      have D5 := D.mono (j' := wn) (fun i h1 h2 => by omega)
      obtain ⟨c1, A1, S1, H1⟩ := id C5
      obtain ⟨c2, A2, S2, H2⟩ := id D5
      refine Ends.of (F' := Tb.setTop (mkF m 141 #[.val (.int p1), .val (.int p2), .val (.int p3), .val (.int (Int32.ofNat tn)), .val (.int (Int32.ofNat wn)), .val (.int (Int32.ofNat an)), .val (.ref b1), .val (.ref b2), .unset] [(.int (Int32.ofNat tn)), (.int ((Int32.ofNat an) + (Int32.ofNat wn)))])) (fun _ kt => ?_) ?_
      · show Steps p.tables e below (Tb.setTop (mkF m 135 #[.val (.int p1), .val (.int p2), .val (.int p3), .val (.int (Int32.ofNat tn)), .val (.int (Int32.ofNat wn)), .val (.int (Int32.ofNat an)), .val (.ref b1), .val (.ref b2), .unset] [])) _
        refine XS.iload Xb.here hx rfl (hb hby at_135) rfl ?_
        show Steps p.tables e below (Tb.setTop (mkF m 137 #[.val (.int p1), .val (.int p2), .val (.int p3), .val (.int (Int32.ofNat tn)), .val (.int (Int32.ofNat wn)), .val (.int (Int32.ofNat an)), .val (.ref b1), .val (.ref b2), .unset] [(.int (Int32.ofNat an))])) _
        refine XS.iload Xb.here hx rfl (hb hby at_137) rfl ?_
        show Steps p.tables e below (Tb.setTop (mkF m 139 #[.val (.int p1), .val (.int p2), .val (.int p3), .val (.int (Int32.ofNat tn)), .val (.int (Int32.ofNat wn)), .val (.int (Int32.ofNat an)), .val (.ref b1), .val (.ref b2), .unset] [(.int (Int32.ofNat wn)), (.int (Int32.ofNat an))])) _
        refine XS.iadd Xb.here hx rfl (hb hby at_139) rfl ?_
        show Steps p.tables e below (Tb.setTop (mkF m 140 #[.val (.int p1), .val (.int p2), .val (.int p3), .val (.int (Int32.ofNat tn)), .val (.int (Int32.ofNat wn)), .val (.int (Int32.ofNat an)), .val (.ref b1), .val (.ref b2), .unset] [(.int ((Int32.ofNat an) + (Int32.ofNat wn)))])) _
        refine XS.iloadN Xb.here hx rfl (hb hby at_140) rfl ?_
        exact kt
      by_cases hov : tn < an + wn
      · refine Ends.of (F' := Tb.setTop (mkF m 215 #[.val (.int p1), .val (.int p2), .val (.int p3), .val (.int (Int32.ofNat tn)), .val (.int (Int32.ofNat wn)), .val (.int (Int32.ofNat an)), .val (.ref b1), .val (.ref b2), .val (.int (0 : Int32))] [(.ref b2), (.int (Int32.ofNat an)), (.ref b1)])) (fun _ kt => ?_) ?_
        · show Steps p.tables e below (Tb.setTop (mkF m 141 #[.val (.int p1), .val (.int p2), .val (.int p3), .val (.int (Int32.ofNat tn)), .val (.int (Int32.ofNat wn)), .val (.int (Int32.ofNat an)), .val (.ref b1), .val (.ref b2), .unset] [(.int (Int32.ofNat tn)), (.int ((Int32.ofNat an) + (Int32.ofNat wn)))])) _
          refine XS.icmpYes Xb.here hx rfl (pc0 := 141) (pc' := 206) rfl (hb hby at_141) rfl (tlt ((own_ltA tn an wn (by omega) (by omega)).mpr hov)).2.2.1 (by decide) (by decide) ?_
          show Steps p.tables e below (Tb.setTop (mkF m 206 #[.val (.int p1), .val (.int p2), .val (.int p3), .val (.int (Int32.ofNat tn)), .val (.int (Int32.ofNat wn)), .val (.int (Int32.ofNat an)), .val (.ref b1), .val (.ref b2), .unset] [])) _
          refine XS.iconst Xb.here hx rfl (hb hby at_206) ?_
          show Steps p.tables e below (Tb.setTop (mkF m 207 #[.val (.int p1), .val (.int p2), .val (.int p3), .val (.int (Int32.ofNat tn)), .val (.int (Int32.ofNat wn)), .val (.int (Int32.ofNat an)), .val (.ref b1), .val (.ref b2), .unset] [(.int (0 : Int32))])) _
          refine XS.istore Xb.here hx rfl (hb hby at_207) rfl (l' := #[.val (.int p1), .val (.int p2), .val (.int p3), .val (.int (Int32.ofNat tn)), .val (.int (Int32.ofNat wn)), .val (.int (Int32.ofNat an)), .val (.ref b1), .val (.ref b2), .val (.int (0 : Int32))]) rfl ?_
          show Steps p.tables e below (Tb.setTop (mkF m 209 #[.val (.int p1), .val (.int p2), .val (.int p3), .val (.int (Int32.ofNat tn)), .val (.int (Int32.ofNat wn)), .val (.int (Int32.ofNat an)), .val (.ref b1), .val (.ref b2), .val (.int (0 : Int32))] [])) _
          refine XS.aload Xb.here hx rfl (hb hby at_209) rfl rfl ?_
          show Steps p.tables e below (Tb.setTop (mkF m 211 #[.val (.int p1), .val (.int p2), .val (.int p3), .val (.int (Int32.ofNat tn)), .val (.int (Int32.ofNat wn)), .val (.int (Int32.ofNat an)), .val (.ref b1), .val (.ref b2), .val (.int (0 : Int32))] [(.ref b1)])) _
          refine XS.iload Xb.here hx rfl (hb hby at_211) rfl ?_
          show Steps p.tables e below (Tb.setTop (mkF m 213 #[.val (.int p1), .val (.int p2), .val (.int p3), .val (.int (Int32.ofNat tn)), .val (.int (Int32.ofNat wn)), .val (.int (Int32.ofNat an)), .val (.ref b1), .val (.ref b2), .val (.int (0 : Int32))] [(.int (Int32.ofNat an)), (.ref b1)])) _
          refine XS.aload Xb.here hx rfl (hb hby at_213) rfl rfl ?_
          exact kt
        obtain ⟨_, _, ⟨T3, L3, k3, n3⟩, -, X3, ⟨Lc3, hQ3, l3, y3, z3⟩, st3⟩ := Jvm.LawKit.callS Xb hx (y := (⟨"com/example/fence_finder/fencefinder/io/Text", "startsWith", "([CI[C)Z"⟩ : MethodName)) hown (mvT hZ (hw _ (List.mem_of_getElem? (i := 1) rfl))) (mvT hZ (hw _ (List.mem_of_getElem? (i := 2) rfl))) (mvT hZ (hw _ (List.mem_of_getElem? (i := 3) rfl))) (mvT hZ (hw _ (List.mem_of_getElem? (i := 4) rfl))) (by decide) (backOf (W := 0) (rm1 l Z a0 hw [] b1 an b2 tn wn (own_tx p1) (own_tx p2) hB n0 Zb C5 D5 (by omega) (by omega) (by omega)) hZ (hw _ (List.mem_of_getElem? (i := 4) rfl)) (hw _ (List.mem_of_getElem? (i := 3) rfl)) (by decide) (by decide)) (g := (mkF m 215 #[.val (.int p1), .val (.int p2), .val (.int p3), .val (.int (Int32.ofNat tn)), .val (.int (Int32.ofNat wn)), .val (.int (Int32.ofNat an)), .val (.ref b1), .val (.ref b2), .val (.int (0 : Int32))] [(.ref b2), (.int (Int32.ofNat an)), (.ref b1)])) rfl (by rw [hml]; rfl) (argsL := [(.ref b1), (.int (Int32.ofNat an)), (.ref b2)]) (rest := []) (lenOf pd_0 rfl) rfl (by show 2 * 0 + _ ≤ _; exact Nat.le_of_eq rfl) (hb hby at_215) (fun _ _ => ⟨rfl, eb, (by decide : 2 + 0 ≤ _), (by decide : 7 + 0 ≤ _)⟩)
        dsimp only [Pt.U, Pt.locs, Pt.cells, Pt.slots] at X3 l3 y3 z3 st3 hQ3
        subst l3 y3 z3
        obtain ⟨rfl, N3q, e3⟩ := hQ3
        have N3 := Fr.app Nb N3q
        refine Ends.of st3 ?_
        refine Ends.of (F' := T3.setTop (mkF m 228 #[.val (.int p1), .val (.int p2), .val (.int p3), .val (.int (Int32.ofNat tn)), .val (.int (Int32.ofNat wn)), .val (.int (Int32.ofNat an)), .val (.ref b1), .val (.ref b2), .val (.int (0 : Int32))] [(.int (1 : Int32))])) (fun _ kt => ?_) ?_
        · show Steps p.tables e below (T3.setTop (mkF m 218 #[.val (.int p1), .val (.int p2), .val (.int p3), .val (.int (Int32.ofNat tn)), .val (.int (Int32.ofNat wn)), .val (.int (Int32.ofNat an)), .val (.ref b1), .val (.ref b2), .val (.int (0 : Int32))] [(.int (if (an + wn ≤ tn ∧ ∀ i, i < wn → (own_tx p1) (an + i) = (own_tx p2) i) then (1 : Int32) else (0 : Int32)))])) _
          refine XS.iload X3.here hx rfl (hb hby at_218) rfl ?_
          show Steps p.tables e below (T3.setTop (mkF m 220 #[.val (.int p1), .val (.int p2), .val (.int p3), .val (.int (Int32.ofNat tn)), .val (.int (Int32.ofNat wn)), .val (.int (Int32.ofNat an)), .val (.ref b1), .val (.ref b2), .val (.int (0 : Int32))] [(.int (0 : Int32)), (.int (if (an + wn ≤ tn ∧ ∀ i, i < wn → (own_tx p1) (an + i) = (own_tx p2) i) then (1 : Int32) else (0 : Int32)))])) _
          refine XS.icmpNo X3.here hx rfl (hb hby at_220) rfl (teq (if_neg (fun q => by omega))).2 ?_
          show Steps p.tables e below (T3.setTop (mkF m 223 #[.val (.int p1), .val (.int p2), .val (.int p3), .val (.int (Int32.ofNat tn)), .val (.int (Int32.ofNat wn)), .val (.int (Int32.ofNat an)), .val (.ref b1), .val (.ref b2), .val (.int (0 : Int32))] [])) _
          refine XS.iconst X3.here hx rfl (hb hby at_223) ?_
          show Steps p.tables e below (T3.setTop (mkF m 224 #[.val (.int p1), .val (.int p2), .val (.int p3), .val (.int (Int32.ofNat tn)), .val (.int (Int32.ofNat wn)), .val (.int (Int32.ofNat an)), .val (.ref b1), .val (.ref b2), .val (.int (0 : Int32))] [(.int (1 : Int32))])) _
          refine XS.goto X3.here hx rfl (pc0 := 224) (pc' := 228) rfl (hb hby at_224) (by decide) (by decide) ?_
          exact kt
        obtain ⟨fs, hr, hrun, hended, hW, hsame⟩ := X3.leave (v := some (.int (1 : Int32))) (fun h => by rw [Bd.returns] at h; cases h)
        exact ⟨_, _, retN X3 hx (t := .boolean) Bd.returns (by simp) (hb hby at_228) hr, hrun, hended, _, _, rfl, ⟨rfl, N3⟩, ⟨_, rfl⟩, hW, hsame.mono (by decide) (by decide)⟩
      · refine Ends.of (F' := Tb.setTop (mkF m 147 #[.val (.int p1), .val (.int p2), .val (.int p3), .val (.int (Int32.ofNat tn)), .val (.int (Int32.ofNat wn)), .val (.int (Int32.ofNat an)), .val (.ref b1), .val (.ref b2), .unset] [(.int (1 : Int32)), (.int (Int32.ofNat wn))])) (fun _ kt => ?_) ?_
        · show Steps p.tables e below (Tb.setTop (mkF m 141 #[.val (.int p1), .val (.int p2), .val (.int p3), .val (.int (Int32.ofNat tn)), .val (.int (Int32.ofNat wn)), .val (.int (Int32.ofNat an)), .val (.ref b1), .val (.ref b2), .unset] [(.int (Int32.ofNat tn)), (.int ((Int32.ofNat an) + (Int32.ofNat wn)))])) _
          refine XS.icmpNo Xb.here hx rfl (hb hby at_141) rfl (flt (mt (own_ltA tn an wn (by omega) (by omega)).mp hov)).2.2.1 ?_
          show Steps p.tables e below (Tb.setTop (mkF m 144 #[.val (.int p1), .val (.int p2), .val (.int p3), .val (.int (Int32.ofNat tn)), .val (.int (Int32.ofNat wn)), .val (.int (Int32.ofNat an)), .val (.ref b1), .val (.ref b2), .unset] [])) _
          refine XS.iload Xb.here hx rfl (hb hby at_144) rfl ?_
          show Steps p.tables e below (Tb.setTop (mkF m 146 #[.val (.int p1), .val (.int p2), .val (.int p3), .val (.int (Int32.ofNat tn)), .val (.int (Int32.ofNat wn)), .val (.int (Int32.ofNat an)), .val (.ref b1), .val (.ref b2), .unset] [(.int (Int32.ofNat wn))])) _
          refine XS.iconst Xb.here hx rfl (hb hby at_146) ?_
          exact kt
        by_cases hw1 : wn < 1
        · have hall : ∀ i, i < wn → own_tx p1 (an + i) = own_tx p2 i := fun i hi => absurd hi (by omega)
          refine Ends.of (F' := Tb.setTop (mkF m 215 #[.val (.int p1), .val (.int p2), .val (.int p3), .val (.int (Int32.ofNat tn)), .val (.int (Int32.ofNat wn)), .val (.int (Int32.ofNat an)), .val (.ref b1), .val (.ref b2), .val (.int (1 : Int32))] [(.ref b2), (.int (Int32.ofNat an)), (.ref b1)])) (fun _ kt => ?_) ?_
          · show Steps p.tables e below (Tb.setTop (mkF m 147 #[.val (.int p1), .val (.int p2), .val (.int p3), .val (.int (Int32.ofNat tn)), .val (.int (Int32.ofNat wn)), .val (.int (Int32.ofNat an)), .val (.ref b1), .val (.ref b2), .unset] [(.int (1 : Int32)), (.int (Int32.ofNat wn))])) _
            refine XS.icmpYes Xb.here hx rfl (pc0 := 147) (pc' := 162) rfl (hb hby at_147) rfl (tlt ((own_ltN wn 1 (by omega) (by omega)).mpr hw1)).1 (by decide) (by decide) ?_
            show Steps p.tables e below (Tb.setTop (mkF m 162 #[.val (.int p1), .val (.int p2), .val (.int p3), .val (.int (Int32.ofNat tn)), .val (.int (Int32.ofNat wn)), .val (.int (Int32.ofNat an)), .val (.ref b1), .val (.ref b2), .unset] [])) _
            refine XS.iload Xb.here hx rfl (hb hby at_162) rfl ?_
            show Steps p.tables e below (Tb.setTop (mkF m 164 #[.val (.int p1), .val (.int p2), .val (.int p3), .val (.int (Int32.ofNat tn)), .val (.int (Int32.ofNat wn)), .val (.int (Int32.ofNat an)), .val (.ref b1), .val (.ref b2), .unset] [(.int (Int32.ofNat wn))])) _
            refine XS.iconst Xb.here hx rfl (hb hby at_164) ?_
            show Steps p.tables e below (Tb.setTop (mkF m 165 #[.val (.int p1), .val (.int p2), .val (.int p3), .val (.int (Int32.ofNat tn)), .val (.int (Int32.ofNat wn)), .val (.int (Int32.ofNat an)), .val (.ref b1), .val (.ref b2), .unset] [(.int (2 : Int32)), (.int (Int32.ofNat wn))])) _
            refine XS.icmpYes Xb.here hx rfl (pc0 := 165) (pc' := 182) rfl (hb hby at_165) rfl (tlt ((own_ltN wn 2 (by omega) (by omega)).mpr (by omega))).1 (by decide) (by decide) ?_
            show Steps p.tables e below (Tb.setTop (mkF m 182 #[.val (.int p1), .val (.int p2), .val (.int p3), .val (.int (Int32.ofNat tn)), .val (.int (Int32.ofNat wn)), .val (.int (Int32.ofNat an)), .val (.ref b1), .val (.ref b2), .unset] [])) _
            refine XS.iload Xb.here hx rfl (hb hby at_182) rfl ?_
            show Steps p.tables e below (Tb.setTop (mkF m 184 #[.val (.int p1), .val (.int p2), .val (.int p3), .val (.int (Int32.ofNat tn)), .val (.int (Int32.ofNat wn)), .val (.int (Int32.ofNat an)), .val (.ref b1), .val (.ref b2), .unset] [(.int (Int32.ofNat wn))])) _
            refine XS.iconst Xb.here hx rfl (hb hby at_184) ?_
            show Steps p.tables e below (Tb.setTop (mkF m 185 #[.val (.int p1), .val (.int p2), .val (.int p3), .val (.int (Int32.ofNat tn)), .val (.int (Int32.ofNat wn)), .val (.int (Int32.ofNat an)), .val (.ref b1), .val (.ref b2), .unset] [(.int (3 : Int32)), (.int (Int32.ofNat wn))])) _
            refine XS.icmpYes Xb.here hx rfl (pc0 := 185) (pc' := 202) rfl (hb hby at_185) rfl (tlt ((own_ltN wn 3 (by omega) (by omega)).mpr (by omega))).1 (by decide) (by decide) ?_
            show Steps p.tables e below (Tb.setTop (mkF m 202 #[.val (.int p1), .val (.int p2), .val (.int p3), .val (.int (Int32.ofNat tn)), .val (.int (Int32.ofNat wn)), .val (.int (Int32.ofNat an)), .val (.ref b1), .val (.ref b2), .unset] [])) _
            refine XS.iconst Xb.here hx rfl (hb hby at_202) ?_
            show Steps p.tables e below (Tb.setTop (mkF m 203 #[.val (.int p1), .val (.int p2), .val (.int p3), .val (.int (Int32.ofNat tn)), .val (.int (Int32.ofNat wn)), .val (.int (Int32.ofNat an)), .val (.ref b1), .val (.ref b2), .unset] [(.int (1 : Int32))])) _
            refine XS.goto Xb.here hx rfl (pc0 := 203) (pc' := 207) rfl (hb hby at_203) (by decide) (by decide) ?_
            show Steps p.tables e below (Tb.setTop (mkF m 207 #[.val (.int p1), .val (.int p2), .val (.int p3), .val (.int (Int32.ofNat tn)), .val (.int (Int32.ofNat wn)), .val (.int (Int32.ofNat an)), .val (.ref b1), .val (.ref b2), .unset] [(.int (1 : Int32))])) _
            refine XS.istore Xb.here hx rfl (hb hby at_207) rfl (l' := #[.val (.int p1), .val (.int p2), .val (.int p3), .val (.int (Int32.ofNat tn)), .val (.int (Int32.ofNat wn)), .val (.int (Int32.ofNat an)), .val (.ref b1), .val (.ref b2), .val (.int (1 : Int32))]) rfl ?_
            show Steps p.tables e below (Tb.setTop (mkF m 209 #[.val (.int p1), .val (.int p2), .val (.int p3), .val (.int (Int32.ofNat tn)), .val (.int (Int32.ofNat wn)), .val (.int (Int32.ofNat an)), .val (.ref b1), .val (.ref b2), .val (.int (1 : Int32))] [])) _
            refine XS.aload Xb.here hx rfl (hb hby at_209) rfl rfl ?_
            show Steps p.tables e below (Tb.setTop (mkF m 211 #[.val (.int p1), .val (.int p2), .val (.int p3), .val (.int (Int32.ofNat tn)), .val (.int (Int32.ofNat wn)), .val (.int (Int32.ofNat an)), .val (.ref b1), .val (.ref b2), .val (.int (1 : Int32))] [(.ref b1)])) _
            refine XS.iload Xb.here hx rfl (hb hby at_211) rfl ?_
            show Steps p.tables e below (Tb.setTop (mkF m 213 #[.val (.int p1), .val (.int p2), .val (.int p3), .val (.int (Int32.ofNat tn)), .val (.int (Int32.ofNat wn)), .val (.int (Int32.ofNat an)), .val (.ref b1), .val (.ref b2), .val (.int (1 : Int32))] [(.int (Int32.ofNat an)), (.ref b1)])) _
            refine XS.aload Xb.here hx rfl (hb hby at_213) rfl rfl ?_
            exact kt
          obtain ⟨_, _, ⟨T4, L4, k4, n4⟩, -, X4, ⟨Lc4, hQ4, l4, y4, z4⟩, st4⟩ := Jvm.LawKit.callS Xb hx (y := (⟨"com/example/fence_finder/fencefinder/io/Text", "startsWith", "([CI[C)Z"⟩ : MethodName)) hown (mvT hZ (hw _ (List.mem_of_getElem? (i := 1) rfl))) (mvT hZ (hw _ (List.mem_of_getElem? (i := 2) rfl))) (mvT hZ (hw _ (List.mem_of_getElem? (i := 3) rfl))) (mvT hZ (hw _ (List.mem_of_getElem? (i := 4) rfl))) (by decide) (backOf (W := 0) (rm1 l Z a0 hw [] b1 an b2 tn wn (own_tx p1) (own_tx p2) hB n0 Zb C5 D5 (by omega) (by omega) (by omega)) hZ (hw _ (List.mem_of_getElem? (i := 4) rfl)) (hw _ (List.mem_of_getElem? (i := 3) rfl)) (by decide) (by decide)) (g := (mkF m 215 #[.val (.int p1), .val (.int p2), .val (.int p3), .val (.int (Int32.ofNat tn)), .val (.int (Int32.ofNat wn)), .val (.int (Int32.ofNat an)), .val (.ref b1), .val (.ref b2), .val (.int (1 : Int32))] [(.ref b2), (.int (Int32.ofNat an)), (.ref b1)])) rfl (by rw [hml]; rfl) (argsL := [(.ref b1), (.int (Int32.ofNat an)), (.ref b2)]) (rest := []) (lenOf pd_0 rfl) rfl (by show 2 * 0 + _ ≤ _; exact Nat.le_of_eq rfl) (hb hby at_215) (fun _ _ => ⟨rfl, eb, (by decide : 2 + 0 ≤ _), (by decide : 7 + 0 ≤ _)⟩)
          dsimp only [Pt.U, Pt.locs, Pt.cells, Pt.slots] at X4 l4 y4 z4 st4 hQ4
          subst l4 y4 z4
          obtain ⟨rfl, N4q, e4⟩ := hQ4
          have N4 := Fr.app Nb N4q
          refine Ends.of st4 ?_
          refine Ends.of (F' := T4.setTop (mkF m 228 #[.val (.int p1), .val (.int p2), .val (.int p3), .val (.int (Int32.ofNat tn)), .val (.int (Int32.ofNat wn)), .val (.int (Int32.ofNat an)), .val (.ref b1), .val (.ref b2), .val (.int (1 : Int32))] [(.int (1 : Int32))])) (fun _ kt => ?_) ?_
          · show Steps p.tables e below (T4.setTop (mkF m 218 #[.val (.int p1), .val (.int p2), .val (.int p3), .val (.int (Int32.ofNat tn)), .val (.int (Int32.ofNat wn)), .val (.int (Int32.ofNat an)), .val (.ref b1), .val (.ref b2), .val (.int (1 : Int32))] [(.int (if (an + wn ≤ tn ∧ ∀ i, i < wn → (own_tx p1) (an + i) = (own_tx p2) i) then (1 : Int32) else (0 : Int32)))])) _
            refine XS.iload X4.here hx rfl (hb hby at_218) rfl ?_
            show Steps p.tables e below (T4.setTop (mkF m 220 #[.val (.int p1), .val (.int p2), .val (.int p3), .val (.int (Int32.ofNat tn)), .val (.int (Int32.ofNat wn)), .val (.int (Int32.ofNat an)), .val (.ref b1), .val (.ref b2), .val (.int (1 : Int32))] [(.int (1 : Int32)), (.int (if (an + wn ≤ tn ∧ ∀ i, i < wn → (own_tx p1) (an + i) = (own_tx p2) i) then (1 : Int32) else (0 : Int32)))])) _
            refine XS.icmpNo X4.here hx rfl (hb hby at_220) rfl (teq (if_pos ⟨by omega, hall⟩)).2 ?_
            show Steps p.tables e below (T4.setTop (mkF m 223 #[.val (.int p1), .val (.int p2), .val (.int p3), .val (.int (Int32.ofNat tn)), .val (.int (Int32.ofNat wn)), .val (.int (Int32.ofNat an)), .val (.ref b1), .val (.ref b2), .val (.int (1 : Int32))] [])) _
            refine XS.iconst X4.here hx rfl (hb hby at_223) ?_
            show Steps p.tables e below (T4.setTop (mkF m 224 #[.val (.int p1), .val (.int p2), .val (.int p3), .val (.int (Int32.ofNat tn)), .val (.int (Int32.ofNat wn)), .val (.int (Int32.ofNat an)), .val (.ref b1), .val (.ref b2), .val (.int (1 : Int32))] [(.int (1 : Int32))])) _
            refine XS.goto X4.here hx rfl (pc0 := 224) (pc' := 228) rfl (hb hby at_224) (by decide) (by decide) ?_
            exact kt
          obtain ⟨fs, hr, hrun, hended, hW, hsame⟩ := X4.leave (v := some (.int (1 : Int32))) (fun h => by rw [Bd.returns] at h; cases h)
          exact ⟨_, _, retN X4 hx (t := .boolean) Bd.returns (by simp) (hb hby at_228) hr, hrun, hended, _, _, rfl, ⟨rfl, N4⟩, ⟨_, rfl⟩, hW, hsame.mono (by decide) (by decide)⟩
        · refine Ends.of (F' := Tb.setTop (mkF m 159 #[.val (.int p1), .val (.int p2), .val (.int p3), .val (.int (Int32.ofNat tn)), .val (.int (Int32.ofNat wn)), .val (.int (Int32.ofNat an)), .val (.ref b1), .val (.ref b2), .unset] [(.int (own_tx p2 0)), (.int (own_tx p1 (an + 0)))])) (fun _ kt => ?_) ?_
          · show Steps p.tables e below (Tb.setTop (mkF m 147 #[.val (.int p1), .val (.int p2), .val (.int p3), .val (.int (Int32.ofNat tn)), .val (.int (Int32.ofNat wn)), .val (.int (Int32.ofNat an)), .val (.ref b1), .val (.ref b2), .unset] [(.int (1 : Int32)), (.int (Int32.ofNat wn))])) _
            refine XS.icmpNo Xb.here hx rfl (hb hby at_147) rfl (flt (mt (own_ltN wn 1 (by omega) (by omega)).mp hw1)).1 ?_
            show Steps p.tables e below (Tb.setTop (mkF m 150 #[.val (.int p1), .val (.int p2), .val (.int p3), .val (.int (Int32.ofNat tn)), .val (.int (Int32.ofNat wn)), .val (.int (Int32.ofNat an)), .val (.ref b1), .val (.ref b2), .unset] [])) _
            refine XS.aload Xb.here hx rfl (hb hby at_150) rfl rfl ?_
            show Steps p.tables e below (Tb.setTop (mkF m 152 #[.val (.int p1), .val (.int p2), .val (.int p3), .val (.int (Int32.ofNat tn)), .val (.int (Int32.ofNat wn)), .val (.int (Int32.ofNat an)), .val (.ref b1), .val (.ref b2), .unset] [(.ref b1)])) _
            refine XS.iload Xb.here hx rfl (hb hby at_152) rfl ?_
            show Steps p.tables e below (Tb.setTop (mkF m 154 #[.val (.int p1), .val (.int p2), .val (.int p3), .val (.int (Int32.ofNat tn)), .val (.int (Int32.ofNat wn)), .val (.int (Int32.ofNat an)), .val (.ref b1), .val (.ref b2), .unset] [(.int (Int32.ofNat an)), (.ref b1)])) _
            refine Xb.caload hx (j := (Int32.ofNat an)) (v := (.int (own_tx p1 (an + 0)))) (by rw [eb]; exact A1.1) (State.isArrayOf_alike hZ.alike A1.2.1) A1.2.2 (own_hin (i := an + 0) S1 rfl (by omega) (by omega)) (own_hat (i := an + 0) H1 rfl (by omega) (by omega) (by omega)) (g := (mkF m 154 #[.val (.int p1), .val (.int p2), .val (.int p3), .val (.int (Int32.ofNat tn)), .val (.int (Int32.ofNat wn)), .val (.int (Int32.ofNat an)), .val (.ref b1), .val (.ref b2), .unset] [(.int (Int32.ofNat an)), (.ref b1)])) rfl rfl (hb hby at_154) _ ?_
            show Steps p.tables e below (Tb.setTop (mkF m 155 #[.val (.int p1), .val (.int p2), .val (.int p3), .val (.int (Int32.ofNat tn)), .val (.int (Int32.ofNat wn)), .val (.int (Int32.ofNat an)), .val (.ref b1), .val (.ref b2), .unset] [(.int (own_tx p1 (an + 0)))])) _
            refine XS.aload Xb.here hx rfl (hb hby at_155) rfl rfl ?_
            show Steps p.tables e below (Tb.setTop (mkF m 157 #[.val (.int p1), .val (.int p2), .val (.int p3), .val (.int (Int32.ofNat tn)), .val (.int (Int32.ofNat wn)), .val (.int (Int32.ofNat an)), .val (.ref b1), .val (.ref b2), .unset] [(.ref b2), (.int (own_tx p1 (an + 0)))])) _
            refine XS.iconst Xb.here hx rfl (hb hby at_157) ?_
            show Steps p.tables e below (Tb.setTop (mkF m 158 #[.val (.int p1), .val (.int p2), .val (.int p3), .val (.int (Int32.ofNat tn)), .val (.int (Int32.ofNat wn)), .val (.int (Int32.ofNat an)), .val (.ref b1), .val (.ref b2), .unset] [(.int (0 : Int32)), (.ref b2), (.int (own_tx p1 (an + 0)))])) _
            refine Xb.caload hx (j := (0 : Int32)) (v := (.int (own_tx p2 0))) (by rw [eb]; exact A2.1) (State.isArrayOf_alike hZ.alike A2.2.1) A2.2.2 (own_hin (i := 0) S2 rfl (by omega) (by omega)) (own_hat (i := 0) H2 rfl (by omega) (by omega) (by omega)) (g := (mkF m 158 #[.val (.int p1), .val (.int p2), .val (.int p3), .val (.int (Int32.ofNat tn)), .val (.int (Int32.ofNat wn)), .val (.int (Int32.ofNat an)), .val (.ref b1), .val (.ref b2), .unset] [(.int (0 : Int32)), (.ref b2), (.int (own_tx p1 (an + 0)))])) rfl rfl (hb hby at_158) _ ?_
            exact kt
          by_cases hm0 : (own_tx p1 (an + 0)) = (own_tx p2 0)
          · refine Ends.of (F' := Tb.setTop (mkF m 165 #[.val (.int p1), .val (.int p2), .val (.int p3), .val (.int (Int32.ofNat tn)), .val (.int (Int32.ofNat wn)), .val (.int (Int32.ofNat an)), .val (.ref b1), .val (.ref b2), .unset] [(.int (2 : Int32)), (.int (Int32.ofNat wn))])) (fun _ kt => ?_) ?_
            · show Steps p.tables e below (Tb.setTop (mkF m 159 #[.val (.int p1), .val (.int p2), .val (.int p3), .val (.int (Int32.ofNat tn)), .val (.int (Int32.ofNat wn)), .val (.int (Int32.ofNat an)), .val (.ref b1), .val (.ref b2), .unset] [(.int (own_tx p2 0)), (.int (own_tx p1 (an + 0)))])) _
              refine XS.icmpNo Xb.here hx rfl (hb hby at_159) rfl (teq hm0).2 ?_
              show Steps p.tables e below (Tb.setTop (mkF m 162 #[.val (.int p1), .val (.int p2), .val (.int p3), .val (.int (Int32.ofNat tn)), .val (.int (Int32.ofNat wn)), .val (.int (Int32.ofNat an)), .val (.ref b1), .val (.ref b2), .unset] [])) _
              refine XS.iload Xb.here hx rfl (hb hby at_162) rfl ?_
              show Steps p.tables e below (Tb.setTop (mkF m 164 #[.val (.int p1), .val (.int p2), .val (.int p3), .val (.int (Int32.ofNat tn)), .val (.int (Int32.ofNat wn)), .val (.int (Int32.ofNat an)), .val (.ref b1), .val (.ref b2), .unset] [(.int (Int32.ofNat wn))])) _
              refine XS.iconst Xb.here hx rfl (hb hby at_164) ?_
              exact kt
            by_cases hw2 : wn < 2
            · have hall : ∀ i, i < wn → own_tx p1 (an + i) = own_tx p2 i := fun i hi => by
                      rcases (show i = 0 by omega) with rfl
                      · exact hm0
              refine Ends.of (F' := Tb.setTop (mkF m 215 #[.val (.int p1), .val (.int p2), .val (.int p3), .val (.int (Int32.ofNat tn)), .val (.int (Int32.ofNat wn)), .val (.int (Int32.ofNat an)), .val (.ref b1), .val (.ref b2), .val (.int (1 : Int32))] [(.ref b2), (.int (Int32.ofNat an)), (.ref b1)])) (fun _ kt => ?_) ?_
              · show Steps p.tables e below (Tb.setTop (mkF m 165 #[.val (.int p1), .val (.int p2), .val (.int p3), .val (.int (Int32.ofNat tn)), .val (.int (Int32.ofNat wn)), .val (.int (Int32.ofNat an)), .val (.ref b1), .val (.ref b2), .unset] [(.int (2 : Int32)), (.int (Int32.ofNat wn))])) _
                refine XS.icmpYes Xb.here hx rfl (pc0 := 165) (pc' := 182) rfl (hb hby at_165) rfl (tlt ((own_ltN wn 2 (by omega) (by omega)).mpr hw2)).1 (by decide) (by decide) ?_
                show Steps p.tables e below (Tb.setTop (mkF m 182 #[.val (.int p1), .val (.int p2), .val (.int p3), .val (.int (Int32.ofNat tn)), .val (.int (Int32.ofNat wn)), .val (.int (Int32.ofNat an)), .val (.ref b1), .val (.ref b2), .unset] [])) _
                refine XS.iload Xb.here hx rfl (hb hby at_182) rfl ?_
                show Steps p.tables e below (Tb.setTop (mkF m 184 #[.val (.int p1), .val (.int p2), .val (.int p3), .val (.int (Int32.ofNat tn)), .val (.int (Int32.ofNat wn)), .val (.int (Int32.ofNat an)), .val (.ref b1), .val (.ref b2), .unset] [(.int (Int32.ofNat wn))])) _
                refine XS.iconst Xb.here hx rfl (hb hby at_184) ?_
                show Steps p.tables e below (Tb.setTop (mkF m 185 #[.val (.int p1), .val (.int p2), .val (.int p3), .val (.int (Int32.ofNat tn)), .val (.int (Int32.ofNat wn)), .val (.int (Int32.ofNat an)), .val (.ref b1), .val (.ref b2), .unset] [(.int (3 : Int32)), (.int (Int32.ofNat wn))])) _
                refine XS.icmpYes Xb.here hx rfl (pc0 := 185) (pc' := 202) rfl (hb hby at_185) rfl (tlt ((own_ltN wn 3 (by omega) (by omega)).mpr (by omega))).1 (by decide) (by decide) ?_
                show Steps p.tables e below (Tb.setTop (mkF m 202 #[.val (.int p1), .val (.int p2), .val (.int p3), .val (.int (Int32.ofNat tn)), .val (.int (Int32.ofNat wn)), .val (.int (Int32.ofNat an)), .val (.ref b1), .val (.ref b2), .unset] [])) _
                refine XS.iconst Xb.here hx rfl (hb hby at_202) ?_
                show Steps p.tables e below (Tb.setTop (mkF m 203 #[.val (.int p1), .val (.int p2), .val (.int p3), .val (.int (Int32.ofNat tn)), .val (.int (Int32.ofNat wn)), .val (.int (Int32.ofNat an)), .val (.ref b1), .val (.ref b2), .unset] [(.int (1 : Int32))])) _
                refine XS.goto Xb.here hx rfl (pc0 := 203) (pc' := 207) rfl (hb hby at_203) (by decide) (by decide) ?_
                show Steps p.tables e below (Tb.setTop (mkF m 207 #[.val (.int p1), .val (.int p2), .val (.int p3), .val (.int (Int32.ofNat tn)), .val (.int (Int32.ofNat wn)), .val (.int (Int32.ofNat an)), .val (.ref b1), .val (.ref b2), .unset] [(.int (1 : Int32))])) _
                refine XS.istore Xb.here hx rfl (hb hby at_207) rfl (l' := #[.val (.int p1), .val (.int p2), .val (.int p3), .val (.int (Int32.ofNat tn)), .val (.int (Int32.ofNat wn)), .val (.int (Int32.ofNat an)), .val (.ref b1), .val (.ref b2), .val (.int (1 : Int32))]) rfl ?_
                show Steps p.tables e below (Tb.setTop (mkF m 209 #[.val (.int p1), .val (.int p2), .val (.int p3), .val (.int (Int32.ofNat tn)), .val (.int (Int32.ofNat wn)), .val (.int (Int32.ofNat an)), .val (.ref b1), .val (.ref b2), .val (.int (1 : Int32))] [])) _
                refine XS.aload Xb.here hx rfl (hb hby at_209) rfl rfl ?_
                show Steps p.tables e below (Tb.setTop (mkF m 211 #[.val (.int p1), .val (.int p2), .val (.int p3), .val (.int (Int32.ofNat tn)), .val (.int (Int32.ofNat wn)), .val (.int (Int32.ofNat an)), .val (.ref b1), .val (.ref b2), .val (.int (1 : Int32))] [(.ref b1)])) _
                refine XS.iload Xb.here hx rfl (hb hby at_211) rfl ?_
                show Steps p.tables e below (Tb.setTop (mkF m 213 #[.val (.int p1), .val (.int p2), .val (.int p3), .val (.int (Int32.ofNat tn)), .val (.int (Int32.ofNat wn)), .val (.int (Int32.ofNat an)), .val (.ref b1), .val (.ref b2), .val (.int (1 : Int32))] [(.int (Int32.ofNat an)), (.ref b1)])) _
                refine XS.aload Xb.here hx rfl (hb hby at_213) rfl rfl ?_
                exact kt
              obtain ⟨_, _, ⟨T6, L6, k6, n6⟩, -, X6, ⟨Lc6, hQ6, l6, y6, z6⟩, st6⟩ := Jvm.LawKit.callS Xb hx (y := (⟨"com/example/fence_finder/fencefinder/io/Text", "startsWith", "([CI[C)Z"⟩ : MethodName)) hown (mvT hZ (hw _ (List.mem_of_getElem? (i := 1) rfl))) (mvT hZ (hw _ (List.mem_of_getElem? (i := 2) rfl))) (mvT hZ (hw _ (List.mem_of_getElem? (i := 3) rfl))) (mvT hZ (hw _ (List.mem_of_getElem? (i := 4) rfl))) (by decide) (backOf (W := 0) (rm1 l Z a0 hw [] b1 an b2 tn wn (own_tx p1) (own_tx p2) hB n0 Zb C5 D5 (by omega) (by omega) (by omega)) hZ (hw _ (List.mem_of_getElem? (i := 4) rfl)) (hw _ (List.mem_of_getElem? (i := 3) rfl)) (by decide) (by decide)) (g := (mkF m 215 #[.val (.int p1), .val (.int p2), .val (.int p3), .val (.int (Int32.ofNat tn)), .val (.int (Int32.ofNat wn)), .val (.int (Int32.ofNat an)), .val (.ref b1), .val (.ref b2), .val (.int (1 : Int32))] [(.ref b2), (.int (Int32.ofNat an)), (.ref b1)])) rfl (by rw [hml]; rfl) (argsL := [(.ref b1), (.int (Int32.ofNat an)), (.ref b2)]) (rest := []) (lenOf pd_0 rfl) rfl (by show 2 * 0 + _ ≤ _; exact Nat.le_of_eq rfl) (hb hby at_215) (fun _ _ => ⟨rfl, eb, (by decide : 2 + 0 ≤ _), (by decide : 7 + 0 ≤ _)⟩)
              dsimp only [Pt.U, Pt.locs, Pt.cells, Pt.slots] at X6 l6 y6 z6 st6 hQ6
              subst l6 y6 z6
              obtain ⟨rfl, N6q, e6⟩ := hQ6
              have N6 := Fr.app Nb N6q
              refine Ends.of st6 ?_
              refine Ends.of (F' := T6.setTop (mkF m 228 #[.val (.int p1), .val (.int p2), .val (.int p3), .val (.int (Int32.ofNat tn)), .val (.int (Int32.ofNat wn)), .val (.int (Int32.ofNat an)), .val (.ref b1), .val (.ref b2), .val (.int (1 : Int32))] [(.int (1 : Int32))])) (fun _ kt => ?_) ?_
              · show Steps p.tables e below (T6.setTop (mkF m 218 #[.val (.int p1), .val (.int p2), .val (.int p3), .val (.int (Int32.ofNat tn)), .val (.int (Int32.ofNat wn)), .val (.int (Int32.ofNat an)), .val (.ref b1), .val (.ref b2), .val (.int (1 : Int32))] [(.int (if (an + wn ≤ tn ∧ ∀ i, i < wn → (own_tx p1) (an + i) = (own_tx p2) i) then (1 : Int32) else (0 : Int32)))])) _
                refine XS.iload X6.here hx rfl (hb hby at_218) rfl ?_
                show Steps p.tables e below (T6.setTop (mkF m 220 #[.val (.int p1), .val (.int p2), .val (.int p3), .val (.int (Int32.ofNat tn)), .val (.int (Int32.ofNat wn)), .val (.int (Int32.ofNat an)), .val (.ref b1), .val (.ref b2), .val (.int (1 : Int32))] [(.int (1 : Int32)), (.int (if (an + wn ≤ tn ∧ ∀ i, i < wn → (own_tx p1) (an + i) = (own_tx p2) i) then (1 : Int32) else (0 : Int32)))])) _
                refine XS.icmpNo X6.here hx rfl (hb hby at_220) rfl (teq (if_pos ⟨by omega, hall⟩)).2 ?_
                show Steps p.tables e below (T6.setTop (mkF m 223 #[.val (.int p1), .val (.int p2), .val (.int p3), .val (.int (Int32.ofNat tn)), .val (.int (Int32.ofNat wn)), .val (.int (Int32.ofNat an)), .val (.ref b1), .val (.ref b2), .val (.int (1 : Int32))] [])) _
                refine XS.iconst X6.here hx rfl (hb hby at_223) ?_
                show Steps p.tables e below (T6.setTop (mkF m 224 #[.val (.int p1), .val (.int p2), .val (.int p3), .val (.int (Int32.ofNat tn)), .val (.int (Int32.ofNat wn)), .val (.int (Int32.ofNat an)), .val (.ref b1), .val (.ref b2), .val (.int (1 : Int32))] [(.int (1 : Int32))])) _
                refine XS.goto X6.here hx rfl (pc0 := 224) (pc' := 228) rfl (hb hby at_224) (by decide) (by decide) ?_
                exact kt
              obtain ⟨fs, hr, hrun, hended, hW, hsame⟩ := X6.leave (v := some (.int (1 : Int32))) (fun h => by rw [Bd.returns] at h; cases h)
              exact ⟨_, _, retN X6 hx (t := .boolean) Bd.returns (by simp) (hb hby at_228) hr, hrun, hended, _, _, rfl, ⟨rfl, N6⟩, ⟨_, rfl⟩, hW, hsame.mono (by decide) (by decide)⟩
            · refine Ends.of (F' := Tb.setTop (mkF m 179 #[.val (.int p1), .val (.int p2), .val (.int p3), .val (.int (Int32.ofNat tn)), .val (.int (Int32.ofNat wn)), .val (.int (Int32.ofNat an)), .val (.ref b1), .val (.ref b2), .unset] [(.int (own_tx p2 1)), (.int (own_tx p1 (an + 1)))])) (fun _ kt => ?_) ?_
              · show Steps p.tables e below (Tb.setTop (mkF m 165 #[.val (.int p1), .val (.int p2), .val (.int p3), .val (.int (Int32.ofNat tn)), .val (.int (Int32.ofNat wn)), .val (.int (Int32.ofNat an)), .val (.ref b1), .val (.ref b2), .unset] [(.int (2 : Int32)), (.int (Int32.ofNat wn))])) _
                refine XS.icmpNo Xb.here hx rfl (hb hby at_165) rfl (flt (mt (own_ltN wn 2 (by omega) (by omega)).mp hw2)).1 ?_
                show Steps p.tables e below (Tb.setTop (mkF m 168 #[.val (.int p1), .val (.int p2), .val (.int p3), .val (.int (Int32.ofNat tn)), .val (.int (Int32.ofNat wn)), .val (.int (Int32.ofNat an)), .val (.ref b1), .val (.ref b2), .unset] [])) _
                refine XS.aload Xb.here hx rfl (hb hby at_168) rfl rfl ?_
                show Steps p.tables e below (Tb.setTop (mkF m 170 #[.val (.int p1), .val (.int p2), .val (.int p3), .val (.int (Int32.ofNat tn)), .val (.int (Int32.ofNat wn)), .val (.int (Int32.ofNat an)), .val (.ref b1), .val (.ref b2), .unset] [(.ref b1)])) _
                refine XS.iload Xb.here hx rfl (hb hby at_170) rfl ?_
                show Steps p.tables e below (Tb.setTop (mkF m 172 #[.val (.int p1), .val (.int p2), .val (.int p3), .val (.int (Int32.ofNat tn)), .val (.int (Int32.ofNat wn)), .val (.int (Int32.ofNat an)), .val (.ref b1), .val (.ref b2), .unset] [(.int (Int32.ofNat an)), (.ref b1)])) _
                refine XS.iconst Xb.here hx rfl (hb hby at_172) ?_
                show Steps p.tables e below (Tb.setTop (mkF m 173 #[.val (.int p1), .val (.int p2), .val (.int p3), .val (.int (Int32.ofNat tn)), .val (.int (Int32.ofNat wn)), .val (.int (Int32.ofNat an)), .val (.ref b1), .val (.ref b2), .unset] [(.int (1 : Int32)), (.int (Int32.ofNat an)), (.ref b1)])) _
                refine XS.iadd Xb.here hx rfl (hb hby at_173) rfl ?_
                show Steps p.tables e below (Tb.setTop (mkF m 174 #[.val (.int p1), .val (.int p2), .val (.int p3), .val (.int (Int32.ofNat tn)), .val (.int (Int32.ofNat wn)), .val (.int (Int32.ofNat an)), .val (.ref b1), .val (.ref b2), .unset] [(.int ((Int32.ofNat an) + (1 : Int32))), (.ref b1)])) _
                refine Xb.caload hx (j := ((Int32.ofNat an) + (1 : Int32))) (v := (.int (own_tx p1 (an + 1)))) (by rw [eb]; exact A1.1) (State.isArrayOf_alike hZ.alike A1.2.1) A1.2.2 (own_hin (i := an + 1) S1 (own_add an 1) (by omega) (by omega)) (own_hat (i := an + 1) H1 (own_add an 1) (by omega) (by omega) (by omega)) (g := (mkF m 174 #[.val (.int p1), .val (.int p2), .val (.int p3), .val (.int (Int32.ofNat tn)), .val (.int (Int32.ofNat wn)), .val (.int (Int32.ofNat an)), .val (.ref b1), .val (.ref b2), .unset] [(.int ((Int32.ofNat an) + (1 : Int32))), (.ref b1)])) rfl rfl (hb hby at_174) _ ?_
                show Steps p.tables e below (Tb.setTop (mkF m 175 #[.val (.int p1), .val (.int p2), .val (.int p3), .val (.int (Int32.ofNat tn)), .val (.int (Int32.ofNat wn)), .val (.int (Int32.ofNat an)), .val (.ref b1), .val (.ref b2), .unset] [(.int (own_tx p1 (an + 1)))])) _
                refine XS.aload Xb.here hx rfl (hb hby at_175) rfl rfl ?_
                show Steps p.tables e below (Tb.setTop (mkF m 177 #[.val (.int p1), .val (.int p2), .val (.int p3), .val (.int (Int32.ofNat tn)), .val (.int (Int32.ofNat wn)), .val (.int (Int32.ofNat an)), .val (.ref b1), .val (.ref b2), .unset] [(.ref b2), (.int (own_tx p1 (an + 1)))])) _
                refine XS.iconst Xb.here hx rfl (hb hby at_177) ?_
                show Steps p.tables e below (Tb.setTop (mkF m 178 #[.val (.int p1), .val (.int p2), .val (.int p3), .val (.int (Int32.ofNat tn)), .val (.int (Int32.ofNat wn)), .val (.int (Int32.ofNat an)), .val (.ref b1), .val (.ref b2), .unset] [(.int (1 : Int32)), (.ref b2), (.int (own_tx p1 (an + 1)))])) _
                refine Xb.caload hx (j := (1 : Int32)) (v := (.int (own_tx p2 1))) (by rw [eb]; exact A2.1) (State.isArrayOf_alike hZ.alike A2.2.1) A2.2.2 (own_hin (i := 1) S2 rfl (by omega) (by omega)) (own_hat (i := 1) H2 rfl (by omega) (by omega) (by omega)) (g := (mkF m 178 #[.val (.int p1), .val (.int p2), .val (.int p3), .val (.int (Int32.ofNat tn)), .val (.int (Int32.ofNat wn)), .val (.int (Int32.ofNat an)), .val (.ref b1), .val (.ref b2), .unset] [(.int (1 : Int32)), (.ref b2), (.int (own_tx p1 (an + 1)))])) rfl rfl (hb hby at_178) _ ?_
                exact kt
              by_cases hm1 : (own_tx p1 (an + 1)) = (own_tx p2 1)
              · refine Ends.of (F' := Tb.setTop (mkF m 185 #[.val (.int p1), .val (.int p2), .val (.int p3), .val (.int (Int32.ofNat tn)), .val (.int (Int32.ofNat wn)), .val (.int (Int32.ofNat an)), .val (.ref b1), .val (.ref b2), .unset] [(.int (3 : Int32)), (.int (Int32.ofNat wn))])) (fun _ kt => ?_) ?_
                · show Steps p.tables e below (Tb.setTop (mkF m 179 #[.val (.int p1), .val (.int p2), .val (.int p3), .val (.int (Int32.ofNat tn)), .val (.int (Int32.ofNat wn)), .val (.int (Int32.ofNat an)), .val (.ref b1), .val (.ref b2), .unset] [(.int (own_tx p2 1)), (.int (own_tx p1 (an + 1)))])) _
                  refine XS.icmpNo Xb.here hx rfl (hb hby at_179) rfl (teq hm1).2 ?_
                  show Steps p.tables e below (Tb.setTop (mkF m 182 #[.val (.int p1), .val (.int p2), .val (.int p3), .val (.int (Int32.ofNat tn)), .val (.int (Int32.ofNat wn)), .val (.int (Int32.ofNat an)), .val (.ref b1), .val (.ref b2), .unset] [])) _
                  refine XS.iload Xb.here hx rfl (hb hby at_182) rfl ?_
                  show Steps p.tables e below (Tb.setTop (mkF m 184 #[.val (.int p1), .val (.int p2), .val (.int p3), .val (.int (Int32.ofNat tn)), .val (.int (Int32.ofNat wn)), .val (.int (Int32.ofNat an)), .val (.ref b1), .val (.ref b2), .unset] [(.int (Int32.ofNat wn))])) _
                  refine XS.iconst Xb.here hx rfl (hb hby at_184) ?_
                  exact kt
                by_cases hw3 : wn < 3
                · have hall : ∀ i, i < wn → own_tx p1 (an + i) = own_tx p2 i := fun i hi => by
                      rcases (show i = 0 ∨ i = 1 by omega) with rfl | rfl
                      · exact hm0
                      · exact hm1
                  refine Ends.of (F' := Tb.setTop (mkF m 215 #[.val (.int p1), .val (.int p2), .val (.int p3), .val (.int (Int32.ofNat tn)), .val (.int (Int32.ofNat wn)), .val (.int (Int32.ofNat an)), .val (.ref b1), .val (.ref b2), .val (.int (1 : Int32))] [(.ref b2), (.int (Int32.ofNat an)), (.ref b1)])) (fun _ kt => ?_) ?_
                  · show Steps p.tables e below (Tb.setTop (mkF m 185 #[.val (.int p1), .val (.int p2), .val (.int p3), .val (.int (Int32.ofNat tn)), .val (.int (Int32.ofNat wn)), .val (.int (Int32.ofNat an)), .val (.ref b1), .val (.ref b2), .unset] [(.int (3 : Int32)), (.int (Int32.ofNat wn))])) _
                    refine XS.icmpYes Xb.here hx rfl (pc0 := 185) (pc' := 202) rfl (hb hby at_185) rfl (tlt ((own_ltN wn 3 (by omega) (by omega)).mpr hw3)).1 (by decide) (by decide) ?_
                    show Steps p.tables e below (Tb.setTop (mkF m 202 #[.val (.int p1), .val (.int p2), .val (.int p3), .val (.int (Int32.ofNat tn)), .val (.int (Int32.ofNat wn)), .val (.int (Int32.ofNat an)), .val (.ref b1), .val (.ref b2), .unset] [])) _
                    refine XS.iconst Xb.here hx rfl (hb hby at_202) ?_
                    show Steps p.tables e below (Tb.setTop (mkF m 203 #[.val (.int p1), .val (.int p2), .val (.int p3), .val (.int (Int32.ofNat tn)), .val (.int (Int32.ofNat wn)), .val (.int (Int32.ofNat an)), .val (.ref b1), .val (.ref b2), .unset] [(.int (1 : Int32))])) _
                    refine XS.goto Xb.here hx rfl (pc0 := 203) (pc' := 207) rfl (hb hby at_203) (by decide) (by decide) ?_
                    show Steps p.tables e below (Tb.setTop (mkF m 207 #[.val (.int p1), .val (.int p2), .val (.int p3), .val (.int (Int32.ofNat tn)), .val (.int (Int32.ofNat wn)), .val (.int (Int32.ofNat an)), .val (.ref b1), .val (.ref b2), .unset] [(.int (1 : Int32))])) _
                    refine XS.istore Xb.here hx rfl (hb hby at_207) rfl (l' := #[.val (.int p1), .val (.int p2), .val (.int p3), .val (.int (Int32.ofNat tn)), .val (.int (Int32.ofNat wn)), .val (.int (Int32.ofNat an)), .val (.ref b1), .val (.ref b2), .val (.int (1 : Int32))]) rfl ?_
                    show Steps p.tables e below (Tb.setTop (mkF m 209 #[.val (.int p1), .val (.int p2), .val (.int p3), .val (.int (Int32.ofNat tn)), .val (.int (Int32.ofNat wn)), .val (.int (Int32.ofNat an)), .val (.ref b1), .val (.ref b2), .val (.int (1 : Int32))] [])) _
                    refine XS.aload Xb.here hx rfl (hb hby at_209) rfl rfl ?_
                    show Steps p.tables e below (Tb.setTop (mkF m 211 #[.val (.int p1), .val (.int p2), .val (.int p3), .val (.int (Int32.ofNat tn)), .val (.int (Int32.ofNat wn)), .val (.int (Int32.ofNat an)), .val (.ref b1), .val (.ref b2), .val (.int (1 : Int32))] [(.ref b1)])) _
                    refine XS.iload Xb.here hx rfl (hb hby at_211) rfl ?_
                    show Steps p.tables e below (Tb.setTop (mkF m 213 #[.val (.int p1), .val (.int p2), .val (.int p3), .val (.int (Int32.ofNat tn)), .val (.int (Int32.ofNat wn)), .val (.int (Int32.ofNat an)), .val (.ref b1), .val (.ref b2), .val (.int (1 : Int32))] [(.int (Int32.ofNat an)), (.ref b1)])) _
                    refine XS.aload Xb.here hx rfl (hb hby at_213) rfl rfl ?_
                    exact kt
                  obtain ⟨_, _, ⟨T8, L8, k8, n8⟩, -, X8, ⟨Lc8, hQ8, l8, y8, z8⟩, st8⟩ := Jvm.LawKit.callS Xb hx (y := (⟨"com/example/fence_finder/fencefinder/io/Text", "startsWith", "([CI[C)Z"⟩ : MethodName)) hown (mvT hZ (hw _ (List.mem_of_getElem? (i := 1) rfl))) (mvT hZ (hw _ (List.mem_of_getElem? (i := 2) rfl))) (mvT hZ (hw _ (List.mem_of_getElem? (i := 3) rfl))) (mvT hZ (hw _ (List.mem_of_getElem? (i := 4) rfl))) (by decide) (backOf (W := 0) (rm1 l Z a0 hw [] b1 an b2 tn wn (own_tx p1) (own_tx p2) hB n0 Zb C5 D5 (by omega) (by omega) (by omega)) hZ (hw _ (List.mem_of_getElem? (i := 4) rfl)) (hw _ (List.mem_of_getElem? (i := 3) rfl)) (by decide) (by decide)) (g := (mkF m 215 #[.val (.int p1), .val (.int p2), .val (.int p3), .val (.int (Int32.ofNat tn)), .val (.int (Int32.ofNat wn)), .val (.int (Int32.ofNat an)), .val (.ref b1), .val (.ref b2), .val (.int (1 : Int32))] [(.ref b2), (.int (Int32.ofNat an)), (.ref b1)])) rfl (by rw [hml]; rfl) (argsL := [(.ref b1), (.int (Int32.ofNat an)), (.ref b2)]) (rest := []) (lenOf pd_0 rfl) rfl (by show 2 * 0 + _ ≤ _; exact Nat.le_of_eq rfl) (hb hby at_215) (fun _ _ => ⟨rfl, eb, (by decide : 2 + 0 ≤ _), (by decide : 7 + 0 ≤ _)⟩)
                  dsimp only [Pt.U, Pt.locs, Pt.cells, Pt.slots] at X8 l8 y8 z8 st8 hQ8
                  subst l8 y8 z8
                  obtain ⟨rfl, N8q, e8⟩ := hQ8
                  have N8 := Fr.app Nb N8q
                  refine Ends.of st8 ?_
                  refine Ends.of (F' := T8.setTop (mkF m 228 #[.val (.int p1), .val (.int p2), .val (.int p3), .val (.int (Int32.ofNat tn)), .val (.int (Int32.ofNat wn)), .val (.int (Int32.ofNat an)), .val (.ref b1), .val (.ref b2), .val (.int (1 : Int32))] [(.int (1 : Int32))])) (fun _ kt => ?_) ?_
                  · show Steps p.tables e below (T8.setTop (mkF m 218 #[.val (.int p1), .val (.int p2), .val (.int p3), .val (.int (Int32.ofNat tn)), .val (.int (Int32.ofNat wn)), .val (.int (Int32.ofNat an)), .val (.ref b1), .val (.ref b2), .val (.int (1 : Int32))] [(.int (if (an + wn ≤ tn ∧ ∀ i, i < wn → (own_tx p1) (an + i) = (own_tx p2) i) then (1 : Int32) else (0 : Int32)))])) _
                    refine XS.iload X8.here hx rfl (hb hby at_218) rfl ?_
                    show Steps p.tables e below (T8.setTop (mkF m 220 #[.val (.int p1), .val (.int p2), .val (.int p3), .val (.int (Int32.ofNat tn)), .val (.int (Int32.ofNat wn)), .val (.int (Int32.ofNat an)), .val (.ref b1), .val (.ref b2), .val (.int (1 : Int32))] [(.int (1 : Int32)), (.int (if (an + wn ≤ tn ∧ ∀ i, i < wn → (own_tx p1) (an + i) = (own_tx p2) i) then (1 : Int32) else (0 : Int32)))])) _
                    refine XS.icmpNo X8.here hx rfl (hb hby at_220) rfl (teq (if_pos ⟨by omega, hall⟩)).2 ?_
                    show Steps p.tables e below (T8.setTop (mkF m 223 #[.val (.int p1), .val (.int p2), .val (.int p3), .val (.int (Int32.ofNat tn)), .val (.int (Int32.ofNat wn)), .val (.int (Int32.ofNat an)), .val (.ref b1), .val (.ref b2), .val (.int (1 : Int32))] [])) _
                    refine XS.iconst X8.here hx rfl (hb hby at_223) ?_
                    show Steps p.tables e below (T8.setTop (mkF m 224 #[.val (.int p1), .val (.int p2), .val (.int p3), .val (.int (Int32.ofNat tn)), .val (.int (Int32.ofNat wn)), .val (.int (Int32.ofNat an)), .val (.ref b1), .val (.ref b2), .val (.int (1 : Int32))] [(.int (1 : Int32))])) _
                    refine XS.goto X8.here hx rfl (pc0 := 224) (pc' := 228) rfl (hb hby at_224) (by decide) (by decide) ?_
                    exact kt
                  obtain ⟨fs, hr, hrun, hended, hW, hsame⟩ := X8.leave (v := some (.int (1 : Int32))) (fun h => by rw [Bd.returns] at h; cases h)
                  exact ⟨_, _, retN X8 hx (t := .boolean) Bd.returns (by simp) (hb hby at_228) hr, hrun, hended, _, _, rfl, ⟨rfl, N8⟩, ⟨_, rfl⟩, hW, hsame.mono (by decide) (by decide)⟩
                · refine Ends.of (F' := Tb.setTop (mkF m 199 #[.val (.int p1), .val (.int p2), .val (.int p3), .val (.int (Int32.ofNat tn)), .val (.int (Int32.ofNat wn)), .val (.int (Int32.ofNat an)), .val (.ref b1), .val (.ref b2), .unset] [(.int (own_tx p2 2)), (.int (own_tx p1 (an + 2)))])) (fun _ kt => ?_) ?_
                  · show Steps p.tables e below (Tb.setTop (mkF m 185 #[.val (.int p1), .val (.int p2), .val (.int p3), .val (.int (Int32.ofNat tn)), .val (.int (Int32.ofNat wn)), .val (.int (Int32.ofNat an)), .val (.ref b1), .val (.ref b2), .unset] [(.int (3 : Int32)), (.int (Int32.ofNat wn))])) _
                    refine XS.icmpNo Xb.here hx rfl (hb hby at_185) rfl (flt (mt (own_ltN wn 3 (by omega) (by omega)).mp hw3)).1 ?_
                    show Steps p.tables e below (Tb.setTop (mkF m 188 #[.val (.int p1), .val (.int p2), .val (.int p3), .val (.int (Int32.ofNat tn)), .val (.int (Int32.ofNat wn)), .val (.int (Int32.ofNat an)), .val (.ref b1), .val (.ref b2), .unset] [])) _
                    refine XS.aload Xb.here hx rfl (hb hby at_188) rfl rfl ?_
                    show Steps p.tables e below (Tb.setTop (mkF m 190 #[.val (.int p1), .val (.int p2), .val (.int p3), .val (.int (Int32.ofNat tn)), .val (.int (Int32.ofNat wn)), .val (.int (Int32.ofNat an)), .val (.ref b1), .val (.ref b2), .unset] [(.ref b1)])) _
                    refine XS.iload Xb.here hx rfl (hb hby at_190) rfl ?_
                    show Steps p.tables e below (Tb.setTop (mkF m 192 #[.val (.int p1), .val (.int p2), .val (.int p3), .val (.int (Int32.ofNat tn)), .val (.int (Int32.ofNat wn)), .val (.int (Int32.ofNat an)), .val (.ref b1), .val (.ref b2), .unset] [(.int (Int32.ofNat an)), (.ref b1)])) _
                    refine XS.iconst Xb.here hx rfl (hb hby at_192) ?_
                    show Steps p.tables e below (Tb.setTop (mkF m 193 #[.val (.int p1), .val (.int p2), .val (.int p3), .val (.int (Int32.ofNat tn)), .val (.int (Int32.ofNat wn)), .val (.int (Int32.ofNat an)), .val (.ref b1), .val (.ref b2), .unset] [(.int (2 : Int32)), (.int (Int32.ofNat an)), (.ref b1)])) _
                    refine XS.iadd Xb.here hx rfl (hb hby at_193) rfl ?_
                    show Steps p.tables e below (Tb.setTop (mkF m 194 #[.val (.int p1), .val (.int p2), .val (.int p3), .val (.int (Int32.ofNat tn)), .val (.int (Int32.ofNat wn)), .val (.int (Int32.ofNat an)), .val (.ref b1), .val (.ref b2), .unset] [(.int ((Int32.ofNat an) + (2 : Int32))), (.ref b1)])) _
                    refine Xb.caload hx (j := ((Int32.ofNat an) + (2 : Int32))) (v := (.int (own_tx p1 (an + 2)))) (by rw [eb]; exact A1.1) (State.isArrayOf_alike hZ.alike A1.2.1) A1.2.2 (own_hin (i := an + 2) S1 (own_add an 2) (by omega) (by omega)) (own_hat (i := an + 2) H1 (own_add an 2) (by omega) (by omega) (by omega)) (g := (mkF m 194 #[.val (.int p1), .val (.int p2), .val (.int p3), .val (.int (Int32.ofNat tn)), .val (.int (Int32.ofNat wn)), .val (.int (Int32.ofNat an)), .val (.ref b1), .val (.ref b2), .unset] [(.int ((Int32.ofNat an) + (2 : Int32))), (.ref b1)])) rfl rfl (hb hby at_194) _ ?_
                    show Steps p.tables e below (Tb.setTop (mkF m 195 #[.val (.int p1), .val (.int p2), .val (.int p3), .val (.int (Int32.ofNat tn)), .val (.int (Int32.ofNat wn)), .val (.int (Int32.ofNat an)), .val (.ref b1), .val (.ref b2), .unset] [(.int (own_tx p1 (an + 2)))])) _
                    refine XS.aload Xb.here hx rfl (hb hby at_195) rfl rfl ?_
                    show Steps p.tables e below (Tb.setTop (mkF m 197 #[.val (.int p1), .val (.int p2), .val (.int p3), .val (.int (Int32.ofNat tn)), .val (.int (Int32.ofNat wn)), .val (.int (Int32.ofNat an)), .val (.ref b1), .val (.ref b2), .unset] [(.ref b2), (.int (own_tx p1 (an + 2)))])) _
                    refine XS.iconst Xb.here hx rfl (hb hby at_197) ?_
                    show Steps p.tables e below (Tb.setTop (mkF m 198 #[.val (.int p1), .val (.int p2), .val (.int p3), .val (.int (Int32.ofNat tn)), .val (.int (Int32.ofNat wn)), .val (.int (Int32.ofNat an)), .val (.ref b1), .val (.ref b2), .unset] [(.int (2 : Int32)), (.ref b2), (.int (own_tx p1 (an + 2)))])) _
                    refine Xb.caload hx (j := (2 : Int32)) (v := (.int (own_tx p2 2))) (by rw [eb]; exact A2.1) (State.isArrayOf_alike hZ.alike A2.2.1) A2.2.2 (own_hin (i := 2) S2 rfl (by omega) (by omega)) (own_hat (i := 2) H2 rfl (by omega) (by omega) (by omega)) (g := (mkF m 198 #[.val (.int p1), .val (.int p2), .val (.int p3), .val (.int (Int32.ofNat tn)), .val (.int (Int32.ofNat wn)), .val (.int (Int32.ofNat an)), .val (.ref b1), .val (.ref b2), .unset] [(.int (2 : Int32)), (.ref b2), (.int (own_tx p1 (an + 2)))])) rfl rfl (hb hby at_198) _ ?_
                    exact kt
                  by_cases hm2 : (own_tx p1 (an + 2)) = (own_tx p2 2)
                  · have hall : ∀ i, i < wn → own_tx p1 (an + i) = own_tx p2 i := fun i hi => by
                      rcases (show i = 0 ∨ i = 1 ∨ i = 2 by omega) with rfl | rfl | rfl
                      · exact hm0
                      · exact hm1
                      · exact hm2
                    refine Ends.of (F' := Tb.setTop (mkF m 215 #[.val (.int p1), .val (.int p2), .val (.int p3), .val (.int (Int32.ofNat tn)), .val (.int (Int32.ofNat wn)), .val (.int (Int32.ofNat an)), .val (.ref b1), .val (.ref b2), .val (.int (1 : Int32))] [(.ref b2), (.int (Int32.ofNat an)), (.ref b1)])) (fun _ kt => ?_) ?_
                    · show Steps p.tables e below (Tb.setTop (mkF m 199 #[.val (.int p1), .val (.int p2), .val (.int p3), .val (.int (Int32.ofNat tn)), .val (.int (Int32.ofNat wn)), .val (.int (Int32.ofNat an)), .val (.ref b1), .val (.ref b2), .unset] [(.int (own_tx p2 2)), (.int (own_tx p1 (an + 2)))])) _
                      refine XS.icmpNo Xb.here hx rfl (hb hby at_199) rfl (teq hm2).2 ?_
                      show Steps p.tables e below (Tb.setTop (mkF m 202 #[.val (.int p1), .val (.int p2), .val (.int p3), .val (.int (Int32.ofNat tn)), .val (.int (Int32.ofNat wn)), .val (.int (Int32.ofNat an)), .val (.ref b1), .val (.ref b2), .unset] [])) _
                      refine XS.iconst Xb.here hx rfl (hb hby at_202) ?_
                      show Steps p.tables e below (Tb.setTop (mkF m 203 #[.val (.int p1), .val (.int p2), .val (.int p3), .val (.int (Int32.ofNat tn)), .val (.int (Int32.ofNat wn)), .val (.int (Int32.ofNat an)), .val (.ref b1), .val (.ref b2), .unset] [(.int (1 : Int32))])) _
                      refine XS.goto Xb.here hx rfl (pc0 := 203) (pc' := 207) rfl (hb hby at_203) (by decide) (by decide) ?_
                      show Steps p.tables e below (Tb.setTop (mkF m 207 #[.val (.int p1), .val (.int p2), .val (.int p3), .val (.int (Int32.ofNat tn)), .val (.int (Int32.ofNat wn)), .val (.int (Int32.ofNat an)), .val (.ref b1), .val (.ref b2), .unset] [(.int (1 : Int32))])) _
                      refine XS.istore Xb.here hx rfl (hb hby at_207) rfl (l' := #[.val (.int p1), .val (.int p2), .val (.int p3), .val (.int (Int32.ofNat tn)), .val (.int (Int32.ofNat wn)), .val (.int (Int32.ofNat an)), .val (.ref b1), .val (.ref b2), .val (.int (1 : Int32))]) rfl ?_
                      show Steps p.tables e below (Tb.setTop (mkF m 209 #[.val (.int p1), .val (.int p2), .val (.int p3), .val (.int (Int32.ofNat tn)), .val (.int (Int32.ofNat wn)), .val (.int (Int32.ofNat an)), .val (.ref b1), .val (.ref b2), .val (.int (1 : Int32))] [])) _
                      refine XS.aload Xb.here hx rfl (hb hby at_209) rfl rfl ?_
                      show Steps p.tables e below (Tb.setTop (mkF m 211 #[.val (.int p1), .val (.int p2), .val (.int p3), .val (.int (Int32.ofNat tn)), .val (.int (Int32.ofNat wn)), .val (.int (Int32.ofNat an)), .val (.ref b1), .val (.ref b2), .val (.int (1 : Int32))] [(.ref b1)])) _
                      refine XS.iload Xb.here hx rfl (hb hby at_211) rfl ?_
                      show Steps p.tables e below (Tb.setTop (mkF m 213 #[.val (.int p1), .val (.int p2), .val (.int p3), .val (.int (Int32.ofNat tn)), .val (.int (Int32.ofNat wn)), .val (.int (Int32.ofNat an)), .val (.ref b1), .val (.ref b2), .val (.int (1 : Int32))] [(.int (Int32.ofNat an)), (.ref b1)])) _
                      refine XS.aload Xb.here hx rfl (hb hby at_213) rfl rfl ?_
                      exact kt
                    obtain ⟨_, _, ⟨T10, L10, k10, n10⟩, -, X10, ⟨Lc10, hQ10, l10, y10, z10⟩, st10⟩ := Jvm.LawKit.callS Xb hx (y := (⟨"com/example/fence_finder/fencefinder/io/Text", "startsWith", "([CI[C)Z"⟩ : MethodName)) hown (mvT hZ (hw _ (List.mem_of_getElem? (i := 1) rfl))) (mvT hZ (hw _ (List.mem_of_getElem? (i := 2) rfl))) (mvT hZ (hw _ (List.mem_of_getElem? (i := 3) rfl))) (mvT hZ (hw _ (List.mem_of_getElem? (i := 4) rfl))) (by decide) (backOf (W := 0) (rm1 l Z a0 hw [] b1 an b2 tn wn (own_tx p1) (own_tx p2) hB n0 Zb C5 D5 (by omega) (by omega) (by omega)) hZ (hw _ (List.mem_of_getElem? (i := 4) rfl)) (hw _ (List.mem_of_getElem? (i := 3) rfl)) (by decide) (by decide)) (g := (mkF m 215 #[.val (.int p1), .val (.int p2), .val (.int p3), .val (.int (Int32.ofNat tn)), .val (.int (Int32.ofNat wn)), .val (.int (Int32.ofNat an)), .val (.ref b1), .val (.ref b2), .val (.int (1 : Int32))] [(.ref b2), (.int (Int32.ofNat an)), (.ref b1)])) rfl (by rw [hml]; rfl) (argsL := [(.ref b1), (.int (Int32.ofNat an)), (.ref b2)]) (rest := []) (lenOf pd_0 rfl) rfl (by show 2 * 0 + _ ≤ _; exact Nat.le_of_eq rfl) (hb hby at_215) (fun _ _ => ⟨rfl, eb, (by decide : 2 + 0 ≤ _), (by decide : 7 + 0 ≤ _)⟩)
                    dsimp only [Pt.U, Pt.locs, Pt.cells, Pt.slots] at X10 l10 y10 z10 st10 hQ10
                    subst l10 y10 z10
                    obtain ⟨rfl, N10q, e10⟩ := hQ10
                    have N10 := Fr.app Nb N10q
                    refine Ends.of st10 ?_
                    refine Ends.of (F' := T10.setTop (mkF m 228 #[.val (.int p1), .val (.int p2), .val (.int p3), .val (.int (Int32.ofNat tn)), .val (.int (Int32.ofNat wn)), .val (.int (Int32.ofNat an)), .val (.ref b1), .val (.ref b2), .val (.int (1 : Int32))] [(.int (1 : Int32))])) (fun _ kt => ?_) ?_
                    · show Steps p.tables e below (T10.setTop (mkF m 218 #[.val (.int p1), .val (.int p2), .val (.int p3), .val (.int (Int32.ofNat tn)), .val (.int (Int32.ofNat wn)), .val (.int (Int32.ofNat an)), .val (.ref b1), .val (.ref b2), .val (.int (1 : Int32))] [(.int (if (an + wn ≤ tn ∧ ∀ i, i < wn → (own_tx p1) (an + i) = (own_tx p2) i) then (1 : Int32) else (0 : Int32)))])) _
                      refine XS.iload X10.here hx rfl (hb hby at_218) rfl ?_
                      show Steps p.tables e below (T10.setTop (mkF m 220 #[.val (.int p1), .val (.int p2), .val (.int p3), .val (.int (Int32.ofNat tn)), .val (.int (Int32.ofNat wn)), .val (.int (Int32.ofNat an)), .val (.ref b1), .val (.ref b2), .val (.int (1 : Int32))] [(.int (1 : Int32)), (.int (if (an + wn ≤ tn ∧ ∀ i, i < wn → (own_tx p1) (an + i) = (own_tx p2) i) then (1 : Int32) else (0 : Int32)))])) _
                      refine XS.icmpNo X10.here hx rfl (hb hby at_220) rfl (teq (if_pos ⟨by omega, hall⟩)).2 ?_
                      show Steps p.tables e below (T10.setTop (mkF m 223 #[.val (.int p1), .val (.int p2), .val (.int p3), .val (.int (Int32.ofNat tn)), .val (.int (Int32.ofNat wn)), .val (.int (Int32.ofNat an)), .val (.ref b1), .val (.ref b2), .val (.int (1 : Int32))] [])) _
                      refine XS.iconst X10.here hx rfl (hb hby at_223) ?_
                      show Steps p.tables e below (T10.setTop (mkF m 224 #[.val (.int p1), .val (.int p2), .val (.int p3), .val (.int (Int32.ofNat tn)), .val (.int (Int32.ofNat wn)), .val (.int (Int32.ofNat an)), .val (.ref b1), .val (.ref b2), .val (.int (1 : Int32))] [(.int (1 : Int32))])) _
                      refine XS.goto X10.here hx rfl (pc0 := 224) (pc' := 228) rfl (hb hby at_224) (by decide) (by decide) ?_
                      exact kt
                    obtain ⟨fs, hr, hrun, hended, hW, hsame⟩ := X10.leave (v := some (.int (1 : Int32))) (fun h => by rw [Bd.returns] at h; cases h)
                    exact ⟨_, _, retN X10 hx (t := .boolean) Bd.returns (by simp) (hb hby at_228) hr, hrun, hended, _, _, rfl, ⟨rfl, N10⟩, ⟨_, rfl⟩, hW, hsame.mono (by decide) (by decide)⟩
                  · refine Ends.of (F' := Tb.setTop (mkF m 215 #[.val (.int p1), .val (.int p2), .val (.int p3), .val (.int (Int32.ofNat tn)), .val (.int (Int32.ofNat wn)), .val (.int (Int32.ofNat an)), .val (.ref b1), .val (.ref b2), .val (.int (0 : Int32))] [(.ref b2), (.int (Int32.ofNat an)), (.ref b1)])) (fun _ kt => ?_) ?_
                    · show Steps p.tables e below (Tb.setTop (mkF m 199 #[.val (.int p1), .val (.int p2), .val (.int p3), .val (.int (Int32.ofNat tn)), .val (.int (Int32.ofNat wn)), .val (.int (Int32.ofNat an)), .val (.ref b1), .val (.ref b2), .unset] [(.int (own_tx p2 2)), (.int (own_tx p1 (an + 2)))])) _
                      refine XS.icmpYes Xb.here hx rfl (pc0 := 199) (pc' := 206) rfl (hb hby at_199) rfl (feq hm2).2 (by decide) (by decide) ?_
                      show Steps p.tables e below (Tb.setTop (mkF m 206 #[.val (.int p1), .val (.int p2), .val (.int p3), .val (.int (Int32.ofNat tn)), .val (.int (Int32.ofNat wn)), .val (.int (Int32.ofNat an)), .val (.ref b1), .val (.ref b2), .unset] [])) _
                      refine XS.iconst Xb.here hx rfl (hb hby at_206) ?_
                      show Steps p.tables e below (Tb.setTop (mkF m 207 #[.val (.int p1), .val (.int p2), .val (.int p3), .val (.int (Int32.ofNat tn)), .val (.int (Int32.ofNat wn)), .val (.int (Int32.ofNat an)), .val (.ref b1), .val (.ref b2), .unset] [(.int (0 : Int32))])) _
                      refine XS.istore Xb.here hx rfl (hb hby at_207) rfl (l' := #[.val (.int p1), .val (.int p2), .val (.int p3), .val (.int (Int32.ofNat tn)), .val (.int (Int32.ofNat wn)), .val (.int (Int32.ofNat an)), .val (.ref b1), .val (.ref b2), .val (.int (0 : Int32))]) rfl ?_
                      show Steps p.tables e below (Tb.setTop (mkF m 209 #[.val (.int p1), .val (.int p2), .val (.int p3), .val (.int (Int32.ofNat tn)), .val (.int (Int32.ofNat wn)), .val (.int (Int32.ofNat an)), .val (.ref b1), .val (.ref b2), .val (.int (0 : Int32))] [])) _
                      refine XS.aload Xb.here hx rfl (hb hby at_209) rfl rfl ?_
                      show Steps p.tables e below (Tb.setTop (mkF m 211 #[.val (.int p1), .val (.int p2), .val (.int p3), .val (.int (Int32.ofNat tn)), .val (.int (Int32.ofNat wn)), .val (.int (Int32.ofNat an)), .val (.ref b1), .val (.ref b2), .val (.int (0 : Int32))] [(.ref b1)])) _
                      refine XS.iload Xb.here hx rfl (hb hby at_211) rfl ?_
                      show Steps p.tables e below (Tb.setTop (mkF m 213 #[.val (.int p1), .val (.int p2), .val (.int p3), .val (.int (Int32.ofNat tn)), .val (.int (Int32.ofNat wn)), .val (.int (Int32.ofNat an)), .val (.ref b1), .val (.ref b2), .val (.int (0 : Int32))] [(.int (Int32.ofNat an)), (.ref b1)])) _
                      refine XS.aload Xb.here hx rfl (hb hby at_213) rfl rfl ?_
                      exact kt
                    obtain ⟨_, _, ⟨T9, L9, k9, n9⟩, -, X9, ⟨Lc9, hQ9, l9, y9, z9⟩, st9⟩ := Jvm.LawKit.callS Xb hx (y := (⟨"com/example/fence_finder/fencefinder/io/Text", "startsWith", "([CI[C)Z"⟩ : MethodName)) hown (mvT hZ (hw _ (List.mem_of_getElem? (i := 1) rfl))) (mvT hZ (hw _ (List.mem_of_getElem? (i := 2) rfl))) (mvT hZ (hw _ (List.mem_of_getElem? (i := 3) rfl))) (mvT hZ (hw _ (List.mem_of_getElem? (i := 4) rfl))) (by decide) (backOf (W := 0) (rm1 l Z a0 hw [] b1 an b2 tn wn (own_tx p1) (own_tx p2) hB n0 Zb C5 D5 (by omega) (by omega) (by omega)) hZ (hw _ (List.mem_of_getElem? (i := 4) rfl)) (hw _ (List.mem_of_getElem? (i := 3) rfl)) (by decide) (by decide)) (g := (mkF m 215 #[.val (.int p1), .val (.int p2), .val (.int p3), .val (.int (Int32.ofNat tn)), .val (.int (Int32.ofNat wn)), .val (.int (Int32.ofNat an)), .val (.ref b1), .val (.ref b2), .val (.int (0 : Int32))] [(.ref b2), (.int (Int32.ofNat an)), (.ref b1)])) rfl (by rw [hml]; rfl) (argsL := [(.ref b1), (.int (Int32.ofNat an)), (.ref b2)]) (rest := []) (lenOf pd_0 rfl) rfl (by show 2 * 0 + _ ≤ _; exact Nat.le_of_eq rfl) (hb hby at_215) (fun _ _ => ⟨rfl, eb, (by decide : 2 + 0 ≤ _), (by decide : 7 + 0 ≤ _)⟩)
                    dsimp only [Pt.U, Pt.locs, Pt.cells, Pt.slots] at X9 l9 y9 z9 st9 hQ9
                    subst l9 y9 z9
                    obtain ⟨rfl, N9q, e9⟩ := hQ9
                    have N9 := Fr.app Nb N9q
                    refine Ends.of st9 ?_
                    refine Ends.of (F' := T9.setTop (mkF m 228 #[.val (.int p1), .val (.int p2), .val (.int p3), .val (.int (Int32.ofNat tn)), .val (.int (Int32.ofNat wn)), .val (.int (Int32.ofNat an)), .val (.ref b1), .val (.ref b2), .val (.int (0 : Int32))] [(.int (1 : Int32))])) (fun _ kt => ?_) ?_
                    · show Steps p.tables e below (T9.setTop (mkF m 218 #[.val (.int p1), .val (.int p2), .val (.int p3), .val (.int (Int32.ofNat tn)), .val (.int (Int32.ofNat wn)), .val (.int (Int32.ofNat an)), .val (.ref b1), .val (.ref b2), .val (.int (0 : Int32))] [(.int (if (an + wn ≤ tn ∧ ∀ i, i < wn → (own_tx p1) (an + i) = (own_tx p2) i) then (1 : Int32) else (0 : Int32)))])) _
                      refine XS.iload X9.here hx rfl (hb hby at_218) rfl ?_
                      show Steps p.tables e below (T9.setTop (mkF m 220 #[.val (.int p1), .val (.int p2), .val (.int p3), .val (.int (Int32.ofNat tn)), .val (.int (Int32.ofNat wn)), .val (.int (Int32.ofNat an)), .val (.ref b1), .val (.ref b2), .val (.int (0 : Int32))] [(.int (0 : Int32)), (.int (if (an + wn ≤ tn ∧ ∀ i, i < wn → (own_tx p1) (an + i) = (own_tx p2) i) then (1 : Int32) else (0 : Int32)))])) _
                      refine XS.icmpNo X9.here hx rfl (hb hby at_220) rfl (teq (if_neg (fun q => hm2 (q.2 2 (by omega))))).2 ?_
                      show Steps p.tables e below (T9.setTop (mkF m 223 #[.val (.int p1), .val (.int p2), .val (.int p3), .val (.int (Int32.ofNat tn)), .val (.int (Int32.ofNat wn)), .val (.int (Int32.ofNat an)), .val (.ref b1), .val (.ref b2), .val (.int (0 : Int32))] [])) _
                      refine XS.iconst X9.here hx rfl (hb hby at_223) ?_
                      show Steps p.tables e below (T9.setTop (mkF m 224 #[.val (.int p1), .val (.int p2), .val (.int p3), .val (.int (Int32.ofNat tn)), .val (.int (Int32.ofNat wn)), .val (.int (Int32.ofNat an)), .val (.ref b1), .val (.ref b2), .val (.int (0 : Int32))] [(.int (1 : Int32))])) _
                      refine XS.goto X9.here hx rfl (pc0 := 224) (pc' := 228) rfl (hb hby at_224) (by decide) (by decide) ?_
                      exact kt
                    obtain ⟨fs, hr, hrun, hended, hW, hsame⟩ := X9.leave (v := some (.int (1 : Int32))) (fun h => by rw [Bd.returns] at h; cases h)
                    exact ⟨_, _, retN X9 hx (t := .boolean) Bd.returns (by simp) (hb hby at_228) hr, hrun, hended, _, _, rfl, ⟨rfl, N9⟩, ⟨_, rfl⟩, hW, hsame.mono (by decide) (by decide)⟩
              · refine Ends.of (F' := Tb.setTop (mkF m 215 #[.val (.int p1), .val (.int p2), .val (.int p3), .val (.int (Int32.ofNat tn)), .val (.int (Int32.ofNat wn)), .val (.int (Int32.ofNat an)), .val (.ref b1), .val (.ref b2), .val (.int (0 : Int32))] [(.ref b2), (.int (Int32.ofNat an)), (.ref b1)])) (fun _ kt => ?_) ?_
                · show Steps p.tables e below (Tb.setTop (mkF m 179 #[.val (.int p1), .val (.int p2), .val (.int p3), .val (.int (Int32.ofNat tn)), .val (.int (Int32.ofNat wn)), .val (.int (Int32.ofNat an)), .val (.ref b1), .val (.ref b2), .unset] [(.int (own_tx p2 1)), (.int (own_tx p1 (an + 1)))])) _
                  refine XS.icmpYes Xb.here hx rfl (pc0 := 179) (pc' := 206) rfl (hb hby at_179) rfl (feq hm1).2 (by decide) (by decide) ?_
                  show Steps p.tables e below (Tb.setTop (mkF m 206 #[.val (.int p1), .val (.int p2), .val (.int p3), .val (.int (Int32.ofNat tn)), .val (.int (Int32.ofNat wn)), .val (.int (Int32.ofNat an)), .val (.ref b1), .val (.ref b2), .unset] [])) _
                  refine XS.iconst Xb.here hx rfl (hb hby at_206) ?_
                  show Steps p.tables e below (Tb.setTop (mkF m 207 #[.val (.int p1), .val (.int p2), .val (.int p3), .val (.int (Int32.ofNat tn)), .val (.int (Int32.ofNat wn)), .val (.int (Int32.ofNat an)), .val (.ref b1), .val (.ref b2), .unset] [(.int (0 : Int32))])) _
                  refine XS.istore Xb.here hx rfl (hb hby at_207) rfl (l' := #[.val (.int p1), .val (.int p2), .val (.int p3), .val (.int (Int32.ofNat tn)), .val (.int (Int32.ofNat wn)), .val (.int (Int32.ofNat an)), .val (.ref b1), .val (.ref b2), .val (.int (0 : Int32))]) rfl ?_
                  show Steps p.tables e below (Tb.setTop (mkF m 209 #[.val (.int p1), .val (.int p2), .val (.int p3), .val (.int (Int32.ofNat tn)), .val (.int (Int32.ofNat wn)), .val (.int (Int32.ofNat an)), .val (.ref b1), .val (.ref b2), .val (.int (0 : Int32))] [])) _
                  refine XS.aload Xb.here hx rfl (hb hby at_209) rfl rfl ?_
                  show Steps p.tables e below (Tb.setTop (mkF m 211 #[.val (.int p1), .val (.int p2), .val (.int p3), .val (.int (Int32.ofNat tn)), .val (.int (Int32.ofNat wn)), .val (.int (Int32.ofNat an)), .val (.ref b1), .val (.ref b2), .val (.int (0 : Int32))] [(.ref b1)])) _
                  refine XS.iload Xb.here hx rfl (hb hby at_211) rfl ?_
                  show Steps p.tables e below (Tb.setTop (mkF m 213 #[.val (.int p1), .val (.int p2), .val (.int p3), .val (.int (Int32.ofNat tn)), .val (.int (Int32.ofNat wn)), .val (.int (Int32.ofNat an)), .val (.ref b1), .val (.ref b2), .val (.int (0 : Int32))] [(.int (Int32.ofNat an)), (.ref b1)])) _
                  refine XS.aload Xb.here hx rfl (hb hby at_213) rfl rfl ?_
                  exact kt
                obtain ⟨_, _, ⟨T7, L7, k7, n7⟩, -, X7, ⟨Lc7, hQ7, l7, y7, z7⟩, st7⟩ := Jvm.LawKit.callS Xb hx (y := (⟨"com/example/fence_finder/fencefinder/io/Text", "startsWith", "([CI[C)Z"⟩ : MethodName)) hown (mvT hZ (hw _ (List.mem_of_getElem? (i := 1) rfl))) (mvT hZ (hw _ (List.mem_of_getElem? (i := 2) rfl))) (mvT hZ (hw _ (List.mem_of_getElem? (i := 3) rfl))) (mvT hZ (hw _ (List.mem_of_getElem? (i := 4) rfl))) (by decide) (backOf (W := 0) (rm1 l Z a0 hw [] b1 an b2 tn wn (own_tx p1) (own_tx p2) hB n0 Zb C5 D5 (by omega) (by omega) (by omega)) hZ (hw _ (List.mem_of_getElem? (i := 4) rfl)) (hw _ (List.mem_of_getElem? (i := 3) rfl)) (by decide) (by decide)) (g := (mkF m 215 #[.val (.int p1), .val (.int p2), .val (.int p3), .val (.int (Int32.ofNat tn)), .val (.int (Int32.ofNat wn)), .val (.int (Int32.ofNat an)), .val (.ref b1), .val (.ref b2), .val (.int (0 : Int32))] [(.ref b2), (.int (Int32.ofNat an)), (.ref b1)])) rfl (by rw [hml]; rfl) (argsL := [(.ref b1), (.int (Int32.ofNat an)), (.ref b2)]) (rest := []) (lenOf pd_0 rfl) rfl (by show 2 * 0 + _ ≤ _; exact Nat.le_of_eq rfl) (hb hby at_215) (fun _ _ => ⟨rfl, eb, (by decide : 2 + 0 ≤ _), (by decide : 7 + 0 ≤ _)⟩)
                dsimp only [Pt.U, Pt.locs, Pt.cells, Pt.slots] at X7 l7 y7 z7 st7 hQ7
                subst l7 y7 z7
                obtain ⟨rfl, N7q, e7⟩ := hQ7
                have N7 := Fr.app Nb N7q
                refine Ends.of st7 ?_
                refine Ends.of (F' := T7.setTop (mkF m 228 #[.val (.int p1), .val (.int p2), .val (.int p3), .val (.int (Int32.ofNat tn)), .val (.int (Int32.ofNat wn)), .val (.int (Int32.ofNat an)), .val (.ref b1), .val (.ref b2), .val (.int (0 : Int32))] [(.int (1 : Int32))])) (fun _ kt => ?_) ?_
                · show Steps p.tables e below (T7.setTop (mkF m 218 #[.val (.int p1), .val (.int p2), .val (.int p3), .val (.int (Int32.ofNat tn)), .val (.int (Int32.ofNat wn)), .val (.int (Int32.ofNat an)), .val (.ref b1), .val (.ref b2), .val (.int (0 : Int32))] [(.int (if (an + wn ≤ tn ∧ ∀ i, i < wn → (own_tx p1) (an + i) = (own_tx p2) i) then (1 : Int32) else (0 : Int32)))])) _
                  refine XS.iload X7.here hx rfl (hb hby at_218) rfl ?_
                  show Steps p.tables e below (T7.setTop (mkF m 220 #[.val (.int p1), .val (.int p2), .val (.int p3), .val (.int (Int32.ofNat tn)), .val (.int (Int32.ofNat wn)), .val (.int (Int32.ofNat an)), .val (.ref b1), .val (.ref b2), .val (.int (0 : Int32))] [(.int (0 : Int32)), (.int (if (an + wn ≤ tn ∧ ∀ i, i < wn → (own_tx p1) (an + i) = (own_tx p2) i) then (1 : Int32) else (0 : Int32)))])) _
                  refine XS.icmpNo X7.here hx rfl (hb hby at_220) rfl (teq (if_neg (fun q => hm1 (q.2 1 (by omega))))).2 ?_
                  show Steps p.tables e below (T7.setTop (mkF m 223 #[.val (.int p1), .val (.int p2), .val (.int p3), .val (.int (Int32.ofNat tn)), .val (.int (Int32.ofNat wn)), .val (.int (Int32.ofNat an)), .val (.ref b1), .val (.ref b2), .val (.int (0 : Int32))] [])) _
                  refine XS.iconst X7.here hx rfl (hb hby at_223) ?_
                  show Steps p.tables e below (T7.setTop (mkF m 224 #[.val (.int p1), .val (.int p2), .val (.int p3), .val (.int (Int32.ofNat tn)), .val (.int (Int32.ofNat wn)), .val (.int (Int32.ofNat an)), .val (.ref b1), .val (.ref b2), .val (.int (0 : Int32))] [(.int (1 : Int32))])) _
                  refine XS.goto X7.here hx rfl (pc0 := 224) (pc' := 228) rfl (hb hby at_224) (by decide) (by decide) ?_
                  exact kt
                obtain ⟨fs, hr, hrun, hended, hW, hsame⟩ := X7.leave (v := some (.int (1 : Int32))) (fun h => by rw [Bd.returns] at h; cases h)
                exact ⟨_, _, retN X7 hx (t := .boolean) Bd.returns (by simp) (hb hby at_228) hr, hrun, hended, _, _, rfl, ⟨rfl, N7⟩, ⟨_, rfl⟩, hW, hsame.mono (by decide) (by decide)⟩
          · refine Ends.of (F' := Tb.setTop (mkF m 215 #[.val (.int p1), .val (.int p2), .val (.int p3), .val (.int (Int32.ofNat tn)), .val (.int (Int32.ofNat wn)), .val (.int (Int32.ofNat an)), .val (.ref b1), .val (.ref b2), .val (.int (0 : Int32))] [(.ref b2), (.int (Int32.ofNat an)), (.ref b1)])) (fun _ kt => ?_) ?_
            · show Steps p.tables e below (Tb.setTop (mkF m 159 #[.val (.int p1), .val (.int p2), .val (.int p3), .val (.int (Int32.ofNat tn)), .val (.int (Int32.ofNat wn)), .val (.int (Int32.ofNat an)), .val (.ref b1), .val (.ref b2), .unset] [(.int (own_tx p2 0)), (.int (own_tx p1 (an + 0)))])) _
              refine XS.icmpYes Xb.here hx rfl (pc0 := 159) (pc' := 206) rfl (hb hby at_159) rfl (feq hm0).2 (by decide) (by decide) ?_
              show Steps p.tables e below (Tb.setTop (mkF m 206 #[.val (.int p1), .val (.int p2), .val (.int p3), .val (.int (Int32.ofNat tn)), .val (.int (Int32.ofNat wn)), .val (.int (Int32.ofNat an)), .val (.ref b1), .val (.ref b2), .unset] [])) _
              refine XS.iconst Xb.here hx rfl (hb hby at_206) ?_
              show Steps p.tables e below (Tb.setTop (mkF m 207 #[.val (.int p1), .val (.int p2), .val (.int p3), .val (.int (Int32.ofNat tn)), .val (.int (Int32.ofNat wn)), .val (.int (Int32.ofNat an)), .val (.ref b1), .val (.ref b2), .unset] [(.int (0 : Int32))])) _
              refine XS.istore Xb.here hx rfl (hb hby at_207) rfl (l' := #[.val (.int p1), .val (.int p2), .val (.int p3), .val (.int (Int32.ofNat tn)), .val (.int (Int32.ofNat wn)), .val (.int (Int32.ofNat an)), .val (.ref b1), .val (.ref b2), .val (.int (0 : Int32))]) rfl ?_
              show Steps p.tables e below (Tb.setTop (mkF m 209 #[.val (.int p1), .val (.int p2), .val (.int p3), .val (.int (Int32.ofNat tn)), .val (.int (Int32.ofNat wn)), .val (.int (Int32.ofNat an)), .val (.ref b1), .val (.ref b2), .val (.int (0 : Int32))] [])) _
              refine XS.aload Xb.here hx rfl (hb hby at_209) rfl rfl ?_
              show Steps p.tables e below (Tb.setTop (mkF m 211 #[.val (.int p1), .val (.int p2), .val (.int p3), .val (.int (Int32.ofNat tn)), .val (.int (Int32.ofNat wn)), .val (.int (Int32.ofNat an)), .val (.ref b1), .val (.ref b2), .val (.int (0 : Int32))] [(.ref b1)])) _
              refine XS.iload Xb.here hx rfl (hb hby at_211) rfl ?_
              show Steps p.tables e below (Tb.setTop (mkF m 213 #[.val (.int p1), .val (.int p2), .val (.int p3), .val (.int (Int32.ofNat tn)), .val (.int (Int32.ofNat wn)), .val (.int (Int32.ofNat an)), .val (.ref b1), .val (.ref b2), .val (.int (0 : Int32))] [(.int (Int32.ofNat an)), (.ref b1)])) _
              refine XS.aload Xb.here hx rfl (hb hby at_213) rfl rfl ?_
              exact kt
            obtain ⟨_, _, ⟨T5, L5, k5, n5⟩, -, X5, ⟨Lc5, hQ5, l5, y5, z5⟩, st5⟩ := Jvm.LawKit.callS Xb hx (y := (⟨"com/example/fence_finder/fencefinder/io/Text", "startsWith", "([CI[C)Z"⟩ : MethodName)) hown (mvT hZ (hw _ (List.mem_of_getElem? (i := 1) rfl))) (mvT hZ (hw _ (List.mem_of_getElem? (i := 2) rfl))) (mvT hZ (hw _ (List.mem_of_getElem? (i := 3) rfl))) (mvT hZ (hw _ (List.mem_of_getElem? (i := 4) rfl))) (by decide) (backOf (W := 0) (rm1 l Z a0 hw [] b1 an b2 tn wn (own_tx p1) (own_tx p2) hB n0 Zb C5 D5 (by omega) (by omega) (by omega)) hZ (hw _ (List.mem_of_getElem? (i := 4) rfl)) (hw _ (List.mem_of_getElem? (i := 3) rfl)) (by decide) (by decide)) (g := (mkF m 215 #[.val (.int p1), .val (.int p2), .val (.int p3), .val (.int (Int32.ofNat tn)), .val (.int (Int32.ofNat wn)), .val (.int (Int32.ofNat an)), .val (.ref b1), .val (.ref b2), .val (.int (0 : Int32))] [(.ref b2), (.int (Int32.ofNat an)), (.ref b1)])) rfl (by rw [hml]; rfl) (argsL := [(.ref b1), (.int (Int32.ofNat an)), (.ref b2)]) (rest := []) (lenOf pd_0 rfl) rfl (by show 2 * 0 + _ ≤ _; exact Nat.le_of_eq rfl) (hb hby at_215) (fun _ _ => ⟨rfl, eb, (by decide : 2 + 0 ≤ _), (by decide : 7 + 0 ≤ _)⟩)
            dsimp only [Pt.U, Pt.locs, Pt.cells, Pt.slots] at X5 l5 y5 z5 st5 hQ5
            subst l5 y5 z5
            obtain ⟨rfl, N5q, e5⟩ := hQ5
            have N5 := Fr.app Nb N5q
            refine Ends.of st5 ?_
            refine Ends.of (F' := T5.setTop (mkF m 228 #[.val (.int p1), .val (.int p2), .val (.int p3), .val (.int (Int32.ofNat tn)), .val (.int (Int32.ofNat wn)), .val (.int (Int32.ofNat an)), .val (.ref b1), .val (.ref b2), .val (.int (0 : Int32))] [(.int (1 : Int32))])) (fun _ kt => ?_) ?_
            · show Steps p.tables e below (T5.setTop (mkF m 218 #[.val (.int p1), .val (.int p2), .val (.int p3), .val (.int (Int32.ofNat tn)), .val (.int (Int32.ofNat wn)), .val (.int (Int32.ofNat an)), .val (.ref b1), .val (.ref b2), .val (.int (0 : Int32))] [(.int (if (an + wn ≤ tn ∧ ∀ i, i < wn → (own_tx p1) (an + i) = (own_tx p2) i) then (1 : Int32) else (0 : Int32)))])) _
              refine XS.iload X5.here hx rfl (hb hby at_218) rfl ?_
              show Steps p.tables e below (T5.setTop (mkF m 220 #[.val (.int p1), .val (.int p2), .val (.int p3), .val (.int (Int32.ofNat tn)), .val (.int (Int32.ofNat wn)), .val (.int (Int32.ofNat an)), .val (.ref b1), .val (.ref b2), .val (.int (0 : Int32))] [(.int (0 : Int32)), (.int (if (an + wn ≤ tn ∧ ∀ i, i < wn → (own_tx p1) (an + i) = (own_tx p2) i) then (1 : Int32) else (0 : Int32)))])) _
              refine XS.icmpNo X5.here hx rfl (hb hby at_220) rfl (teq (if_neg (fun q => hm0 (q.2 0 (by omega))))).2 ?_
              show Steps p.tables e below (T5.setTop (mkF m 223 #[.val (.int p1), .val (.int p2), .val (.int p3), .val (.int (Int32.ofNat tn)), .val (.int (Int32.ofNat wn)), .val (.int (Int32.ofNat an)), .val (.ref b1), .val (.ref b2), .val (.int (0 : Int32))] [])) _
              refine XS.iconst X5.here hx rfl (hb hby at_223) ?_
              show Steps p.tables e below (T5.setTop (mkF m 224 #[.val (.int p1), .val (.int p2), .val (.int p3), .val (.int (Int32.ofNat tn)), .val (.int (Int32.ofNat wn)), .val (.int (Int32.ofNat an)), .val (.ref b1), .val (.ref b2), .val (.int (0 : Int32))] [(.int (1 : Int32))])) _
              refine XS.goto X5.here hx rfl (pc0 := 224) (pc' := 228) rfl (hb hby at_224) (by decide) (by decide) ?_
              exact kt
            obtain ⟨fs, hr, hrun, hended, hW, hsame⟩ := X5.leave (v := some (.int (1 : Int32))) (fun h => by rw [Bd.returns] at h; cases h)
            exact ⟨_, _, retN X5 hx (t := .boolean) Bd.returns (by simp) (hb hby at_228) hr, hrun, hended, _, _, rfl, ⟨rfl, N5⟩, ⟨_, rfl⟩, hW, hsame.mono (by decide) (by decide)⟩
    have blk119 : ∀ (Tb : State) (lb : List Loc) (hB : Heap), Stand p l e room_1 s m #[(.int p1), (.int p2), (.int p3)] below meth c Tb lb 2 7 → Tb.heap = hB → Fr n0 lb → n0 ≤ hB.size → Chr Z hB b1 tn 4 (own_tx p1) → Chr Z hB b2 wn 2 (own_tx p2) → Ends p e below s room_1 (Q0 Z p1 p2 p3 h0 n0) (Tb.setTop (mkF m 119 #[.val (.int p1), .val (.int p2), .val (.int p3), .val (.int (Int32.ofNat tn)), .val (.int (Int32.ofNat wn)), .val (.int (Int32.ofNat an)), .val (.ref b1), .val (.ref b2), .unset] [])) := by
      intro Tb lb hB Xb eb Nb Zb C D
      refine Ends.of (F' := Tb.setTop (mkF m 122 #[.val (.int p1), .val (.int p2), .val (.int p3), .val (.int (Int32.ofNat tn)), .val (.int (Int32.ofNat wn)), .val (.int (Int32.ofNat an)), .val (.ref b1), .val (.ref b2), .unset] [(.int (2 : Int32)), (.int (Int32.ofNat wn))])) (fun _ kt => ?_) ?_
      · show Steps p.tables e below (Tb.setTop (mkF m 119 #[.val (.int p1), .val (.int p2), .val (.int p3), .val (.int (Int32.ofNat tn)), .val (.int (Int32.ofNat wn)), .val (.int (Int32.ofNat an)), .val (.ref b1), .val (.ref b2), .unset] [])) _
        refine XS.iload Xb.here hx rfl (hb hby at_119) rfl ?_
        show Steps p.tables e below (Tb.setTop (mkF m 121 #[.val (.int p1), .val (.int p2), .val (.int p3), .val (.int (Int32.ofNat tn)), .val (.int (Int32.ofNat wn)), .val (.int (Int32.ofNat an)), .val (.ref b1), .val (.ref b2), .unset] [(.int (Int32.ofNat wn))])) _
        refine XS.iconst Xb.here hx rfl (hb hby at_121) ?_
        exact kt
      by_cases hj : 2 < wn
      · refine Ends.of (F' := Tb.setTop (mkF m 131 #[.val (.int p1), .val (.int p2), .val (.int p3), .val (.int (Int32.ofNat tn)), .val (.int (Int32.ofNat wn)), .val (.int (Int32.ofNat an)), .val (.ref b1), .val (.ref b2), .unset] [(.int ((p2.toUInt32 >>> ((4 : Int32) &&& 31).toUInt32).toInt32)), (.int (2 : Int32)), (.ref b2)])) (fun _ kt => ?_) ?_
        · show Steps p.tables e below (Tb.setTop (mkF m 122 #[.val (.int p1), .val (.int p2), .val (.int p3), .val (.int (Int32.ofNat tn)), .val (.int (Int32.ofNat wn)), .val (.int (Int32.ofNat an)), .val (.ref b1), .val (.ref b2), .unset] [(.int (2 : Int32)), (.int (Int32.ofNat wn))])) _
          refine XS.icmpNo Xb.here hx rfl (hb hby at_122) rfl (tlt ((own_ltN 2 wn (by omega) (by omega)).mpr hj)).2.2.2 ?_
          show Steps p.tables e below (Tb.setTop (mkF m 125 #[.val (.int p1), .val (.int p2), .val (.int p3), .val (.int (Int32.ofNat tn)), .val (.int (Int32.ofNat wn)), .val (.int (Int32.ofNat an)), .val (.ref b1), .val (.ref b2), .unset] [])) _
          refine XS.aload Xb.here hx rfl (hb hby at_125) rfl rfl ?_
          show Steps p.tables e below (Tb.setTop (mkF m 127 #[.val (.int p1), .val (.int p2), .val (.int p3), .val (.int (Int32.ofNat tn)), .val (.int (Int32.ofNat wn)), .val (.int (Int32.ofNat an)), .val (.ref b1), .val (.ref b2), .unset] [(.ref b2)])) _
          refine XS.iconst Xb.here hx rfl (hb hby at_127) ?_
          show Steps p.tables e below (Tb.setTop (mkF m 128 #[.val (.int p1), .val (.int p2), .val (.int p3), .val (.int (Int32.ofNat tn)), .val (.int (Int32.ofNat wn)), .val (.int (Int32.ofNat an)), .val (.ref b1), .val (.ref b2), .unset] [(.int (2 : Int32)), (.ref b2)])) _
          refine XS.iloadN Xb.here hx rfl (hb hby at_128) rfl ?_
          show Steps p.tables e below (Tb.setTop (mkF m 129 #[.val (.int p1), .val (.int p2), .val (.int p3), .val (.int (Int32.ofNat tn)), .val (.int (Int32.ofNat wn)), .val (.int (Int32.ofNat an)), .val (.ref b1), .val (.ref b2), .unset] [(.int p2), (.int (2 : Int32)), (.ref b2)])) _
          refine XS.iconst Xb.here hx rfl (hb hby at_129) ?_
          show Steps p.tables e below (Tb.setTop (mkF m 130 #[.val (.int p1), .val (.int p2), .val (.int p3), .val (.int (Int32.ofNat tn)), .val (.int (Int32.ofNat wn)), .val (.int (Int32.ofNat an)), .val (.ref b1), .val (.ref b2), .unset] [(.int (4 : Int32)), (.int p2), (.int (2 : Int32)), (.ref b2)])) _
          refine XS.iushr Xb.here hx rfl (hb hby at_130) rfl ?_
          exact kt
        obtain ⟨_, _, ⟨T11, L11, k11, n11⟩, -, X11, ⟨Lc11, hQ11, l11, y11, z11⟩, st11⟩ := Jvm.LawKit.callS Xb hx (y := (⟨"com/example/fence_finder/fencefinder/io/TextStartsWithPinLaw", "pick", "(I)C"⟩ : MethodName)) hown (mvT hZ (hw _ (List.mem_of_getElem? (i := 5) rfl))) (mvT hZ (hw _ (List.mem_of_getElem? (i := 6) rfl))) (mvT hZ (hw _ (List.mem_of_getElem? (i := 7) rfl))) (mvT hZ (hw _ (List.mem_of_getElem? (i := 8) rfl))) (by decide) (backOf (W := 2) (rm2 l Z a0 hw [] ((p2.toUInt32 >>> ((4 : Int32) &&& 31).toUInt32).toInt32) hB n0 Zb) hZ (hw _ (List.mem_of_getElem? (i := 8) rfl)) (hw _ (List.mem_of_getElem? (i := 7) rfl)) (by decide) (by decide)) (g := (mkF m 131 #[.val (.int p1), .val (.int p2), .val (.int p3), .val (.int (Int32.ofNat tn)), .val (.int (Int32.ofNat wn)), .val (.int (Int32.ofNat an)), .val (.ref b1), .val (.ref b2), .unset] [(.int ((p2.toUInt32 >>> ((4 : Int32) &&& 31).toUInt32).toInt32)), (.int (2 : Int32)), (.ref b2)])) rfl (by rw [hml]; rfl) (argsL := [(.int ((p2.toUInt32 >>> ((4 : Int32) &&& 31).toUInt32).toInt32))]) (rest := [(.int (2 : Int32)), (.ref b2)]) (lenOf pd_1 rfl) rfl (by show 2 * 0 + _ ≤ _; exact Nat.le_of_eq rfl) (hb hby at_131) (fun _ _ => ⟨rfl, eb, (by decide : 2 + 0 ≤ _), (by decide : 7 + 0 ≤ _)⟩)
        dsimp only [Pt.U, Pt.locs, Pt.cells, Pt.slots] at X11 l11 y11 z11 st11 hQ11
        subst l11 y11 z11
        obtain ⟨rfl, N11q, e11⟩ := hQ11
        have N11 := Fr.app Nb N11q
        refine Ends.of st11 ?_
        obtain ⟨cc, Ac, Sc, Hc⟩ := D
        obtain ⟨T12, h12, X12, e12, W12, st12⟩ := stC X11 hx hZ e11 Ac (j := (2 : Int32)) (own_hin (i := 2) Sc rfl hj (by omega)) (g := (mkF m 134 #[.val (.int p1), .val (.int p2), .val (.int p3), .val (.int (Int32.ofNat tn)), .val (.int (Int32.ofNat wn)), .val (.int (Int32.ofNat an)), .val (.ref b1), .val (.ref b2), .unset] [(.int (own_pick ((p2.toUInt32 >>> ((4 : Int32) &&& 31).toUInt32).toInt32))), (.int (2 : Int32)), (.ref b2)])) rfl rfl (hb hby at_134)
        refine Ends.of st12 ?_
        have N12 := Fr.snoc X12 N11 gb2
        rw [own_pickn] at W12
        have Cn := Chr.set (j := 2) Ac Sc Hc rfl W12 rfl
        have Zn : n0 ≤ h12.size := by rw [W12.size]; exact Zb
        have Co := C.other W12 ne12
        exact blk135 _ _ _ X12 e12 N12 Zn Co Cn
      · refine Ends.of (F' := Tb.setTop (mkF m 135 #[.val (.int p1), .val (.int p2), .val (.int p3), .val (.int (Int32.ofNat tn)), .val (.int (Int32.ofNat wn)), .val (.int (Int32.ofNat an)), .val (.ref b1), .val (.ref b2), .unset] [])) (fun _ kt => ?_) ?_
        · show Steps p.tables e below (Tb.setTop (mkF m 122 #[.val (.int p1), .val (.int p2), .val (.int p3), .val (.int (Int32.ofNat tn)), .val (.int (Int32.ofNat wn)), .val (.int (Int32.ofNat an)), .val (.ref b1), .val (.ref b2), .unset] [(.int (2 : Int32)), (.int (Int32.ofNat wn))])) _
          refine XS.icmpYes Xb.here hx rfl (pc0 := 122) (pc' := 135) rfl (hb hby at_122) rfl (flt (mt (own_ltN 2 wn (by omega) (by omega)).mp hj)).2.2.2 (by decide) (by decide) ?_
          exact kt
        exact blk135 _ _ _ Xb eb Nb Zb C (D.mono (fun i h1 h2 => by omega))
    have blk103 : ∀ (Tb : State) (lb : List Loc) (hB : Heap), Stand p l e room_1 s m #[(.int p1), (.int p2), (.int p3)] below meth c Tb lb 2 7 → Tb.heap = hB → Fr n0 lb → n0 ≤ hB.size → Chr Z hB b1 tn 4 (own_tx p1) → Chr Z hB b2 wn 1 (own_tx p2) → Ends p e below s room_1 (Q0 Z p1 p2 p3 h0 n0) (Tb.setTop (mkF m 103 #[.val (.int p1), .val (.int p2), .val (.int p3), .val (.int (Int32.ofNat tn)), .val (.int (Int32.ofNat wn)), .val (.int (Int32.ofNat an)), .val (.ref b1), .val (.ref b2), .unset] [])) := by
      intro Tb lb hB Xb eb Nb Zb C D
      refine Ends.of (F' := Tb.setTop (mkF m 106 #[.val (.int p1), .val (.int p2), .val (.int p3), .val (.int (Int32.ofNat tn)), .val (.int (Int32.ofNat wn)), .val (.int (Int32.ofNat an)), .val (.ref b1), .val (.ref b2), .unset] [(.int (1 : Int32)), (.int (Int32.ofNat wn))])) (fun _ kt => ?_) ?_
      · show Steps p.tables e below (Tb.setTop (mkF m 103 #[.val (.int p1), .val (.int p2), .val (.int p3), .val (.int (Int32.ofNat tn)), .val (.int (Int32.ofNat wn)), .val (.int (Int32.ofNat an)), .val (.ref b1), .val (.ref b2), .unset] [])) _
        refine XS.iload Xb.here hx rfl (hb hby at_103) rfl ?_
        show Steps p.tables e below (Tb.setTop (mkF m 105 #[.val (.int p1), .val (.int p2), .val (.int p3), .val (.int (Int32.ofNat tn)), .val (.int (Int32.ofNat wn)), .val (.int (Int32.ofNat an)), .val (.ref b1), .val (.ref b2), .unset] [(.int (Int32.ofNat wn))])) _
        refine XS.iconst Xb.here hx rfl (hb hby at_105) ?_
        exact kt
      by_cases hj : 1 < wn
      · refine Ends.of (F' := Tb.setTop (mkF m 115 #[.val (.int p1), .val (.int p2), .val (.int p3), .val (.int (Int32.ofNat tn)), .val (.int (Int32.ofNat wn)), .val (.int (Int32.ofNat an)), .val (.ref b1), .val (.ref b2), .unset] [(.int ((p2.toUInt32 >>> ((2 : Int32) &&& 31).toUInt32).toInt32)), (.int (1 : Int32)), (.ref b2)])) (fun _ kt => ?_) ?_
        · show Steps p.tables e below (Tb.setTop (mkF m 106 #[.val (.int p1), .val (.int p2), .val (.int p3), .val (.int (Int32.ofNat tn)), .val (.int (Int32.ofNat wn)), .val (.int (Int32.ofNat an)), .val (.ref b1), .val (.ref b2), .unset] [(.int (1 : Int32)), (.int (Int32.ofNat wn))])) _
          refine XS.icmpNo Xb.here hx rfl (hb hby at_106) rfl (tlt ((own_ltN 1 wn (by omega) (by omega)).mpr hj)).2.2.2 ?_
          show Steps p.tables e below (Tb.setTop (mkF m 109 #[.val (.int p1), .val (.int p2), .val (.int p3), .val (.int (Int32.ofNat tn)), .val (.int (Int32.ofNat wn)), .val (.int (Int32.ofNat an)), .val (.ref b1), .val (.ref b2), .unset] [])) _
          refine XS.aload Xb.here hx rfl (hb hby at_109) rfl rfl ?_
          show Steps p.tables e below (Tb.setTop (mkF m 111 #[.val (.int p1), .val (.int p2), .val (.int p3), .val (.int (Int32.ofNat tn)), .val (.int (Int32.ofNat wn)), .val (.int (Int32.ofNat an)), .val (.ref b1), .val (.ref b2), .unset] [(.ref b2)])) _
          refine XS.iconst Xb.here hx rfl (hb hby at_111) ?_
          show Steps p.tables e below (Tb.setTop (mkF m 112 #[.val (.int p1), .val (.int p2), .val (.int p3), .val (.int (Int32.ofNat tn)), .val (.int (Int32.ofNat wn)), .val (.int (Int32.ofNat an)), .val (.ref b1), .val (.ref b2), .unset] [(.int (1 : Int32)), (.ref b2)])) _
          refine XS.iloadN Xb.here hx rfl (hb hby at_112) rfl ?_
          show Steps p.tables e below (Tb.setTop (mkF m 113 #[.val (.int p1), .val (.int p2), .val (.int p3), .val (.int (Int32.ofNat tn)), .val (.int (Int32.ofNat wn)), .val (.int (Int32.ofNat an)), .val (.ref b1), .val (.ref b2), .unset] [(.int p2), (.int (1 : Int32)), (.ref b2)])) _
          refine XS.iconst Xb.here hx rfl (hb hby at_113) ?_
          show Steps p.tables e below (Tb.setTop (mkF m 114 #[.val (.int p1), .val (.int p2), .val (.int p3), .val (.int (Int32.ofNat tn)), .val (.int (Int32.ofNat wn)), .val (.int (Int32.ofNat an)), .val (.ref b1), .val (.ref b2), .unset] [(.int (2 : Int32)), (.int p2), (.int (1 : Int32)), (.ref b2)])) _
          refine XS.iushr Xb.here hx rfl (hb hby at_114) rfl ?_
          exact kt
        obtain ⟨_, _, ⟨T13, L13, k13, n13⟩, -, X13, ⟨Lc13, hQ13, l13, y13, z13⟩, st13⟩ := Jvm.LawKit.callS Xb hx (y := (⟨"com/example/fence_finder/fencefinder/io/TextStartsWithPinLaw", "pick", "(I)C"⟩ : MethodName)) hown (mvT hZ (hw _ (List.mem_of_getElem? (i := 5) rfl))) (mvT hZ (hw _ (List.mem_of_getElem? (i := 6) rfl))) (mvT hZ (hw _ (List.mem_of_getElem? (i := 7) rfl))) (mvT hZ (hw _ (List.mem_of_getElem? (i := 8) rfl))) (by decide) (backOf (W := 2) (rm2 l Z a0 hw [] ((p2.toUInt32 >>> ((2 : Int32) &&& 31).toUInt32).toInt32) hB n0 Zb) hZ (hw _ (List.mem_of_getElem? (i := 8) rfl)) (hw _ (List.mem_of_getElem? (i := 7) rfl)) (by decide) (by decide)) (g := (mkF m 115 #[.val (.int p1), .val (.int p2), .val (.int p3), .val (.int (Int32.ofNat tn)), .val (.int (Int32.ofNat wn)), .val (.int (Int32.ofNat an)), .val (.ref b1), .val (.ref b2), .unset] [(.int ((p2.toUInt32 >>> ((2 : Int32) &&& 31).toUInt32).toInt32)), (.int (1 : Int32)), (.ref b2)])) rfl (by rw [hml]; rfl) (argsL := [(.int ((p2.toUInt32 >>> ((2 : Int32) &&& 31).toUInt32).toInt32))]) (rest := [(.int (1 : Int32)), (.ref b2)]) (lenOf pd_1 rfl) rfl (by show 2 * 0 + _ ≤ _; exact Nat.le_of_eq rfl) (hb hby at_115) (fun _ _ => ⟨rfl, eb, (by decide : 2 + 0 ≤ _), (by decide : 7 + 0 ≤ _)⟩)
        dsimp only [Pt.U, Pt.locs, Pt.cells, Pt.slots] at X13 l13 y13 z13 st13 hQ13
        subst l13 y13 z13
        obtain ⟨rfl, N13q, e13⟩ := hQ13
        have N13 := Fr.app Nb N13q
        refine Ends.of st13 ?_
        obtain ⟨cc, Ac, Sc, Hc⟩ := D
        obtain ⟨T14, h14, X14, e14, W14, st14⟩ := stC X13 hx hZ e13 Ac (j := (1 : Int32)) (own_hin (i := 1) Sc rfl hj (by omega)) (g := (mkF m 118 #[.val (.int p1), .val (.int p2), .val (.int p3), .val (.int (Int32.ofNat tn)), .val (.int (Int32.ofNat wn)), .val (.int (Int32.ofNat an)), .val (.ref b1), .val (.ref b2), .unset] [(.int (own_pick ((p2.toUInt32 >>> ((2 : Int32) &&& 31).toUInt32).toInt32))), (.int (1 : Int32)), (.ref b2)])) rfl rfl (hb hby at_118)
        refine Ends.of st14 ?_
        have N14 := Fr.snoc X14 N13 gb2
        rw [own_pickn] at W14
        have Cn := Chr.set (j := 1) Ac Sc Hc rfl W14 rfl
        have Zn : n0 ≤ h14.size := by rw [W14.size]; exact Zb
        have Co := C.other W14 ne12
        exact blk119 _ _ _ X14 e14 N14 Zn Co Cn
      · refine Ends.of (F' := Tb.setTop (mkF m 119 #[.val (.int p1), .val (.int p2), .val (.int p3), .val (.int (Int32.ofNat tn)), .val (.int (Int32.ofNat wn)), .val (.int (Int32.ofNat an)), .val (.ref b1), .val (.ref b2), .unset] [])) (fun _ kt => ?_) ?_
        · show Steps p.tables e below (Tb.setTop (mkF m 106 #[.val (.int p1), .val (.int p2), .val (.int p3), .val (.int (Int32.ofNat tn)), .val (.int (Int32.ofNat wn)), .val (.int (Int32.ofNat an)), .val (.ref b1), .val (.ref b2), .unset] [(.int (1 : Int32)), (.int (Int32.ofNat wn))])) _
          refine XS.icmpYes Xb.here hx rfl (pc0 := 106) (pc' := 119) rfl (hb hby at_106) rfl (flt (mt (own_ltN 1 wn (by omega) (by omega)).mp hj)).2.2.2 (by decide) (by decide) ?_
          exact kt
        exact blk119 _ _ _ Xb eb Nb Zb C (D.mono (fun i h1 h2 => by omega))
    have Zb := Z2
    refine Ends.of (F' := T2.setTop (mkF m 92 #[.val (.int p1), .val (.int p2), .val (.int p3), .val (.int (Int32.ofNat tn)), .val (.int (Int32.ofNat wn)), .val (.int (Int32.ofNat an)), .val (.ref b1), .val (.ref b2), .unset] [(.int (Int32.ofNat wn))])) (fun _ kt => ?_) ?_
    · show Steps p.tables e below (T2.setTop (mkF m 90 #[.val (.int p1), .val (.int p2), .val (.int p3), .val (.int (Int32.ofNat tn)), .val (.int (Int32.ofNat wn)), .val (.int (Int32.ofNat an)), .val (.ref b1), .val (.ref b2), .unset] [])) _
      refine XS.iload X2.here hx rfl (hb hby at_90) rfl ?_
      exact kt
    by_cases hj : 0 < wn
    · refine Ends.of (F' := T2.setTop (mkF m 99 #[.val (.int p1), .val (.int p2), .val (.int p3), .val (.int (Int32.ofNat tn)), .val (.int (Int32.ofNat wn)), .val (.int (Int32.ofNat an)), .val (.ref b1), .val (.ref b2), .unset] [(.int p2), (.int (0 : Int32)), (.ref b2)])) (fun _ kt => ?_) ?_
      · show Steps p.tables e below (T2.setTop (mkF m 92 #[.val (.int p1), .val (.int p2), .val (.int p3), .val (.int (Int32.ofNat tn)), .val (.int (Int32.ofNat wn)), .val (.int (Int32.ofNat an)), .val (.ref b1), .val (.ref b2), .unset] [(.int (Int32.ofNat wn))])) _
        refine XS.ifNo X2.here hx rfl (hb hby at_92) rfl ((if0 _ _).trans (tlt ((own_ltN 0 wn (by omega) (by omega)).mpr hj)).2.2.2) ?_
        show Steps p.tables e below (T2.setTop (mkF m 95 #[.val (.int p1), .val (.int p2), .val (.int p3), .val (.int (Int32.ofNat tn)), .val (.int (Int32.ofNat wn)), .val (.int (Int32.ofNat an)), .val (.ref b1), .val (.ref b2), .unset] [])) _
        refine XS.aload X2.here hx rfl (hb hby at_95) rfl rfl ?_
        show Steps p.tables e below (T2.setTop (mkF m 97 #[.val (.int p1), .val (.int p2), .val (.int p3), .val (.int (Int32.ofNat tn)), .val (.int (Int32.ofNat wn)), .val (.int (Int32.ofNat an)), .val (.ref b1), .val (.ref b2), .unset] [(.ref b2)])) _
        refine XS.iconst X2.here hx rfl (hb hby at_97) ?_
        show Steps p.tables e below (T2.setTop (mkF m 98 #[.val (.int p1), .val (.int p2), .val (.int p3), .val (.int (Int32.ofNat tn)), .val (.int (Int32.ofNat wn)), .val (.int (Int32.ofNat an)), .val (.ref b1), .val (.ref b2), .unset] [(.int (0 : Int32)), (.ref b2)])) _
        refine XS.iloadN X2.here hx rfl (hb hby at_98) rfl ?_
        exact kt
      obtain ⟨_, _, ⟨T15, L15, k15, n15⟩, -, X15, ⟨Lc15, hQ15, l15, y15, z15⟩, st15⟩ := Jvm.LawKit.callS X2 hx (y := (⟨"com/example/fence_finder/fencefinder/io/TextStartsWithPinLaw", "pick", "(I)C"⟩ : MethodName)) hown (mvT hZ (hw _ (List.mem_of_getElem? (i := 5) rfl))) (mvT hZ (hw _ (List.mem_of_getElem? (i := 6) rfl))) (mvT hZ (hw _ (List.mem_of_getElem? (i := 7) rfl))) (mvT hZ (hw _ (List.mem_of_getElem? (i := 8) rfl))) (by decide) (backOf (W := 2) (rm2 l Z a0 hw [] p2 h2 n0 Zb) hZ (hw _ (List.mem_of_getElem? (i := 8) rfl)) (hw _ (List.mem_of_getElem? (i := 7) rfl)) (by decide) (by decide)) (g := (mkF m 99 #[.val (.int p1), .val (.int p2), .val (.int p3), .val (.int (Int32.ofNat tn)), .val (.int (Int32.ofNat wn)), .val (.int (Int32.ofNat an)), .val (.ref b1), .val (.ref b2), .unset] [(.int p2), (.int (0 : Int32)), (.ref b2)])) rfl (by rw [hml]; rfl) (argsL := [(.int p2)]) (rest := [(.int (0 : Int32)), (.ref b2)]) (lenOf pd_1 rfl) rfl (by show 2 * 0 + _ ≤ _; exact Nat.le_of_eq rfl) (hb hby at_99) (fun _ _ => ⟨rfl, e2, (by decide : 2 + 0 ≤ _), (by decide : 7 + 0 ≤ _)⟩)
      dsimp only [Pt.U, Pt.locs, Pt.cells, Pt.slots] at X15 l15 y15 z15 st15 hQ15
      subst l15 y15 z15
      obtain ⟨rfl, N15q, e15⟩ := hQ15
      have N15 := Fr.app Nb N15q
      refine Ends.of st15 ?_
      obtain ⟨cc, Ac, Sc, Hc⟩ := D0
      obtain ⟨T16, h16, X16, e16, W16, st16⟩ := stC X15 hx hZ e15 Ac (j := (0 : Int32)) (own_hin (i := 0) Sc rfl hj (by omega)) (g := (mkF m 102 #[.val (.int p1), .val (.int p2), .val (.int p3), .val (.int (Int32.ofNat tn)), .val (.int (Int32.ofNat wn)), .val (.int (Int32.ofNat an)), .val (.ref b1), .val (.ref b2), .unset] [(.int (own_pick p2)), (.int (0 : Int32)), (.ref b2)])) rfl rfl (hb hby at_102)
      refine Ends.of st16 ?_
      have N16 := Fr.snoc X16 N15 gb2
      rw [own_pickn] at W16
      have Cn := Chr.set (j := 0) Ac Sc Hc rfl W16 rfl
      have Zn : n0 ≤ h16.size := by rw [W16.size]; exact Zb
      have Co := C4.other W16 ne12
      exact blk103 _ _ _ X16 e16 N16 Zn Co Cn
    · refine Ends.of (F' := T2.setTop (mkF m 103 #[.val (.int p1), .val (.int p2), .val (.int p3), .val (.int (Int32.ofNat tn)), .val (.int (Int32.ofNat wn)), .val (.int (Int32.ofNat an)), .val (.ref b1), .val (.ref b2), .unset] [])) (fun _ kt => ?_) ?_
      · show Steps p.tables e below (T2.setTop (mkF m 92 #[.val (.int p1), .val (.int p2), .val (.int p3), .val (.int (Int32.ofNat tn)), .val (.int (Int32.ofNat wn)), .val (.int (Int32.ofNat an)), .val (.ref b1), .val (.ref b2), .unset] [(.int (Int32.ofNat wn))])) _
        refine XS.ifYes X2.here hx rfl (pc0 := 92) (pc' := 103) rfl (hb hby at_92) rfl ((if0 _ _).trans (flt (mt (own_ltN 0 wn (by omega) (by omega)).mp hj)).2.2.2) (by decide) (by decide) ?_
        exact kt
      exact blk103 _ _ _ X2 e2 Nb Zb C4 (D0.mono (fun i h1 h2 => by omega))
  have blk68 : ∀ (Tb : State) (lb : List Loc) (hB : Heap), Stand p l e room_1 s m #[(.int p1), (.int p2), (.int p3)] below meth c Tb lb 1 4 → Tb.heap = hB → Fr n0 lb → n0 ≤ hB.size → Chr Z hB b1 tn 3 (own_tx p1) → Ends p e below s room_1 (Q0 Z p1 p2 p3 h0 n0) (Tb.setTop (mkF m 68 #[.val (.int p1), .val (.int p2), .val (.int p3), .val (.int (Int32.ofNat tn)), .val (.int (Int32.ofNat wn)), .val (.int (Int32.ofNat an)), .val (.ref b1), .unset, .unset] [])) := by
    intro Tb lb hB Xb eb Nb Zb C
    refine Ends.of (F' := Tb.setTop (mkF m 70 #[.val (.int p1), .val (.int p2), .val (.int p3), .val (.int (Int32.ofNat tn)), .val (.int (Int32.ofNat wn)), .val (.int (Int32.ofNat an)), .val (.ref b1), .unset, .unset] [(.int (3 : Int32)), (.int (Int32.ofNat tn))])) (fun _ kt => ?_) ?_
    · show Steps p.tables e below (Tb.setTop (mkF m 68 #[.val (.int p1), .val (.int p2), .val (.int p3), .val (.int (Int32.ofNat tn)), .val (.int (Int32.ofNat wn)), .val (.int (Int32.ofNat an)), .val (.ref b1), .unset, .unset] [])) _
      refine XS.iloadN Xb.here hx rfl (hb hby at_68) rfl ?_
      show Steps p.tables e below (Tb.setTop (mkF m 69 #[.val (.int p1), .val (.int p2), .val (.int p3), .val (.int (Int32.ofNat tn)), .val (.int (Int32.ofNat wn)), .val (.int (Int32.ofNat an)), .val (.ref b1), .unset, .unset] [(.int (Int32.ofNat tn))])) _
      refine XS.iconst Xb.here hx rfl (hb hby at_69) ?_
      exact kt
    by_cases hj : 3 < tn
    · refine Ends.of (F' := Tb.setTop (mkF m 80 #[.val (.int p1), .val (.int p2), .val (.int p3), .val (.int (Int32.ofNat tn)), .val (.int (Int32.ofNat wn)), .val (.int (Int32.ofNat an)), .val (.ref b1), .unset, .unset] [(.int ((p1.toUInt32 >>> ((6 : Int32) &&& 31).toUInt32).toInt32)), (.int (3 : Int32)), (.ref b1)])) (fun _ kt => ?_) ?_
      · show Steps p.tables e below (Tb.setTop (mkF m 70 #[.val (.int p1), .val (.int p2), .val (.int p3), .val (.int (Int32.ofNat tn)), .val (.int (Int32.ofNat wn)), .val (.int (Int32.ofNat an)), .val (.ref b1), .unset, .unset] [(.int (3 : Int32)), (.int (Int32.ofNat tn))])) _
        refine XS.icmpNo Xb.here hx rfl (hb hby at_70) rfl (tlt ((own_ltN 3 tn (by omega) (by omega)).mpr hj)).2.2.2 ?_
        show Steps p.tables e below (Tb.setTop (mkF m 73 #[.val (.int p1), .val (.int p2), .val (.int p3), .val (.int (Int32.ofNat tn)), .val (.int (Int32.ofNat wn)), .val (.int (Int32.ofNat an)), .val (.ref b1), .unset, .unset] [])) _
        refine XS.aload Xb.here hx rfl (hb hby at_73) rfl rfl ?_
        show Steps p.tables e below (Tb.setTop (mkF m 75 #[.val (.int p1), .val (.int p2), .val (.int p3), .val (.int (Int32.ofNat tn)), .val (.int (Int32.ofNat wn)), .val (.int (Int32.ofNat an)), .val (.ref b1), .unset, .unset] [(.ref b1)])) _
        refine XS.iconst Xb.here hx rfl (hb hby at_75) ?_
        show Steps p.tables e below (Tb.setTop (mkF m 76 #[.val (.int p1), .val (.int p2), .val (.int p3), .val (.int (Int32.ofNat tn)), .val (.int (Int32.ofNat wn)), .val (.int (Int32.ofNat an)), .val (.ref b1), .unset, .unset] [(.int (3 : Int32)), (.ref b1)])) _
        refine XS.iloadN Xb.here hx rfl (hb hby at_76) rfl ?_
        show Steps p.tables e below (Tb.setTop (mkF m 77 #[.val (.int p1), .val (.int p2), .val (.int p3), .val (.int (Int32.ofNat tn)), .val (.int (Int32.ofNat wn)), .val (.int (Int32.ofNat an)), .val (.ref b1), .unset, .unset] [(.int p1), (.int (3 : Int32)), (.ref b1)])) _
        refine XS.bipush Xb.here hx rfl (hb hby at_77) ?_
        show Steps p.tables e below (Tb.setTop (mkF m 79 #[.val (.int p1), .val (.int p2), .val (.int p3), .val (.int (Int32.ofNat tn)), .val (.int (Int32.ofNat wn)), .val (.int (Int32.ofNat an)), .val (.ref b1), .unset, .unset] [(.int (6 : Int32)), (.int p1), (.int (3 : Int32)), (.ref b1)])) _
        refine XS.iushr Xb.here hx rfl (hb hby at_79) rfl ?_
        exact kt
      obtain ⟨_, _, ⟨T17, L17, k17, n17⟩, -, X17, ⟨Lc17, hQ17, l17, y17, z17⟩, st17⟩ := Jvm.LawKit.callS Xb hx (y := (⟨"com/example/fence_finder/fencefinder/io/TextStartsWithPinLaw", "pick", "(I)C"⟩ : MethodName)) hown (mvT hZ (hw _ (List.mem_of_getElem? (i := 5) rfl))) (mvT hZ (hw _ (List.mem_of_getElem? (i := 6) rfl))) (mvT hZ (hw _ (List.mem_of_getElem? (i := 7) rfl))) (mvT hZ (hw _ (List.mem_of_getElem? (i := 8) rfl))) (by decide) (backOf (W := 2) (rm2 l Z a0 hw [] ((p1.toUInt32 >>> ((6 : Int32) &&& 31).toUInt32).toInt32) hB n0 Zb) hZ (hw _ (List.mem_of_getElem? (i := 8) rfl)) (hw _ (List.mem_of_getElem? (i := 7) rfl)) (by decide) (by decide)) (g := (mkF m 80 #[.val (.int p1), .val (.int p2), .val (.int p3), .val (.int (Int32.ofNat tn)), .val (.int (Int32.ofNat wn)), .val (.int (Int32.ofNat an)), .val (.ref b1), .unset, .unset] [(.int ((p1.toUInt32 >>> ((6 : Int32) &&& 31).toUInt32).toInt32)), (.int (3 : Int32)), (.ref b1)])) rfl (by rw [hml]; rfl) (argsL := [(.int ((p1.toUInt32 >>> ((6 : Int32) &&& 31).toUInt32).toInt32))]) (rest := [(.int (3 : Int32)), (.ref b1)]) (lenOf pd_1 rfl) rfl (by show 2 * 0 + _ ≤ _; exact Nat.le_of_eq rfl) (hb hby at_80) (fun _ _ => ⟨rfl, eb, (by decide : 1 + 0 ≤ _), (by decide : 4 + 0 ≤ _)⟩)
      dsimp only [Pt.U, Pt.locs, Pt.cells, Pt.slots] at X17 l17 y17 z17 st17 hQ17
      subst l17 y17 z17
      obtain ⟨rfl, N17q, e17⟩ := hQ17
      have N17 := Fr.app Nb N17q
      refine Ends.of st17 ?_
      obtain ⟨cc, Ac, Sc, Hc⟩ := C
      obtain ⟨T18, h18, X18, e18, W18, st18⟩ := stC X17 hx hZ e17 Ac (j := (3 : Int32)) (own_hin (i := 3) Sc rfl hj (by omega)) (g := (mkF m 83 #[.val (.int p1), .val (.int p2), .val (.int p3), .val (.int (Int32.ofNat tn)), .val (.int (Int32.ofNat wn)), .val (.int (Int32.ofNat an)), .val (.ref b1), .unset, .unset] [(.int (own_pick ((p1.toUInt32 >>> ((6 : Int32) &&& 31).toUInt32).toInt32))), (.int (3 : Int32)), (.ref b1)])) rfl rfl (hb hby at_83)
      refine Ends.of st18 ?_
      have N18 := Fr.snoc X18 N17 gb1
      rw [own_pickn] at W18
      have Cn := Chr.set (j := 3) Ac Sc Hc rfl W18 rfl
      have Zn : n0 ≤ h18.size := by rw [W18.size]; exact Zb
      exact blk84 _ _ _ X18 e18 N18 Zn Cn
    · refine Ends.of (F' := Tb.setTop (mkF m 84 #[.val (.int p1), .val (.int p2), .val (.int p3), .val (.int (Int32.ofNat tn)), .val (.int (Int32.ofNat wn)), .val (.int (Int32.ofNat an)), .val (.ref b1), .unset, .unset] [])) (fun _ kt => ?_) ?_
      · show Steps p.tables e below (Tb.setTop (mkF m 70 #[.val (.int p1), .val (.int p2), .val (.int p3), .val (.int (Int32.ofNat tn)), .val (.int (Int32.ofNat wn)), .val (.int (Int32.ofNat an)), .val (.ref b1), .unset, .unset] [(.int (3 : Int32)), (.int (Int32.ofNat tn))])) _
        refine XS.icmpYes Xb.here hx rfl (pc0 := 70) (pc' := 84) rfl (hb hby at_70) rfl (flt (mt (own_ltN 3 tn (by omega) (by omega)).mp hj)).2.2.2 (by decide) (by decide) ?_
        exact kt
      exact blk84 _ _ _ Xb eb Nb Zb (C.mono (fun i h1 h2 => by omega))
  have blk53 : ∀ (Tb : State) (lb : List Loc) (hB : Heap), Stand p l e room_1 s m #[(.int p1), (.int p2), (.int p3)] below meth c Tb lb 1 4 → Tb.heap = hB → Fr n0 lb → n0 ≤ hB.size → Chr Z hB b1 tn 2 (own_tx p1) → Ends p e below s room_1 (Q0 Z p1 p2 p3 h0 n0) (Tb.setTop (mkF m 53 #[.val (.int p1), .val (.int p2), .val (.int p3), .val (.int (Int32.ofNat tn)), .val (.int (Int32.ofNat wn)), .val (.int (Int32.ofNat an)), .val (.ref b1), .unset, .unset] [])) := by
    intro Tb lb hB Xb eb Nb Zb C
    refine Ends.of (F' := Tb.setTop (mkF m 55 #[.val (.int p1), .val (.int p2), .val (.int p3), .val (.int (Int32.ofNat tn)), .val (.int (Int32.ofNat wn)), .val (.int (Int32.ofNat an)), .val (.ref b1), .unset, .unset] [(.int (2 : Int32)), (.int (Int32.ofNat tn))])) (fun _ kt => ?_) ?_
    · show Steps p.tables e below (Tb.setTop (mkF m 53 #[.val (.int p1), .val (.int p2), .val (.int p3), .val (.int (Int32.ofNat tn)), .val (.int (Int32.ofNat wn)), .val (.int (Int32.ofNat an)), .val (.ref b1), .unset, .unset] [])) _
      refine XS.iloadN Xb.here hx rfl (hb hby at_53) rfl ?_
      show Steps p.tables e below (Tb.setTop (mkF m 54 #[.val (.int p1), .val (.int p2), .val (.int p3), .val (.int (Int32.ofNat tn)), .val (.int (Int32.ofNat wn)), .val (.int (Int32.ofNat an)), .val (.ref b1), .unset, .unset] [(.int (Int32.ofNat tn))])) _
      refine XS.iconst Xb.here hx rfl (hb hby at_54) ?_
      exact kt
    by_cases hj : 2 < tn
    · refine Ends.of (F' := Tb.setTop (mkF m 64 #[.val (.int p1), .val (.int p2), .val (.int p3), .val (.int (Int32.ofNat tn)), .val (.int (Int32.ofNat wn)), .val (.int (Int32.ofNat an)), .val (.ref b1), .unset, .unset] [(.int ((p1.toUInt32 >>> ((4 : Int32) &&& 31).toUInt32).toInt32)), (.int (2 : Int32)), (.ref b1)])) (fun _ kt => ?_) ?_
      · show Steps p.tables e below (Tb.setTop (mkF m 55 #[.val (.int p1), .val (.int p2), .val (.int p3), .val (.int (Int32.ofNat tn)), .val (.int (Int32.ofNat wn)), .val (.int (Int32.ofNat an)), .val (.ref b1), .unset, .unset] [(.int (2 : Int32)), (.int (Int32.ofNat tn))])) _
        refine XS.icmpNo Xb.here hx rfl (hb hby at_55) rfl (tlt ((own_ltN 2 tn (by omega) (by omega)).mpr hj)).2.2.2 ?_
        show Steps p.tables e below (Tb.setTop (mkF m 58 #[.val (.int p1), .val (.int p2), .val (.int p3), .val (.int (Int32.ofNat tn)), .val (.int (Int32.ofNat wn)), .val (.int (Int32.ofNat an)), .val (.ref b1), .unset, .unset] [])) _
        refine XS.aload Xb.here hx rfl (hb hby at_58) rfl rfl ?_
        show Steps p.tables e below (Tb.setTop (mkF m 60 #[.val (.int p1), .val (.int p2), .val (.int p3), .val (.int (Int32.ofNat tn)), .val (.int (Int32.ofNat wn)), .val (.int (Int32.ofNat an)), .val (.ref b1), .unset, .unset] [(.ref b1)])) _
        refine XS.iconst Xb.here hx rfl (hb hby at_60) ?_
        show Steps p.tables e below (Tb.setTop (mkF m 61 #[.val (.int p1), .val (.int p2), .val (.int p3), .val (.int (Int32.ofNat tn)), .val (.int (Int32.ofNat wn)), .val (.int (Int32.ofNat an)), .val (.ref b1), .unset, .unset] [(.int (2 : Int32)), (.ref b1)])) _
        refine XS.iloadN Xb.here hx rfl (hb hby at_61) rfl ?_
        show Steps p.tables e below (Tb.setTop (mkF m 62 #[.val (.int p1), .val (.int p2), .val (.int p3), .val (.int (Int32.ofNat tn)), .val (.int (Int32.ofNat wn)), .val (.int (Int32.ofNat an)), .val (.ref b1), .unset, .unset] [(.int p1), (.int (2 : Int32)), (.ref b1)])) _
        refine XS.iconst Xb.here hx rfl (hb hby at_62) ?_
        show Steps p.tables e below (Tb.setTop (mkF m 63 #[.val (.int p1), .val (.int p2), .val (.int p3), .val (.int (Int32.ofNat tn)), .val (.int (Int32.ofNat wn)), .val (.int (Int32.ofNat an)), .val (.ref b1), .unset, .unset] [(.int (4 : Int32)), (.int p1), (.int (2 : Int32)), (.ref b1)])) _
        refine XS.iushr Xb.here hx rfl (hb hby at_63) rfl ?_
        exact kt
      obtain ⟨_, _, ⟨T19, L19, k19, n19⟩, -, X19, ⟨Lc19, hQ19, l19, y19, z19⟩, st19⟩ := Jvm.LawKit.callS Xb hx (y := (⟨"com/example/fence_finder/fencefinder/io/TextStartsWithPinLaw", "pick", "(I)C"⟩ : MethodName)) hown (mvT hZ (hw _ (List.mem_of_getElem? (i := 5) rfl))) (mvT hZ (hw _ (List.mem_of_getElem? (i := 6) rfl))) (mvT hZ (hw _ (List.mem_of_getElem? (i := 7) rfl))) (mvT hZ (hw _ (List.mem_of_getElem? (i := 8) rfl))) (by decide) (backOf (W := 2) (rm2 l Z a0 hw [] ((p1.toUInt32 >>> ((4 : Int32) &&& 31).toUInt32).toInt32) hB n0 Zb) hZ (hw _ (List.mem_of_getElem? (i := 8) rfl)) (hw _ (List.mem_of_getElem? (i := 7) rfl)) (by decide) (by decide)) (g := (mkF m 64 #[.val (.int p1), .val (.int p2), .val (.int p3), .val (.int (Int32.ofNat tn)), .val (.int (Int32.ofNat wn)), .val (.int (Int32.ofNat an)), .val (.ref b1), .unset, .unset] [(.int ((p1.toUInt32 >>> ((4 : Int32) &&& 31).toUInt32).toInt32)), (.int (2 : Int32)), (.ref b1)])) rfl (by rw [hml]; rfl) (argsL := [(.int ((p1.toUInt32 >>> ((4 : Int32) &&& 31).toUInt32).toInt32))]) (rest := [(.int (2 : Int32)), (.ref b1)]) (lenOf pd_1 rfl) rfl (by show 2 * 0 + _ ≤ _; exact Nat.le_of_eq rfl) (hb hby at_64) (fun _ _ => ⟨rfl, eb, (by decide : 1 + 0 ≤ _), (by decide : 4 + 0 ≤ _)⟩)
      dsimp only [Pt.U, Pt.locs, Pt.cells, Pt.slots] at X19 l19 y19 z19 st19 hQ19
      subst l19 y19 z19
      obtain ⟨rfl, N19q, e19⟩ := hQ19
      have N19 := Fr.app Nb N19q
      refine Ends.of st19 ?_
      obtain ⟨cc, Ac, Sc, Hc⟩ := C
      obtain ⟨T20, h20, X20, e20, W20, st20⟩ := stC X19 hx hZ e19 Ac (j := (2 : Int32)) (own_hin (i := 2) Sc rfl hj (by omega)) (g := (mkF m 67 #[.val (.int p1), .val (.int p2), .val (.int p3), .val (.int (Int32.ofNat tn)), .val (.int (Int32.ofNat wn)), .val (.int (Int32.ofNat an)), .val (.ref b1), .unset, .unset] [(.int (own_pick ((p1.toUInt32 >>> ((4 : Int32) &&& 31).toUInt32).toInt32))), (.int (2 : Int32)), (.ref b1)])) rfl rfl (hb hby at_67)
      refine Ends.of st20 ?_
      have N20 := Fr.snoc X20 N19 gb1
      rw [own_pickn] at W20
      have Cn := Chr.set (j := 2) Ac Sc Hc rfl W20 rfl
      have Zn : n0 ≤ h20.size := by rw [W20.size]; exact Zb
      exact blk68 _ _ _ X20 e20 N20 Zn Cn
    · refine Ends.of (F' := Tb.setTop (mkF m 68 #[.val (.int p1), .val (.int p2), .val (.int p3), .val (.int (Int32.ofNat tn)), .val (.int (Int32.ofNat wn)), .val (.int (Int32.ofNat an)), .val (.ref b1), .unset, .unset] [])) (fun _ kt => ?_) ?_
      · show Steps p.tables e below (Tb.setTop (mkF m 55 #[.val (.int p1), .val (.int p2), .val (.int p3), .val (.int (Int32.ofNat tn)), .val (.int (Int32.ofNat wn)), .val (.int (Int32.ofNat an)), .val (.ref b1), .unset, .unset] [(.int (2 : Int32)), (.int (Int32.ofNat tn))])) _
        refine XS.icmpYes Xb.here hx rfl (pc0 := 55) (pc' := 68) rfl (hb hby at_55) rfl (flt (mt (own_ltN 2 tn (by omega) (by omega)).mp hj)).2.2.2 (by decide) (by decide) ?_
        exact kt
      exact blk68 _ _ _ Xb eb Nb Zb (C.mono (fun i h1 h2 => by omega))
  have blk38 : ∀ (Tb : State) (lb : List Loc) (hB : Heap), Stand p l e room_1 s m #[(.int p1), (.int p2), (.int p3)] below meth c Tb lb 1 4 → Tb.heap = hB → Fr n0 lb → n0 ≤ hB.size → Chr Z hB b1 tn 1 (own_tx p1) → Ends p e below s room_1 (Q0 Z p1 p2 p3 h0 n0) (Tb.setTop (mkF m 38 #[.val (.int p1), .val (.int p2), .val (.int p3), .val (.int (Int32.ofNat tn)), .val (.int (Int32.ofNat wn)), .val (.int (Int32.ofNat an)), .val (.ref b1), .unset, .unset] [])) := by
    intro Tb lb hB Xb eb Nb Zb C
    refine Ends.of (F' := Tb.setTop (mkF m 40 #[.val (.int p1), .val (.int p2), .val (.int p3), .val (.int (Int32.ofNat tn)), .val (.int (Int32.ofNat wn)), .val (.int (Int32.ofNat an)), .val (.ref b1), .unset, .unset] [(.int (1 : Int32)), (.int (Int32.ofNat tn))])) (fun _ kt => ?_) ?_
    · show Steps p.tables e below (Tb.setTop (mkF m 38 #[.val (.int p1), .val (.int p2), .val (.int p3), .val (.int (Int32.ofNat tn)), .val (.int (Int32.ofNat wn)), .val (.int (Int32.ofNat an)), .val (.ref b1), .unset, .unset] [])) _
      refine XS.iloadN Xb.here hx rfl (hb hby at_38) rfl ?_
      show Steps p.tables e below (Tb.setTop (mkF m 39 #[.val (.int p1), .val (.int p2), .val (.int p3), .val (.int (Int32.ofNat tn)), .val (.int (Int32.ofNat wn)), .val (.int (Int32.ofNat an)), .val (.ref b1), .unset, .unset] [(.int (Int32.ofNat tn))])) _
      refine XS.iconst Xb.here hx rfl (hb hby at_39) ?_
      exact kt
    by_cases hj : 1 < tn
    · refine Ends.of (F' := Tb.setTop (mkF m 49 #[.val (.int p1), .val (.int p2), .val (.int p3), .val (.int (Int32.ofNat tn)), .val (.int (Int32.ofNat wn)), .val (.int (Int32.ofNat an)), .val (.ref b1), .unset, .unset] [(.int ((p1.toUInt32 >>> ((2 : Int32) &&& 31).toUInt32).toInt32)), (.int (1 : Int32)), (.ref b1)])) (fun _ kt => ?_) ?_
      · show Steps p.tables e below (Tb.setTop (mkF m 40 #[.val (.int p1), .val (.int p2), .val (.int p3), .val (.int (Int32.ofNat tn)), .val (.int (Int32.ofNat wn)), .val (.int (Int32.ofNat an)), .val (.ref b1), .unset, .unset] [(.int (1 : Int32)), (.int (Int32.ofNat tn))])) _
        refine XS.icmpNo Xb.here hx rfl (hb hby at_40) rfl (tlt ((own_ltN 1 tn (by omega) (by omega)).mpr hj)).2.2.2 ?_
        show Steps p.tables e below (Tb.setTop (mkF m 43 #[.val (.int p1), .val (.int p2), .val (.int p3), .val (.int (Int32.ofNat tn)), .val (.int (Int32.ofNat wn)), .val (.int (Int32.ofNat an)), .val (.ref b1), .unset, .unset] [])) _
        refine XS.aload Xb.here hx rfl (hb hby at_43) rfl rfl ?_
        show Steps p.tables e below (Tb.setTop (mkF m 45 #[.val (.int p1), .val (.int p2), .val (.int p3), .val (.int (Int32.ofNat tn)), .val (.int (Int32.ofNat wn)), .val (.int (Int32.ofNat an)), .val (.ref b1), .unset, .unset] [(.ref b1)])) _
        refine XS.iconst Xb.here hx rfl (hb hby at_45) ?_
        show Steps p.tables e below (Tb.setTop (mkF m 46 #[.val (.int p1), .val (.int p2), .val (.int p3), .val (.int (Int32.ofNat tn)), .val (.int (Int32.ofNat wn)), .val (.int (Int32.ofNat an)), .val (.ref b1), .unset, .unset] [(.int (1 : Int32)), (.ref b1)])) _
        refine XS.iloadN Xb.here hx rfl (hb hby at_46) rfl ?_
        show Steps p.tables e below (Tb.setTop (mkF m 47 #[.val (.int p1), .val (.int p2), .val (.int p3), .val (.int (Int32.ofNat tn)), .val (.int (Int32.ofNat wn)), .val (.int (Int32.ofNat an)), .val (.ref b1), .unset, .unset] [(.int p1), (.int (1 : Int32)), (.ref b1)])) _
        refine XS.iconst Xb.here hx rfl (hb hby at_47) ?_
        show Steps p.tables e below (Tb.setTop (mkF m 48 #[.val (.int p1), .val (.int p2), .val (.int p3), .val (.int (Int32.ofNat tn)), .val (.int (Int32.ofNat wn)), .val (.int (Int32.ofNat an)), .val (.ref b1), .unset, .unset] [(.int (2 : Int32)), (.int p1), (.int (1 : Int32)), (.ref b1)])) _
        refine XS.iushr Xb.here hx rfl (hb hby at_48) rfl ?_
        exact kt
      obtain ⟨_, _, ⟨T21, L21, k21, n21⟩, -, X21, ⟨Lc21, hQ21, l21, y21, z21⟩, st21⟩ := Jvm.LawKit.callS Xb hx (y := (⟨"com/example/fence_finder/fencefinder/io/TextStartsWithPinLaw", "pick", "(I)C"⟩ : MethodName)) hown (mvT hZ (hw _ (List.mem_of_getElem? (i := 5) rfl))) (mvT hZ (hw _ (List.mem_of_getElem? (i := 6) rfl))) (mvT hZ (hw _ (List.mem_of_getElem? (i := 7) rfl))) (mvT hZ (hw _ (List.mem_of_getElem? (i := 8) rfl))) (by decide) (backOf (W := 2) (rm2 l Z a0 hw [] ((p1.toUInt32 >>> ((2 : Int32) &&& 31).toUInt32).toInt32) hB n0 Zb) hZ (hw _ (List.mem_of_getElem? (i := 8) rfl)) (hw _ (List.mem_of_getElem? (i := 7) rfl)) (by decide) (by decide)) (g := (mkF m 49 #[.val (.int p1), .val (.int p2), .val (.int p3), .val (.int (Int32.ofNat tn)), .val (.int (Int32.ofNat wn)), .val (.int (Int32.ofNat an)), .val (.ref b1), .unset, .unset] [(.int ((p1.toUInt32 >>> ((2 : Int32) &&& 31).toUInt32).toInt32)), (.int (1 : Int32)), (.ref b1)])) rfl (by rw [hml]; rfl) (argsL := [(.int ((p1.toUInt32 >>> ((2 : Int32) &&& 31).toUInt32).toInt32))]) (rest := [(.int (1 : Int32)), (.ref b1)]) (lenOf pd_1 rfl) rfl (by show 2 * 0 + _ ≤ _; exact Nat.le_of_eq rfl) (hb hby at_49) (fun _ _ => ⟨rfl, eb, (by decide : 1 + 0 ≤ _), (by decide : 4 + 0 ≤ _)⟩)
      dsimp only [Pt.U, Pt.locs, Pt.cells, Pt.slots] at X21 l21 y21 z21 st21 hQ21
      subst l21 y21 z21
      obtain ⟨rfl, N21q, e21⟩ := hQ21
      have N21 := Fr.app Nb N21q
      refine Ends.of st21 ?_
      obtain ⟨cc, Ac, Sc, Hc⟩ := C
      obtain ⟨T22, h22, X22, e22, W22, st22⟩ := stC X21 hx hZ e21 Ac (j := (1 : Int32)) (own_hin (i := 1) Sc rfl hj (by omega)) (g := (mkF m 52 #[.val (.int p1), .val (.int p2), .val (.int p3), .val (.int (Int32.ofNat tn)), .val (.int (Int32.ofNat wn)), .val (.int (Int32.ofNat an)), .val (.ref b1), .unset, .unset] [(.int (own_pick ((p1.toUInt32 >>> ((2 : Int32) &&& 31).toUInt32).toInt32))), (.int (1 : Int32)), (.ref b1)])) rfl rfl (hb hby at_52)
      refine Ends.of st22 ?_
      have N22 := Fr.snoc X22 N21 gb1
      rw [own_pickn] at W22
      have Cn := Chr.set (j := 1) Ac Sc Hc rfl W22 rfl
      have Zn : n0 ≤ h22.size := by rw [W22.size]; exact Zb
      exact blk53 _ _ _ X22 e22 N22 Zn Cn
    · refine Ends.of (F' := Tb.setTop (mkF m 53 #[.val (.int p1), .val (.int p2), .val (.int p3), .val (.int (Int32.ofNat tn)), .val (.int (Int32.ofNat wn)), .val (.int (Int32.ofNat an)), .val (.ref b1), .unset, .unset] [])) (fun _ kt => ?_) ?_
      · show Steps p.tables e below (Tb.setTop (mkF m 40 #[.val (.int p1), .val (.int p2), .val (.int p3), .val (.int (Int32.ofNat tn)), .val (.int (Int32.ofNat wn)), .val (.int (Int32.ofNat an)), .val (.ref b1), .unset, .unset] [(.int (1 : Int32)), (.int (Int32.ofNat tn))])) _
        refine XS.icmpYes Xb.here hx rfl (pc0 := 40) (pc' := 53) rfl (hb hby at_40) rfl (flt (mt (own_ltN 1 tn (by omega) (by omega)).mp hj)).2.2.2 (by decide) (by decide) ?_
        exact kt
      exact blk53 _ _ _ Xb eb Nb Zb (C.mono (fun i h1 h2 => by omega))
  have Zb := Z1
  refine Ends.of (F' := T1.setTop (mkF m 27 #[.val (.int p1), .val (.int p2), .val (.int p3), .val (.int (Int32.ofNat tn)), .val (.int (Int32.ofNat wn)), .val (.int (Int32.ofNat an)), .val (.ref b1), .unset, .unset] [(.int (Int32.ofNat tn))])) (fun _ kt => ?_) ?_
  · show Steps p.tables e below (T1.setTop (mkF m 26 #[.val (.int p1), .val (.int p2), .val (.int p3), .val (.int (Int32.ofNat tn)), .val (.int (Int32.ofNat wn)), .val (.int (Int32.ofNat an)), .val (.ref b1), .unset, .unset] [])) _
    refine XS.iloadN X1.here hx rfl (hb hby at_26) rfl ?_
    exact kt
  by_cases hj : 0 < tn
  · refine Ends.of (F' := T1.setTop (mkF m 34 #[.val (.int p1), .val (.int p2), .val (.int p3), .val (.int (Int32.ofNat tn)), .val (.int (Int32.ofNat wn)), .val (.int (Int32.ofNat an)), .val (.ref b1), .unset, .unset] [(.int p1), (.int (0 : Int32)), (.ref b1)])) (fun _ kt => ?_) ?_
    · show Steps p.tables e below (T1.setTop (mkF m 27 #[.val (.int p1), .val (.int p2), .val (.int p3), .val (.int (Int32.ofNat tn)), .val (.int (Int32.ofNat wn)), .val (.int (Int32.ofNat an)), .val (.ref b1), .unset, .unset] [(.int (Int32.ofNat tn))])) _
      refine XS.ifNo X1.here hx rfl (hb hby at_27) rfl ((if0 _ _).trans (tlt ((own_ltN 0 tn (by omega) (by omega)).mpr hj)).2.2.2) ?_
      show Steps p.tables e below (T1.setTop (mkF m 30 #[.val (.int p1), .val (.int p2), .val (.int p3), .val (.int (Int32.ofNat tn)), .val (.int (Int32.ofNat wn)), .val (.int (Int32.ofNat an)), .val (.ref b1), .unset, .unset] [])) _
      refine XS.aload X1.here hx rfl (hb hby at_30) rfl rfl ?_
      show Steps p.tables e below (T1.setTop (mkF m 32 #[.val (.int p1), .val (.int p2), .val (.int p3), .val (.int (Int32.ofNat tn)), .val (.int (Int32.ofNat wn)), .val (.int (Int32.ofNat an)), .val (.ref b1), .unset, .unset] [(.ref b1)])) _
      refine XS.iconst X1.here hx rfl (hb hby at_32) ?_
      show Steps p.tables e below (T1.setTop (mkF m 33 #[.val (.int p1), .val (.int p2), .val (.int p3), .val (.int (Int32.ofNat tn)), .val (.int (Int32.ofNat wn)), .val (.int (Int32.ofNat an)), .val (.ref b1), .unset, .unset] [(.int (0 : Int32)), (.ref b1)])) _
      refine XS.iloadN X1.here hx rfl (hb hby at_33) rfl ?_
      exact kt
    obtain ⟨_, _, ⟨T23, L23, k23, n23⟩, -, X23, ⟨Lc23, hQ23, l23, y23, z23⟩, st23⟩ := Jvm.LawKit.callS X1 hx (y := (⟨"com/example/fence_finder/fencefinder/io/TextStartsWithPinLaw", "pick", "(I)C"⟩ : MethodName)) hown (mvT hZ (hw _ (List.mem_of_getElem? (i := 5) rfl))) (mvT hZ (hw _ (List.mem_of_getElem? (i := 6) rfl))) (mvT hZ (hw _ (List.mem_of_getElem? (i := 7) rfl))) (mvT hZ (hw _ (List.mem_of_getElem? (i := 8) rfl))) (by decide) (backOf (W := 2) (rm2 l Z a0 hw [] p1 h1 n0 Zb) hZ (hw _ (List.mem_of_getElem? (i := 8) rfl)) (hw _ (List.mem_of_getElem? (i := 7) rfl)) (by decide) (by decide)) (g := (mkF m 34 #[.val (.int p1), .val (.int p2), .val (.int p3), .val (.int (Int32.ofNat tn)), .val (.int (Int32.ofNat wn)), .val (.int (Int32.ofNat an)), .val (.ref b1), .unset, .unset] [(.int p1), (.int (0 : Int32)), (.ref b1)])) rfl (by rw [hml]; rfl) (argsL := [(.int p1)]) (rest := [(.int (0 : Int32)), (.ref b1)]) (lenOf pd_1 rfl) rfl (by show 2 * 0 + _ ≤ _; exact Nat.le_of_eq rfl) (hb hby at_34) (fun _ _ => ⟨rfl, e1, (by decide : 1 + 0 ≤ _), (by decide : 4 + 0 ≤ _)⟩)
    dsimp only [Pt.U, Pt.locs, Pt.cells, Pt.slots] at X23 l23 y23 z23 st23 hQ23
    subst l23 y23 z23
    obtain ⟨rfl, N23q, e23⟩ := hQ23
    have N23 := Fr.app N0 N23q
    refine Ends.of st23 ?_
    obtain ⟨cc, Ac, Sc, Hc⟩ := C0
    obtain ⟨T24, h24, X24, e24, W24, st24⟩ := stC X23 hx hZ e23 Ac (j := (0 : Int32)) (own_hin (i := 0) Sc rfl hj (by omega)) (g := (mkF m 37 #[.val (.int p1), .val (.int p2), .val (.int p3), .val (.int (Int32.ofNat tn)), .val (.int (Int32.ofNat wn)), .val (.int (Int32.ofNat an)), .val (.ref b1), .unset, .unset] [(.int (own_pick p1)), (.int (0 : Int32)), (.ref b1)])) rfl rfl (hb hby at_37)
    refine Ends.of st24 ?_
    have N24 := Fr.snoc X24 N23 gb1
    rw [own_pickn] at W24
    have Cn := Chr.set (j := 0) Ac Sc Hc rfl W24 rfl
    have Zn : n0 ≤ h24.size := by rw [W24.size]; exact Zb
    exact blk38 _ _ _ X24 e24 N24 Zn Cn
  · refine Ends.of (F' := T1.setTop (mkF m 38 #[.val (.int p1), .val (.int p2), .val (.int p3), .val (.int (Int32.ofNat tn)), .val (.int (Int32.ofNat wn)), .val (.int (Int32.ofNat an)), .val (.ref b1), .unset, .unset] [])) (fun _ kt => ?_) ?_
    · show Steps p.tables e below (T1.setTop (mkF m 27 #[.val (.int p1), .val (.int p2), .val (.int p3), .val (.int (Int32.ofNat tn)), .val (.int (Int32.ofNat wn)), .val (.int (Int32.ofNat an)), .val (.ref b1), .unset, .unset] [(.int (Int32.ofNat tn))])) _
      refine XS.ifYes X1.here hx rfl (pc0 := 27) (pc' := 38) rfl (hb hby at_27) rfl ((if0 _ _).trans (flt (mt (own_ltN 0 tn (by omega) (by omega)).mp hj)).2.2.2) (by decide) (by decide) ?_
      exact kt
    exact blk38 _ _ _ X1 e1 N0 Zb (C0.mono (fun i h1 h2 => by omega))
set_option maxRecDepth 65536 in
set_option maxHeartbeats 40000000 in
theorem comes_1 {Post : Tables → Env → Array Value → State → Outcome → State → Prop} (hpost : ∀ tb e args s v u, (limb_1_1.after args s (.returned v) u = true ∧ limb_1_2.after args s (.returned v) u = true ∧ True) → FrameEnd s (.returned v) u (Jvm.fieldLocs frame_1_writes args s ++ Jvm.arrayLocs frame_1_arrays args s ++ Jvm.staticLocs frame_1_statics s) 16 128 → Post tb e args s (.returned v) u) :
    ArmFor flags0 classFile x code maxLocals ret World_1 tables_1 room_1 Calls_1 rest_1 Pre_1 Post := by
  intro l hfl _ _ p e ha hc hk s m args below hf hA hF happ hP
  obtain ⟨hcalls, hrest, hpre⟩ := hP
  obtain ⟨-, -, -, hnamed, -, -, -, hat⟩ := (Spec.applies_iff hf).mp happ
  obtain ⟨hg, hn⟩ := and_e (Cond.before_iff.mp (show (Jvm.Cond.and given_1 narrow_1).before args s = true from hpre))
  obtain ⟨g0, gt0⟩ := and_e hg
  obtain ⟨gv0, gt1⟩ := and_e gt0
  obtain ⟨gv1, gt2⟩ := and_e gt1
  obtain ⟨w0, w1, w2, rfl⟩ : ∃ w0 w1 w2 : Value, args = #[w0, w1, w2] := by
    have hs : args.size = 3 := by simpa [Cond.value, given_1] using g0
    obtain ⟨L⟩ := args
    match L, hs with
    | [w0, w1, w2], _ => exact ⟨w0, w1, w2, rfl⟩
  have hw := fun d (hd : d ∈ tables_1) => atoms_spec (ws := Jvm.Cond.code x code maxLocals ret :: tables_1) hat d (List.mem_cons_of_mem _ hd)
  have hfit : Fit s := fun {y c} hc i hi => by
    obtain ⟨ha, rfl⟩ := Array.getElem?_eq_some_iff.mp hc
    have q := List.all_eq_true.mp ((Array.all_eq_true_iff_forall_mem.mp hF) _ (Array.getElem_mem ha)) i (List.mem_range.mpr hi)
    simpa [Array.getElem?_eq_getElem hi] using q
  obtain ⟨i0, ei0⟩ := is_v gv0
  obtain rfl : w0 = (.int i0) := Option.some.inj ei0
  obtain ⟨i1, ei1⟩ := is_v gv1
  obtain rfl : w1 = (.int i1) := Option.some.inj ei1
  obtain ⟨i2, ei2⟩ := is_v gt2
  obtain rfl : w2 = (.int i2) := Option.some.inj ei2
  obtain ⟨n, o, h1, h2, h3, _, L, rfl, ⟨rfl, N⟩, hq⟩ := rm0 l s _ hw tables_1 i0 i1 i2  s.heap s.heap.size (Nat.le_refl _)  p e ha hc hk s m _ below hf ((Spec.applies_iff_loose hf).mp happ).1 ⟨rfl, State.Warmed39.refl s, rfl⟩ trivial
  refine ⟨n, _, h1, h2, h3, hpost _ _ _ _ _ _ ⟨Cond.after_iff.mpr rfl, Cond.after_iff.mpr (eq_i res_at (Term.int_eval (1)) rfl), trivial⟩ ⟨hq.1, hq.2.1, (hq.2.2.sift fun y hy => Or.inr (N y hy)).mono (by decide) (by decide)⟩⟩
theorem main_1_1 : Claimed_1_1 := comes_1 fun _ _ _ _ _ _ h hF => ⟨h.1, hF⟩
theorem main_1_2 : Claimed_1_2 := comes_1 fun _ _ _ _ _ _ h hF => ⟨h.2.1, hF⟩
end Jvm.Pilot.@@N@@
namespace Jvm.Pilot.@@N@@
open Jvm Jvm.ClassFile Sem Op Lib Jvm.Free Jvm.Stand Jvm.Pilot.@@N@@.Jvm.D
/-! MADE BY PROGRAM (witnessworld.py) out of the Statement's table words and the real class files: 9 classes; the members and pool entries that the words name. The judged class is class 1, her method 1. -/
namespace start1
open Jvm.ClassFile
def u (s : String) : CpInfo := .utf8 (stringToUtf16 s)
/-- a pool by its gaps: so many unusable entries, then the entry; so many at the end -/
def gap : Nat → List CpInfo → List CpInfo
  | 0, r => r
  | n + 1, r => .unusable :: gap n r
def poolList (es : List (Nat × CpInfo)) (last : Nat) : List CpInfo := es.foldr (fun e r => gap e.1 (e.2 :: r)) (gap last [])
def pool (es : List (Nat × CpInfo)) (last : Nat) : Array CpInfo := ⟨poolList es last⟩
def fileOf (pool : Array CpInfo) (this : Nat) (attrs : Array Attribute := #[]) (ms : Array MethodInfo := #[]) (fl : Nat := 33) (sup : Nat := 0) (ifs : Array Nat := #[]) (fds : Array FieldInfo := #[]) : ClassFile where
  minorVersion := 0
  majorVersion := 65
  constantPool := pool
  accessFlags := fl
  thisClass := this
  superClass := sup
  interfaces := ifs
  fields := fds
  methods := ms
  attributes := attrs
def plain (name : String) (sup : Option ClassId) : Class where
  name := name
  kind := .ordinary
  loader := none
  accessFlags := 33
  super := sup
  interfaces := #[]
  cf := none
  fields := #[]
  methods := #[]
  instanceTypes := #[]
  staticTypes := #[]
  resolved := #[]
  callSites := []
  init := .initialized
  statics := none
  mirror := none

def pool0 : Array CpInfo := pool [(5, u "<init>"), (0, u "()V"), (1, .class_ 10), (1, u "java/lang/Object")] 113

def k0m0 : Method := { name := "<init>", desc := "()V", sig := { parameters := [], returnType := none }, accessFlags := 1, code := none }
/-- java/lang/Object -/
def k0 : Class := { plain "java/lang/Object" none with
  accessFlags := 33
  interfaces := #[]
  cf := some (fileOf pool0 8 #[] #[{ accessFlags := 1, nameIndex := 5, descriptorIndex := 6, attributes := #[] }] 33 0 #[] #[])
  fields := #[]
  methods := #[k0m0]
  instanceTypes := #[]
  staticTypes := #[]
  resolved := Array.replicate 124 none
  statics := none }

def pool1 : Array CpInfo := pool [(2, .class_ 4), (1, u "java/lang/Object"), (0, u "<init>"), (0, u "()V"), (0, .methodref 8 9), (0, .class_ 10), (0, .nameAndType 11 12), (0, u "com/example/fence_finder/fencefinder/io/TextStartsWithPinLaw"), (0, u "pick"), (0, u "(I)C"), (0, .methodref 14 15), (0, .class_ 16), (0, .nameAndType 17 18), (0, u "com/example/fence_finder/fencefinder/io/Text"), (0, u "startsWith"), (0, u "([CI[C)Z"), (2, u "law"), (0, u "(III)Z")] 5

def k1m0 : Method := { name := "<init>", desc := "()V", sig := { parameters := [], returnType := none }, accessFlags := 2, code := none }
def k1c1 : Code := { maxStack := 4, maxLocals := 9, code := code, exceptionTable := #[], attributes := #[] }
def k1m1 : Method := { name := "law", desc := "(III)Z", sig := { parameters := [.int, .int, .int], returnType := some .boolean }, accessFlags := 9, code := some k1c1 }
def k1c2 : Code := { maxStack := 2, maxLocals := 2, code := method_3_code, exceptionTable := #[], attributes := #[] }
def k1m2 : Method := { name := "pick", desc := "(I)C", sig := { parameters := [.int], returnType := some .char }, accessFlags := 10, code := some k1c2 }
/-- com/example/fence_finder/fencefinder/io/TextStartsWithPinLaw -/
def k1 : Class := { plain "com/example/fence_finder/fencefinder/io/TextStartsWithPinLaw" (some 0) with
  accessFlags := 49
  interfaces := #[]
  cf := some (fileOf pool1 8 #[] #[{ accessFlags := 2, nameIndex := 5, descriptorIndex := 6, attributes := #[] }, { accessFlags := 9, nameIndex := 21, descriptorIndex := 22, attributes := #[] }, { accessFlags := 10, nameIndex := 11, descriptorIndex := 12, attributes := #[] }] 49 2 #[] #[])
  fields := #[]
  methods := #[k1m0, k1m1, k1m2]
  instanceTypes := #[]
  staticTypes := #[]
  resolved := Array.replicate 28 none
  statics := none }

def pool2 : Array CpInfo := pool [(2, .class_ 4), (1, u "java/lang/Object"), (0, u "<init>"), (0, u "()V"), (85, .class_ 94), (1, u "com/example/fence_finder/fencefinder/io/Text"), (48, u "startsWith"), (41, u "([CI[C)Z")] 6

def k2m0 : Method := { name := "<init>", desc := "()V", sig := { parameters := [], returnType := none }, accessFlags := 2, code := none }
def k2c1 : Code := { maxStack := 3, maxLocals := 5, code := prog_15_method_10_code, exceptionTable := #[], attributes := #[] }
def k2m1 : Method := { name := "startsWith", desc := "([CI[C)Z", sig := { parameters := [(.array .char), .int, (.array .char)], returnType := some .boolean }, accessFlags := 8, code := some k2c1 }
/-- com/example/fence_finder/fencefinder/io/Text -/
def k2 : Class := { plain "com/example/fence_finder/fencefinder/io/Text" (some 0) with
  accessFlags := 32
  interfaces := #[]
  cf := some (fileOf pool2 92 #[] #[{ accessFlags := 2, nameIndex := 5, descriptorIndex := 6, attributes := #[] }, { accessFlags := 8, nameIndex := 143, descriptorIndex := 185, attributes := #[] }] 32 2 #[] #[])
  fields := #[]
  methods := #[k2m0, k2m1]
  instanceTypes := #[]
  staticTypes := #[]
  resolved := Array.replicate 192 none
  statics := none }

def pool3 : Array CpInfo := pool [(1, u "java/lang/Cloneable"), (0, .class_ 1), (0, u "java/lang/Object"), (0, .class_ 3)] 3

/-- java/lang/Cloneable -/
def k3 : Class := { plain "java/lang/Cloneable" (some 0) with
  accessFlags := 1537
  interfaces := #[]
  cf := some (fileOf pool3 2 #[] #[] 1537 4 #[] #[])
  fields := #[]
  methods := #[]
  instanceTypes := #[]
  staticTypes := #[]
  resolved := Array.replicate 8 none
  statics := none }

def pool4 : Array CpInfo := pool [(1, u "java/io/Serializable"), (0, .class_ 1), (0, u "java/lang/Object"), (0, .class_ 3)] 3

/-- java/io/Serializable -/
def k4 : Class := { plain "java/io/Serializable" (some 0) with
  accessFlags := 1537
  interfaces := #[]
  cf := some (fileOf pool4 2 #[] #[] 1537 4 #[] #[])
  fields := #[]
  methods := #[]
  instanceTypes := #[]
  staticTypes := #[]
  resolved := Array.replicate 8 none
  statics := none }

/-- the primitive byte -/
def k5 : Class := { plain "byte" none with kind := .primitive 'B', accessFlags := 0x411 }
/-- [B -/
def k6 : Class := { plain "[B" (some 0) with kind := .array 5 .byte, interfaces := #[3, 4], accessFlags := 1041 }

/-- the primitive char -/
def k7 : Class := { plain "char" none with kind := .primitive 'C', accessFlags := 0x411 }
/-- [C -/
def k8 : Class := { plain "[C" (some 0) with kind := .array 7 .char, interfaces := #[3, 4], accessFlags := 1041 }

def heap : Heap := #[]
def classes : Array Class := #[k0, k1, k2, k3, k4, k5, k6, k7, k8]
def interned : List (Array UInt16 × Addr) := []
def slotsUsed : Nat := 0
def theMethod : MethodId := ⟨1, 1⟩
def args0 : Array Value := #[.int 513, .int 65, .int 0]
def aboutOver (below : List Frame) : State where
  vm := { classes := classes, interned := interned.toArray }
  heap := heap
  slotsUsed := slotsUsed
  threads := #[{ frames := .invoking theMethod args0 :: below }]
def below0 : List Frame := [.native { method := ⟨0, 0⟩, args := #[] }]
def about1 : State := aboutOver below0
def p0 : Program := .bare "" "" ""
def e0 : Env := launch0.env 0 0 0
theorem w_frames : about1.frames = Frame.invoking theMethod args0 :: below0 := rfl
set_option maxRecDepth 65536 in
theorem w_args : argsFit about1.vm theMethod args0 = true := by decide +kernel
set_option maxRecDepth 65536 in
theorem w_heap : heapFits about1 = true := by decide +kernel
set_option maxRecDepth 65536 in
theorem w_runnable : about1.curStatus? = some .runnable := by decide +kernel
set_option maxRecDepth 65536 in
theorem w_alone : about1.alone = true := by decide +kernel
set_option maxRecDepth 65536 in
theorem w_named : about1.methodNamed? x = some theMethod := by decide +kernel
set_option maxRecDepth 65536 in
theorem w_hears : about1.hears theMethod below0 = true := by decide +kernel
set_option maxRecDepth 65536 in
theorem w_ripe : about1.ripe theMethod args0 below0 = true := by decide +kernel
theorem w_running : about1.status = .running := rfl
set_option maxRecDepth 65536 in
theorem w_room : about1.hasRoom e0.platform room_1 = true :=
  launch0.hasRoom_least _ room_1 (by decide +kernel) (by decide +kernel) (by decide +kernel) (by decide +kernel) (by decide +kernel) (by decide +kernel)
theorem allAtoms_all (ts : List Jvm.Cond) (a : Array Jvm.Value) (st : Jvm.State) : (allAtoms ts).before a st = ts.all (fun c => c.before a st) := by
  induction ts with
  | nil => rfl
  | cons c t ih =>
    show (Jvm.Cond.and c (allAtoms t)).before a st = _
    rw [Jvm.Cond.before_and, ih, List.all_cons]
def words1 : List Jvm.Cond := Jvm.Cond.code x code maxLocals ret :: tables_1
/-- a 'code' word, met by the world's own term for the bytes: nothing is compared byte by byte -/
theorem code_word {y : MethodName} {bytes : ByteArray} {mx : Nat} {rt : Option FieldType} {a : Array Value} {s : State} {m : MethodId} {meth : Method} {c : Code} (h1 : s.methodNamed? y = some m) (h2 : s.vm.method? m = some meth) (h3 : meth.code = some c) (h4 : c.code = bytes)
    (h5 : (c.maxLocals == mx && c.exceptionTable.isEmpty && decide (c.maxStack ≤ mostOperands) && decide (meth.sig.returnType = rt) && !meth.locks && decide (parseMethodDescriptor y.desc = some meth.sig)) = true) : (Jvm.Cond.code y bytes mx rt).before a s = true := by
  simp only [Bool.and_eq_true, beq_iff_eq, Bool.not_eq_true', decide_eq_true_eq] at h5
  obtain ⟨⟨⟨⟨⟨g1, g2⟩, g3⟩, g4⟩, g5⟩, g6⟩ := h5
  simp [Cond.before, Cond.holds, Cond.value, h1, h2, h3, h4, g1, g2, g3, g4, g5, g6]
def isCode : Jvm.Cond → Bool
  | .code _ _ _ _ => true
  | _ => false
theorem all_split {L : List Jvm.Cond} {P : Jvm.Cond → Bool} (h1 : L.all (fun c => isCode c || P c) = true) (h2 : ∀ c ∈ L.filter isCode, P c = true) : L.all P = true := by
  refine List.all_eq_true.mpr fun c hc => ?_
  have h := List.all_eq_true.mp h1 c hc
  rcases Bool.eq_false_or_eq_true (isCode c) with hi | hi
  · exact h2 c (List.mem_filter.mpr ⟨hc, hi⟩)
  · simpa [hi] using h
set_option maxRecDepth 65536 in
theorem w_c0 : (Jvm.Cond.code x code maxLocals ret).before args0 about1 = true := code_word (m := ⟨1, 1⟩) (meth := k1m1) (c := k1c1) (by decide +kernel) rfl rfl rfl (by decide +kernel)
set_option maxRecDepth 65536 in
theorem w_c1 : (Jvm.Cond.code ({ cls := "com/example/fence_finder/fencefinder/io/Text", name := "startsWith", desc := "([CI[C)Z" } : Jvm.MethodName) prog_15_method_10_code (5 : Nat) (Option.some Jvm.ClassFile.FieldType.boolean)).before args0 about1 = true := code_word (m := ⟨2, 1⟩) (meth := k2m1) (c := k2c1) (by decide +kernel) rfl rfl rfl (by decide +kernel)
set_option maxRecDepth 65536 in
theorem w_c2 : (Jvm.Cond.code ({ cls := "com/example/fence_finder/fencefinder/io/TextStartsWithPinLaw", name := "pick", desc := "(I)C" } : Jvm.MethodName) method_3_code (2 : Nat) (Option.some Jvm.ClassFile.FieldType.char)).before args0 about1 = true := code_word (m := ⟨1, 2⟩) (meth := k1m2) (c := k1c2) (by decide +kernel) rfl rfl rfl (by decide +kernel)
def codes1 : List Jvm.Cond := [Jvm.Cond.code x code maxLocals ret, Jvm.Cond.code ({ cls := "com/example/fence_finder/fencefinder/io/Text", name := "startsWith", desc := "([CI[C)Z" } : Jvm.MethodName) prog_15_method_10_code (5 : Nat) (Option.some Jvm.ClassFile.FieldType.boolean), Jvm.Cond.code ({ cls := "com/example/fence_finder/fencefinder/io/TextStartsWithPinLaw", name := "pick", desc := "(I)C" } : Jvm.MethodName) method_3_code (2 : Nat) (Option.some Jvm.ClassFile.FieldType.char)]
set_option maxRecDepth 65536 in
theorem codes_eq : words1.filter isCode = codes1 := rfl
theorem w_codes : ∀ c ∈ words1.filter isCode, c.before args0 about1 = true := by
  rw [codes_eq]
  intro c hc
  simp only [codes1, List.mem_cons, List.not_mem_nil, or_false] at hc
  rcases hc with rfl | rfl | rfl
  · exact w_c0
  · exact w_c1
  · exact w_c2
set_option maxRecDepth 65536 in
theorem w_t1 : words1.all (fun c => isCode c || c.before args0 about1) = true := by decide +kernel
theorem w_tables : (allAtoms (Jvm.Cond.code x code maxLocals ret :: tables_1)).before args0 about1 = true := by
  rw [allAtoms_all]
  show words1.all (fun c => c.before args0 about1) = true
  refine all_split ?_ w_codes
  rw [w_t1]
set_option maxRecDepth 65536 in
theorem w_case : (Jvm.Cond.and given_1 narrow_1).before args0 about1 = true := by decide +kernel
theorem w_applies : (headSpec (Jvm.Cond.code x code maxLocals ret :: tables_1) room_1).applies x e0.platform about1 = true :=
  (Spec.applies_iff w_frames).mpr ⟨w_running, w_runnable, w_alone, w_named, w_hears, w_ripe, w_room, w_tables⟩
theorem atStart : AtStart classFile x code maxLocals ret World_1 tables_1 room_1 Calls_1 rest_1 Pre_1 launch0 p0 e0 about1 theMethod args0 below0 :=
  ⟨lists_1, trivial, launch0.admits_env _ _ _, launch0.least_env, fairChoices_fair.cas, fairChoices_fair.clock, w_frames, w_args, w_heap, w_applies, trivial, trivial, w_case⟩
end start1
theorem witness_1 : WitnessClaimed_1 := ⟨start1.p0, start1.e0, start1.about1, start1.theMethod, start1.args0, start1.below0, start1.atStart⟩
end Jvm.Pilot.@@N@@
