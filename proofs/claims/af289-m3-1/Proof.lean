import JvmDerived
import JvmDerived.Pilot.@@N@@Statement
import JvmDerived.Pilot.@@N@@Code
set_option linter.unusedVariables false
set_option linter.unusedSimpArgs false
namespace Jvm.RoadKit
open Sem ClassFile Op Lib Jvm.Stand Jvm.Free Jvm.LawKit
section New
variable {p : Program} {l : Launch} {e : Env} {R : Room} {s : State} {m : MethodId} {args : Array Value} {below : List Frame} {meth : Method} {c : Code} {T : State} {locs : List Loc} {cells slots : Nat}
theorem retI (X : Stand p l e R s m args below meth c T locs cells slots) (hx : p.tables.exec = Jvm.exec) {pc : Nat} {Ls : Array Slot} {z : Int32} {rest : List Value} (hret : meth.sig.returnType = some .int) (hd : decode c.code pc = .ok (.ireturn, 1)) {fs : List Frame}
    (hl : ∀ (f : JFrame) (acts : List Action), f.method = m → f.locked = none → f.entered = [] → (doReturn e (T.setTop f) acts (some (.int z))).1 = T.setFrames fs) : Steps p.tables e below (T.setTop (mkF m pc Ls (.int z :: rest))) (T.setFrames fs) := by
  have hm' : T.vm.method? m = some meth := X.method'
  have hn : narrow .int (.int z) = .int z := rfl
  show Steps p.tables e below (T.setTop { method := m, pc := pc, locals := Ls, stack := _ :: rest, locked := none }) _
  jvm_step X.here [X.here.top, hx, hd, hm', hret, hn]
  first | (intro acts; rw [hl _ acts rfl rfl rfl]) | rw [hl _ _ rfl rfl rfl]
  exact Steps.refl _
end New
end Jvm.RoadKit
namespace Jvm.Pilot.@@N@@
open Jvm Jvm.ClassFile Sem Op Lib Jvm.Free Jvm.Stand Jvm.LawKit Jvm.RoadKit Bundle Jvm.Pilot.@@N@@.Jvm.D
/-- from the state F the walk ends as Q says (what it returns, the heap, the places written) -/
def Ends (p : Program) (e : Env) (below : List Frame) (s : State) (R : Room) (Q : Option Value → Heap → List Loc → Prop) (F : State) : Prop :=
  ∃ t o, Steps p.tables e below F t ∧ t.status = .running ∧ Ended t below o ∧ ∃ v L, o = .returned v ∧ Q v t.heap L ∧ FrameEnd s o t L R.cells R.slots
theorem Ends.of {p : Program} {e : Env} {below : List Frame} {s : State} {R : Room} {Q : Option Value → Heap → List Loc → Prop} {F F' : State} (h : ∀ t, Steps p.tables e below F' t → Steps p.tables e below F t) (k : Ends p e below s R Q F') : Ends p e below s R Q F := by
  obtain ⟨t, o, h1, r⟩ := k
  exact ⟨t, o, h t h1, r⟩
theorem Ends.st {p : Program} {e : Env} {below : List Frame} {s : State} {R : Room} {Q : Option Value → Heap → List Loc → Prop} {F F' : State} (h : Steps p.tables e below F F') (k : Ends p e below s R Q F') : Ends p e below s R Q F := Ends.of (fun _ q => h.trans q) k
theorem own_toInt {n : Nat} (h : n ≤ 100000) : (Int32.ofNat n).toInt = n := Int32.toInt_ofNat_of_lt (by omega)
theorem own_clamp {n : Nat} (h : n ≤ 100000) : (Int32.ofNat n).toNatClampNeg = n := by
  have e : (Int32.ofNat n).toNatClampNeg = (Int32.ofNat n).toInt.toNat := rfl
  rw [e, own_toInt h]
  omega
theorem own_nn {n : Nat} (h : n ≤ 100000) : ¬ Int32.ofNat n < (0 : Int32) := by
  rw [Int32.lt_iff_toInt_lt, own_toInt h]
  have : ((0 : Int32)).toInt = 0 := by decide
  omega
theorem own_ltN (i n : Nat) (h : i ≤ 100000) (h' : n ≤ 100000) : Int32.ofNat i < Int32.ofNat n ↔ i < n := by
  rw [Int32.lt_iff_toInt_lt, own_toInt h, own_toInt h']
  omega
theorem own_eqN (i n : Nat) (h : i ≤ 100000) (h' : n ≤ 100000) : Int32.ofNat i = Int32.ofNat n ↔ i = n := by
  constructor
  · intro q
    have := congrArg Int32.toInt q
    rw [own_toInt h, own_toInt h'] at this
    omega
  · intro q
    rw [q]
theorem own_add (a b : Nat) : Int32.ofNat a + Int32.ofNat b = Int32.ofNat (a + b) := (Int32.ofNat_add a b).symm
theorem own_sub (a b : Nat) (h : b ≤ a) (ha : a ≤ 100000) : Int32.ofNat a - Int32.ofNat b = Int32.ofNat (a - b) := by
  apply Int32.toInt_inj.mp
  have h1 := c_isub (Int32.ofNat a) (Int32.ofNat b)
  have h2 := rng32 (Int32.ofNat a - Int32.ofNat b)
  rw [own_toInt ha, own_toInt (by omega : b ≤ 100000)] at h1
  rw [own_toInt (by omega : a - b ≤ 100000)]
  omega
theorem own_sh0 (x : Int32) : x >>> ((0 : Int32) &&& 31) = x := by
  apply Int32.toInt_inj.mp
  rw [c_ishr x 0 0 (by decide)]
  simp
theorem own_shl0 (x : Int32) : x <<< ((0 : Int32) &&& 31) = x := by
  have h := shlm (x := x) (k := 0) (m := 1) (by decide)
  rw [h, Int32.mul_one]
theorem own_rg (n : Nat) (f : Nat → Int32) (i : Nat) (hi : i < n) (d : Value) : ((List.range n).map fun i => Value.int (f i)).getD i d = .int (f i) := by
  simp [List.getD_eq_getElem?_getD, hi]
theorem own_rg0 (n : Nat) (i : Nat) : ((List.range n).map fun _ => Value.int (0 : Int32)).getD i (.int 0) = .int 0 := by
  by_cases hi : i < n
  · simp [List.getD_eq_getElem?_getD, hi]
  · simp [List.getD_eq_getElem?_getD, hi]
theorem own_set (n : Nat) (f : Nat → Int32) (i : Nat) (x : Int32) : ((List.range n).map fun j => Value.int (f j)).set i (.int x) = (List.range n).map fun j => Value.int (if j = i then x else f j) := by
  apply List.ext_getElem
  · simp
  · intro m h1 h2
    simp only [List.getElem_set, List.getElem_map, List.getElem_range]
    by_cases e : i = m
    · rw [if_pos e, if_pos e.symm]
    · rw [if_neg e, if_neg (fun q => e q.symm)]
/-- an array of n places (bytes or chars) that hold f -/
def Ary (ty : FieldType) (Z : State) (h : Heap) (a : Addr) (n : Nat) (f : Nat → Int32) : Prop := n ≤ 100000 ∧ ∃ k, Arv Z h a k ty (Int32.ofNat n) ((List.range n).map fun i => Value.int (f i)) (.int 0)
theorem Ary.lt {ty : FieldType} {Z : State} {h : Heap} {a : Addr} {n : Nat} {f : Nat → Int32} (F : Ary ty Z h a n f) : a < h.size := by
  obtain ⟨-, k, V⟩ := F
  exact V.lt
theorem Ary.ext {ty : FieldType} {Z : State} {h h' : Heap} {a : Addr} {n : Nat} {f : Nat → Int32} (F : Ary ty Z h a n f) (E : Ext h h') : Ary ty Z h' a n f := by
  obtain ⟨hn, k, V⟩ := F
  exact ⟨hn, k, V.ext E⟩
theorem Ary.other {ty : FieldType} {Z : State} {h h' : Heap} {a b : Addr} {sl : Nat} {v : Value} {n : Nat} {f : Nat → Int32} (F : Ary ty Z h a n f) (W : Wr h h' b sl v) (q : a ≠ b) : Ary ty Z h' a n f := by
  obtain ⟨hn, k, V⟩ := F
  exact ⟨hn, k, V.other W q⟩
theorem Ary.keep {ty : FieldType} {Z : State} {h h' : Heap} {a : Addr} {ws : List Addr} {n : Nat} {f : Nat → Int32} (F : Ary ty Z h a n f) (K : Keep h h' ws) (q : a ∉ ws) : Ary ty Z h' a n f := by
  obtain ⟨hn, k, V⟩ := F
  exact ⟨hn, k, V.keep K q⟩
theorem Ary.new {ty : FieldType} {Z : State} {h : Heap} {a : Addr} {k : ClassId} {n : Nat} (A : Arr Z h a (newA k ty (Int32.ofNat n)) ty) (hn : n ≤ 100000) (hd : defaultValue ty = .int 0) : Ary ty Z h a n (fun _ => 0) := by
  have V := Arv.new A (own_nn hn)
  rw [hd] at V
  exact ⟨hn, k, V.pad (fun i => by rw [own_rg0]; rfl)⟩
theorem Ary.congr {ty : FieldType} {Z : State} {h : Heap} {a : Addr} {n : Nat} {f g : Nat → Int32} (F : Ary ty Z h a n f) (e : ∀ i, i < n → f i = g i) : Ary ty Z h a n g := by
  obtain ⟨hn, k, V⟩ := F
  have q : ((List.range n).map fun i => Value.int (f i)) = (List.range n).map fun i => Value.int (g i) := List.map_congr_left fun i hi => by rw [e i (List.mem_range.mp hi)]
  exact ⟨hn, k, q ▸ V⟩
theorem Ary.op {ty : FieldType} {Z : State} {h : Heap} {a : Addr} {n : Nat} {f : Nat → Int32} (F : Ary ty Z h a n f) : ∃ c : Cell, Arr Z h a c ty ∧ c.slots.size = n ∧ (∀ i, i < n → c.slots[i]? = some (.int (f i))) ∧
    ∀ (h' : Heap) (q x : Int32) (i : Nat), Wr h h' a q.toNatClampNeg (.int x) → q.toNatClampNeg = i → i < n → fits ty (.int x) = true → Ary ty Z h' a n (fun j => if j = i then x else f j) := by
  obtain ⟨hn, k, c, A, q, S, N, H, G⟩ := F
  have S' : c.slots.size = n := by rw [S, own_clamp hn]
  refine ⟨c, A, S', fun i hi => ?_, fun h' q' x i W hq hi hf => ⟨hn, k, ?_⟩⟩
  · rw [H i (by rw [S']; exact hi), own_rg n f i hi]
  · have V := Arv.set A q S N H G hf W i hq (by simp; exact hi)
    rw [own_set] at V
    exact V
theorem own_hin {c : Cell} {n i : Nat} {q : Int32} (S : c.slots.size = n) (e : q = Int32.ofNat i) (hi : i < n) (hn : n ≤ 100000) : ¬ (q < 0 ∨ c.slots.size ≤ q.toNatClampNeg) := by
  subst e
  rw [own_clamp (by omega), S]
  intro h
  exact h.elim (own_nn (by omega)) (by omega)
theorem own_hat {c : Cell} {n i : Nat} {q : Int32} {f : Nat → Int32} (H : ∀ i, i < n → c.slots[i]? = some (.int (f i))) (e : q = Int32.ofNat i) (hi : i < n) (hn : n ≤ 100000) : c.slots[q.toNatClampNeg]? = some (.int (f i)) := by
  subst e
  rw [own_clamp (by omega)]
  exact H i hi
theorem Ary.cpd {ty : FieldType} {Z : State} {h' : Heap} {b : Addr} {k' : ClassId} {n' nA j n i : Nat} {f g : Nat → Int32} (V : Arv Z h' b k' ty (Int32.ofNat n') (((List.range n').map fun x => Value.int (g x)).take (Int32.ofNat j).toNatClampNeg ++ (List.range (Int32.ofNat n).toNatClampNeg).map (fun x => ((List.range nA).map fun x => Value.int (f x)).getD ((Int32.ofNat i).toNatClampNeg + x) (.int 0)) ++ ((List.range n').map fun x => Value.int (g x)).drop ((Int32.ofNat j).toNatClampNeg + (Int32.ofNat n).toNatClampNeg)) (.int 0))
    (hn' : n' ≤ 100000) (h1 : i + n ≤ nA) (hA : nA ≤ 100000) (h2 : j + n ≤ n') : Ary ty Z h' b n' (fun x => if j ≤ x ∧ x < j + n then f (i + (x - j)) else g x) := by
  refine ⟨hn', k', ?_⟩
  rw [own_clamp (by omega : j ≤ 100000), own_clamp (by omega : n ≤ 100000), own_clamp (by omega : i ≤ 100000)] at V
  have e : (((List.range n').map fun x => Value.int (g x)).take j ++ (List.range n).map (fun x => ((List.range nA).map fun x => Value.int (f x)).getD (i + x) (.int 0)) ++ ((List.range n').map fun x => Value.int (g x)).drop (j + n)) = (List.range n').map fun x => Value.int (if j ≤ x ∧ x < j + n then f (i + (x - j)) else g x) := by
    have e2 : (List.range n).map (fun x => ((List.range nA).map fun x => Value.int (f x)).getD (i + x) (.int 0)) = (List.range n).map (fun x => Value.int (f (i + x))) := List.map_congr_left fun x hx => own_rg nA f (i + x) (by have := List.mem_range.mp hx; omega) _
    rw [e2]
    apply List.ext_getElem
    · simp
      omega
    · intro m h3 h4
      simp only [List.length_map, List.length_range] at h4
      by_cases q1 : m < j
      · rw [List.getElem_append_left (by simp; omega), List.getElem_append_left (by simp; omega)]
        simp only [List.getElem_take, List.getElem_map, List.getElem_range]
        rw [if_neg (by omega)]
      · by_cases q2 : m < j + n
        · rw [List.getElem_append_left (by simp; omega), List.getElem_append_right (by simp; omega)]
          simp only [List.getElem_map, List.getElem_range, List.length_take, List.length_map, List.length_range]
          rw [if_pos (by omega), show min j n' = j by omega]
        · rw [List.getElem_append_right (by simp; omega)]
          simp only [List.getElem_drop, List.getElem_map, List.getElem_range, List.length_append, List.length_take, List.length_map, List.length_range]
          rw [if_neg (by omega)]
          congr 2
          omega
  rw [e] at V
  exact V
theorem own_bb (x : Int32) : x.toInt8.toInt32.toInt8.toInt32 = x.toInt8.toInt32 := by
  rw [Int8.toInt8_toInt32]
theorem own_nar (x : Int32) : nar .byte x.toInt8.toInt32 = x.toInt8.toInt32 := own_bb x
/-- a String (coder 0) whose bytes are f -/
def Str (Z : State) (h : Heap) (a b : Addr) (n : Nat) (f : Nat → Int32) : Prop := Exa Z h a "java/lang/String" ∧ Fld Z h a "java/lang/String" "coder" "B" (.int (0 : Int32)) ∧ Fld Z h a "java/lang/String" "value" "[B" (.ref b) ∧ Ary .byte Z h b n f
theorem Str.ext {Z : State} {h h' : Heap} {a b : Addr} {n : Nat} {f : Nat → Int32} (F : Str Z h a b n f) (E : Ext h h') : Str Z h' a b n f := ⟨F.1.ext E, F.2.1.ext E, F.2.2.1.ext E, F.2.2.2.ext E⟩
theorem Str.keep {Z : State} {h h' : Heap} {a b : Addr} {n : Nat} {f : Nat → Int32} {ws : List Addr} (F : Str Z h a b n f) (K : Keep h h' ws) (q : a ∉ ws) (q' : b ∉ ws) : Str Z h' a b n f := ⟨F.1.keep K, F.2.1.keep K q, F.2.2.1.keep K q, F.2.2.2.keep K q'⟩
theorem Str.congr {Z : State} {h : Heap} {a b : Addr} {n : Nat} {f g : Nat → Int32} (F : Str Z h a b n f) (e : ∀ i, i < n → f i = g i) : Str Z h a b n g := ⟨F.1, F.2.1, F.2.2.1, F.2.2.2.congr e⟩
theorem own_same {Z : State} {a0 : Array Value} {x y z : MethodName} {C : String} (hz : z.cls = y.cls) (hy : y.cls ≠ "java/lang/invoke/MethodHandle" ∧ y.cls ≠ "java/lang/invoke/VarHandle") (wi : (Jvm.Cond.instanceMethod y).before a0 Z = true) (ws : (Jvm.Cond.selects C x z).before a0 Z = true) : (Jvm.Cond.sameMethod y.cls y.cls y.name y.desc).before a0 Z = true := by
  obtain ⟨mk, methM, hnamed, hmethM, -, -⟩ := Cond.instanceMethod_spec wi
  obtain ⟨c2, r2, m2, q1, q2, q3, q4, kP, hkP, hkPi⟩ := Cond.selects_spec ws
  have hf := State.methodFound?_of_named hnamed hy
  have hc := findClass_of_methodNamed hnamed
  have hc2 := findClass_of_methodNamed q3
  rw [hz] at hc2
  have e : mk.cls = m2.cls := Option.some.inj (hc.symm.trans hc2)
  rw [← e] at hkP
  simp [Cond.before, Cond.holds, Cond.value, hc, hf, hnamed, hkP, hkPi]
theorem own_psel {Z : State} {a0 : Array Value} {x y z : MethodName} {C : String} (hz : z.cls = y.cls) (hy : y.cls ≠ "java/lang/invoke/MethodHandle" ∧ y.cls ≠ "java/lang/invoke/VarHandle") (wi : (Jvm.Cond.instanceMethod y).before a0 Z = true) (wp : (Jvm.Cond.privateMethod y).before a0 Z = true) (ws : (Jvm.Cond.selects C x z).before a0 Z = true) : (Jvm.Cond.selects y.cls y y).before a0 Z = true := by
  obtain ⟨mk, methM, hnamed, hmethM, -, -⟩ := Cond.instanceMethod_spec wi
  obtain ⟨c2, r2, m2, q1, q2, q3, q4, kP, hkP, hkPi⟩ := Cond.selects_spec ws
  have hf := State.methodFound?_of_named hnamed hy
  have hc := findClass_of_methodNamed hnamed
  have hc2 := findClass_of_methodNamed q3
  rw [hz] at hc2
  have e : mk.cls = m2.cls := Option.some.inj (hc.symm.trans hc2)
  rw [← e] at hkP
  have hs : selectMethod {} Z.vm mk.cls mk = .method mk := selectMethod_private hmethM (Cond.privateMethod_at wp mk methM hnamed hmethM)
  simp [Cond.before, Cond.holds, Cond.value, hc, hf, hnamed, hs, hkP, hkPi]
theorem own_nf {s : State} {args : Array Value} {x y z : MethodName} {C : String} (hz : z.cls = y.cls) (ws : (Jvm.Cond.selects C x z).before args s = true) : NotFace s y := fun r0 h0 => by
  obtain ⟨c2, r2, m2, q1, q2, q3, q4, kP, hkP, hkPi⟩ := Cond.selects_spec ws
  have hc := findClass_of_methodNamed h0
  have hc2 := findClass_of_methodNamed q3
  rw [hz] at hc2
  have e : r0.cls = m2.cls := Option.some.inj (hc.symm.trans hc2)
  rw [e]
  exact ⟨kP, hkP, hkPi⟩
theorem own_decl {Z : State} {a0 : Array Value} {y : MethodName} {bytes : ByteArray} {ml : Nat} {rt : Option FieldType} (wi : (Jvm.Cond.instanceMethod y).before a0 Z = true) (wc : (Jvm.Cond.code y bytes ml rt).before a0 Z = true) : (Jvm.Cond.declares y).before a0 Z = true := by
  obtain ⟨mk, methM, hnamed, hmethM, hst, -⟩ := Cond.instanceMethod_spec wi
  obtain ⟨m2, cM, q1, -, -, -, -, -, -, hsig⟩ := Cond.code_spec hnamed wc
  cases hmethM.symm.trans q1
  simp [Cond.before, Cond.holds, Cond.value, hnamed, hmethM, hst, hsig]
theorem own_cap (k cap : Nat) (h : k ≤ cap) (hc : cap ≤ 100000) : ¬ (0 : Int32) < (Int32.ofNat k - (Int32.ofNat cap >>> ((0 : Int32) &&& 31))) := by
  rw [own_sh0, Int32.lt_iff_toInt_lt]
  have h1 := c_isub (Int32.ofNat k) (Int32.ofNat cap)
  have h2 := rng32 (Int32.ofNat k - Int32.ofNat cap)
  rw [own_toInt (by omega : k ≤ 100000), own_toInt hc] at h1
  have : ((0 : Int32)).toInt = 0 := by decide
  omega
theorem own_cfa (x : Int32) : (((x - x).toUInt32 >>> ((31 : Int32) &&& 31).toUInt32).toInt32).toInt8.toInt32 = (0 : Int32) := by
  rw [Int32.sub_self]
  decide
/-- a StringBuilder (coder 0) of capacity cap whose first n bytes are f's -/
def SBd (Z : State) (h : Heap) (a b : Addr) (cap n : Nat) (f : Nat → Int32) : Prop := Exa Z h a "java/lang/StringBuilder" ∧ Fld Z h a "java/lang/AbstractStringBuilder" "coder" "B" (.int (0 : Int32)) ∧ Fld Z h a "java/lang/AbstractStringBuilder" "count" "I" (.int (Int32.ofNat n)) ∧ Fld Z h a "java/lang/AbstractStringBuilder" "value" "[B" (.ref b) ∧ Ary .byte Z h b cap f ∧ n ≤ cap
theorem SBd.ext {Z : State} {h h' : Heap} {a b : Addr} {cap n : Nat} {f : Nat → Int32} (F : SBd Z h a b cap n f) (E : Ext h h') : SBd Z h' a b cap n f := ⟨F.1.ext E, F.2.1.ext E, F.2.2.1.ext E, F.2.2.2.1.ext E, F.2.2.2.2.1.ext E, F.2.2.2.2.2⟩
theorem SBd.keep {Z : State} {h h' : Heap} {a b : Addr} {cap n : Nat} {f : Nat → Int32} {ws : List Addr} (F : SBd Z h a b cap n f) (K : Keep h h' ws) (q : a ∉ ws) (q' : b ∉ ws) : SBd Z h' a b cap n f := ⟨F.1.keep K, F.2.1.keep K q, F.2.2.1.keep K q, F.2.2.2.1.keep K q, F.2.2.2.2.1.keep K q', F.2.2.2.2.2⟩
/-- the same, for a walk that may intern String constants -/
def EndsW (p : Program) (e : Env) (below : List Frame) (s : State) (R : Room) (Q : Option Value → Heap → List Loc → Prop) (F : State) : Prop :=
  ∃ t o, Steps p.tables e below F t ∧ t.status = .running ∧ Ended t below o ∧ ∃ v L, o = .returned v ∧ Q v t.heap L ∧ ReturnedEndW s o t L R.cells R.slots
theorem EndsW.of {p : Program} {e : Env} {below : List Frame} {s : State} {R : Room} {Q : Option Value → Heap → List Loc → Prop} {F F' : State} (h : ∀ t, Steps p.tables e below F' t → Steps p.tables e below F t) (k : EndsW p e below s R Q F') : EndsW p e below s R Q F := by
  obtain ⟨t, o, h1, r⟩ := k
  exact ⟨t, o, h t h1, r⟩
theorem EndsW.st {p : Program} {e : Env} {below : List Frame} {s : State} {R : Room} {Q : Option Value → Heap → List Loc → Prop} {F F' : State} (h : Steps p.tables e below F F') (k : EndsW p e below s R Q F') : EndsW p e below s R Q F := EndsW.of (fun _ q => h.trans q) k
/-- what stood at the start stands yet; n0 lies behind it -/
def Oll (Z : State) (n0 : Nat) (h : Heap) : Prop := Z.heap.size ≤ n0 ∧ Ext Z.heap h
theorem Oll.ext {Z : State} {n0 : Nat} {h h' : Heap} (X : Oll Z n0 h) (E : Ext h h') : Oll Z n0 h' := ⟨X.1, Nat.le_trans X.2.1 E.1, fun x c q => E.2 x c (X.2.2 x c q)⟩
theorem Oll.keep {Z : State} {n0 : Nat} {h h' : Heap} {ws : List Addr} (X : Oll Z n0 h) (K : Keep h h' ws) (q : ∀ x ∈ ws, n0 ≤ x) : Oll Z n0 h' := ⟨X.1, Nat.le_trans X.2.1 K.1, fun x c r => K.2.1 x c (X.2.2 x c r) fun z => absurd (Nat.lt_of_lt_of_le (Array.getElem?_eq_some_iff.mp r).1 X.1) (Nat.not_lt.mpr (q x z))⟩
theorem own_frm {n m : Nat} {L : List Loc} (h : m ≤ n) (N : Fr n L) : Fr m L := fun y hy => Nat.le_trans h (N y hy)
def tf (t : List Int32) : Nat → Int32 := fun i => t.getD i 0
theorem own_cat (t r : List Int32) : (fun x => if t.length ≤ x ∧ x < t.length + r.length then tf r (0 + (x - t.length)) else tf t x) = tf (t ++ r) := by
  funext x
  simp only [tf, List.getD_eq_getElem?_getD, Nat.zero_add]
  by_cases h : t.length ≤ x
  · rw [List.getElem?_append_right h]
    by_cases h2 : x < t.length + r.length
    · rw [if_pos ⟨h, h2⟩]
    · rw [if_neg (fun q => h2 q.2), List.getElem?_eq_none h, List.getElem?_eq_none (by omega)]
  · rw [if_neg (fun q => h q.1), List.getElem?_append_left (by omega)]
theorem SBd.cat {Z : State} {h : Heap} {a b : Addr} {cap : Nat} {t r : List Int32} (F : SBd Z h a b cap (t.length + r.length) (fun x => if t.length ≤ x ∧ x < t.length + r.length then tf r (0 + (x - t.length)) else tf t x)) : SBd Z h a b cap (t ++ r).length (tf (t ++ r)) := by
  rw [List.length_append, ← own_cat t r]
  exact F
theorem own_backOfS {l : Launch} {R : Room} {p : Program} {e : Env} {below : List Frame} {s Z : State} {args a0 : Array Value} {h : Heap} {y : MethodName} {bytes : ByteArray} {maxL : Nat} {ret : Option FieldType} {rm : Room} {len W : Nat} {as' : Array Value} {Q : Option Value → Heap → List Loc → Prop}
    (hM : MetFree l y (head1 [Cond.code y bytes maxL ret] rm) (fun a U => a = as' ∧ Z.Warmed39 U.vm ∧ U.heap = h ∧ U.vm.interned = Z.vm.interned) (fun _ _ _ _ _ => True) (fun _ U o U' => ∃ v L, o = .returned v ∧ Q v U'.heap L ∧ ReturnedEndW U o U' L rm.cells rm.slots))
    (hZ : Z.Warmed39 s.vm) (hI : s.vm.interned = Z.vm.interned) (wc : (Cond.code y bytes maxL ret).before a0 Z = true) (wz : (Cond.initialized y.cls).before a0 Z = true) (hf : rm.frames + 1 ≤ R.frames) (hl : W + (maxL + 11) + rm.locals ≤ R.locals) :
    BackS l R p e below s args y len W (fun A a => a = as' ∧ A.U.heap = h ∧ A.cells + rm.cells ≤ R.cells ∧ A.slots + rm.slots ≤ R.slots)
      (fun A _ v B => ∃ L, Q v B.U.heap L ∧ B.locs = A.locs ++ L ∧ B.cells = A.cells + rm.cells ∧ B.slots = A.slots + rm.slots) :=
  BackS.of_freeW (bytes := bytes) (maxL := maxL) (ret := ret) (E := fun _ _ o t L k n => k = rm.cells ∧ n = rm.slots ∧ ∃ v, o = .returned v ∧ Q v t.heap L) hM hf hl
    (fun m meth c A a Y hp => have hU : Z.Warmed39 A.U.vm := wtrans hZ Y.warmed
      ⟨by show (Cond.and _ .tt).before a A.U = true; rw [Cond.before_and, mv hU wc]; rfl, mv hU wc, mv hU wz, hp.2.2.1, hp.2.2.2⟩)
    (fun m meth c A a g mk Y hp => ⟨hp.1, wtrans hZ Y.warmed, hp.2.1, Y.warmed.interned_eq.trans hI⟩) (fun _ _ _ _ _ _ _ _ _ => trivial)
    (fun _ _ _ _ ⟨v, L, h1, h2, h3⟩ => ⟨L, _, _, h3, rfl, rfl, v, h1, h2⟩)
    (fun m meth c A a g mk v t L k n Y hp _ _ ⟨e1, e2, v', e3, e4⟩ => by cases e3; subst e1 e2; exact ⟨L, e4, rfl, rfl, rfl⟩)
/-- a char of Latin-1 -/
def Lch (x : Int32) : Prop := ¬ (255 : Int32) < x ∧ nar .char x = x
theorem Lch.fits {x : Int32} (h : Lch x) : fits .char (.int x) = true := by
  have q := fits_nar_char x
  rw [h.2] at q
  exact q
theorem own_44 : Lch (44 : Int32) := ⟨by decide, by decide⟩
theorem own_32 : Lch (32 : Int32) := ⟨by decide, by decide⟩
theorem own_c1 {x : Int32} (h : x < (2 : Int32)) : ¬ (1 : Int32) < x := by
  rw [Int32.lt_iff_toInt_lt] at h ⊢
  have h1 : ((1 : Int32)).toInt = 1 := by decide
  have h2 : ((2 : Int32)).toInt = 2 := by decide
  omega
theorem own_a1 {x : Int32} (h : ¬ (x &&& (1 : Int32)) = (0 : Int32)) : (x &&& (1 : Int32)) = (1 : Int32) := by
  have q := c_mask x (1 : Int32) 1 (by decide) (by decide)
  have h2 : ¬ (x &&& (1 : Int32)).toInt = 0 := fun z => h (Int32.toInt_inj.mp (by rw [z]; decide))
  exact Int32.toInt_inj.mp (by rw [show ((1 : Int32)).toInt = 1 by decide]; omega)
theorem own_lch (x : Int32) : Lch (x &&& (255 : Int32)).toUInt32.toUInt16.toUInt32.toInt32 := by
  rw [i2c_mask]
  have h := c_mask x (255 : Int32) 8 (by decide) (by decide)
  refine ⟨?_, i2c_mask x⟩
  rw [Int32.lt_iff_toInt_lt, h]
  have : ((255 : Int32)).toInt = 255 := by decide
  omega
theorem pd_0 : parseMethodDescriptor "(C)Ljava/lang/String;" = some ⟨[.char], some (.object "java/lang/String")⟩ := by decide +kernel
theorem pd_1 : parseMethodDescriptor "(C)Z" = some ⟨[.char], some .boolean⟩ := by decide +kernel
theorem pd_2 : parseMethodDescriptor "(C)[B" = some ⟨[.char], some (.array .byte)⟩ := by decide +kernel
theorem pd_3 : parseMethodDescriptor "([BB)V" = some ⟨[(.array .byte), .byte], none⟩ := by decide +kernel
theorem pd_4 : parseMethodDescriptor "()V" = some ⟨[], none⟩ := by decide +kernel
theorem pd_5 : parseMethodDescriptor "([C)V" = some ⟨[(.array .char)], none⟩ := by decide +kernel
theorem pd_6 : parseMethodDescriptor "([CIILjava/lang/Void;)V" = some ⟨[(.array .char), .int, .int, (.object "java/lang/Void")], none⟩ := by decide +kernel
theorem pd_7 : parseMethodDescriptor "([CII)[B" = some ⟨[(.array .char), .int, .int], some (.array .byte)⟩ := by decide +kernel
theorem pd_8 : parseMethodDescriptor "([CI[BII)I" = some ⟨[(.array .char), .int, (.array .byte), .int, .int], some .int⟩ := by decide +kernel
theorem pd_9 : parseMethodDescriptor "([BI)B" = some ⟨[(.array .byte), .int], some .byte⟩ := by decide +kernel
theorem pd_10 : parseMethodDescriptor "(Ljava/lang/String;Ljava/lang/String;Ljava/lang/String;Z)V" = some ⟨[(.object "java/lang/String"), (.object "java/lang/String"), (.object "java/lang/String"), .boolean], none⟩ := by decide +kernel
theorem pd_11 : parseMethodDescriptor "(I)Ljava/lang/String;" = some ⟨[.int], some (.object "java/lang/String")⟩ := by decide +kernel
theorem pd_12 : parseMethodDescriptor "(Ljava/lang/String;)V" = some ⟨[(.object "java/lang/String")], none⟩ := by decide +kernel
theorem pd_13 : parseMethodDescriptor "()I" = some ⟨[], some .int⟩ := by decide +kernel
theorem pd_14 : parseMethodDescriptor "()B" = some ⟨[], some .byte⟩ := by decide +kernel
theorem pd_15 : parseMethodDescriptor "(Ljava/lang/String;)Ljava/lang/AbstractStringBuilder;" = some ⟨[(.object "java/lang/String")], some (.object "java/lang/AbstractStringBuilder")⟩ := by decide +kernel
theorem pd_16 : parseMethodDescriptor "(Ljava/lang/String;)Ljava/lang/StringBuilder;" = some ⟨[(.object "java/lang/String")], some (.object "java/lang/StringBuilder")⟩ := by decide +kernel
theorem pd_17 : parseMethodDescriptor "(I)V" = some ⟨[.int], none⟩ := by decide +kernel
theorem pd_18 : parseMethodDescriptor "(ILjava/lang/String;)V" = some ⟨[.int, (.object "java/lang/String")], none⟩ := by decide +kernel
theorem pd_19 : parseMethodDescriptor "([BIB)V" = some ⟨[(.array .byte), .int, .byte], none⟩ := by decide +kernel
theorem pd_20 : parseMethodDescriptor "(Ljava/lang/Object;ILjava/lang/Object;II)V" = some ⟨[(.object "java/lang/Object"), .int, (.object "java/lang/Object"), .int, .int], none⟩ := by decide +kernel
theorem pd_21 : parseMethodDescriptor "()Ljava/lang/String;" = some ⟨[], some (.object "java/lang/String")⟩ := by decide +kernel
theorem pd_22 : parseMethodDescriptor "(Ljava/lang/StringBuilder;)V" = some ⟨[(.object "java/lang/StringBuilder")], none⟩ := by decide +kernel
theorem pd_23 : parseMethodDescriptor "(Ljava/lang/AbstractStringBuilder;Ljava/lang/Void;)V" = some ⟨[(.object "java/lang/AbstractStringBuilder"), (.object "java/lang/Void")], none⟩ := by decide +kernel
theorem pd_24 : parseMethodDescriptor "()[B" = some ⟨[], some (.array .byte)⟩ := by decide +kernel
theorem pd_25 : parseMethodDescriptor "()Z" = some ⟨[], some .boolean⟩ := by decide +kernel
theorem pd_26 : parseMethodDescriptor "([BII)[B" = some ⟨[(.array .byte), .int, .int], some (.array .byte)⟩ := by decide +kernel
theorem pd_27 : parseMethodDescriptor "(II)V" = some ⟨[.int, .int], none⟩ := by decide +kernel
theorem pd_28 : parseMethodDescriptor "(II)I" = some ⟨[.int, .int], some .int⟩ := by decide +kernel
theorem pd_29 : parseMethodDescriptor "(Ljava/lang/Object;)Z" = some ⟨[(.object "java/lang/Object")], some .boolean⟩ := by decide +kernel
theorem pd_30 : parseMethodDescriptor "([B[B)Z" = some ⟨[(.array .byte), (.array .byte)], some .boolean⟩ := by decide +kernel
theorem d17_0 : decode jdk_42_method_152_code 0 = .ok (.getstatic 38, 3) := by decide +kernel
theorem d17_3 : decode jdk_42_method_152_code 3 = .ok (.ifCond .eq 10, 3) := by decide +kernel
theorem d17_6 : decode jdk_42_method_152_code 6 = .ok (.aload_n 0, 1) := by decide +kernel
theorem d17_7 : decode jdk_42_method_152_code 7 = .ok (.getfield 15, 3) := by decide +kernel
theorem d17_10 : decode jdk_42_method_152_code 10 = .ok (.goto 4, 3) := by decide +kernel
theorem d17_13 : decode jdk_42_method_152_code 13 = .ok (.iconst 1, 1) := by decide +kernel
theorem d17_14 : decode jdk_42_method_152_code 14 = .ok (.ireturn, 1) := by decide +kernel
theorem pn_0 : plainName "java/lang/String" = true := by first | (simp [plainName, overriddenIn]; done) | decide +kernel
def Q_str_coder (Z : State) (a1 : Addr) (cs : Int32) (h0 : Heap) (n0 : Nat) (v : Option Value) (h : Heap) (L : List Loc) : Prop := v = some (.int (0 : Int32)) ∧ Fr n0 L ∧ h = h0
set_option maxRecDepth 65536 in
set_option maxHeartbeats 40000000 in
theorem str_coder (l : Launch) (Z : State) (a0 : Array Value) (hw : ∀ d ∈ tables_1, d.before a0 Z = true) (ws : List Jvm.Cond) (a1 : Addr) (cs : Int32) (h0 : Heap) (n0 : Nat) (Z0 : n0 ≤ h0.size) (S0 : Sta Z Z.heap "java/lang/String" "COMPACT_STRINGS" "Z" (.int cs)) (hcs : ¬ cs = (0 : Int32)) (O : Oll Z n0 h0) (F_c : Fld Z h0 a1 "java/lang/String" "coder" "B" (.int (0 : Int32))) :
    MetFree l (⟨"java/lang/String", "coder", "()B"⟩ : MethodName) (head1 (Jvm.Cond.code (⟨"java/lang/String", "coder", "()B"⟩ : MethodName) jdk_42_method_152_code 1 (some .byte) :: ws) ({ frames := 0, cells := 0, slots := 0, locals := 0 } : Room)) (fun a U => a = #[(.ref a1)] ∧ Z.Warmed39 U.vm ∧ U.heap = h0) (fun _ _ _ _ _ => True) (fun _ U o U' => ∃ v L, o = .returned v ∧ Q_str_coder Z a1 cs h0 n0 v U'.heap L ∧ FrameEnd U o U' L ({ frames := 0, cells := 0, slots := 0, locals := 0 } : Room).cells ({ frames := 0, cells := 0, slots := 0, locals := 0 } : Room).slots) := by
  refine MetFree.of_bodySF (plainFor_of_name pn_0) hisR ?_
  intro p e s m args below meth c s₁ Bd hml0 hP hK
  obtain ⟨rfl, hZ, hh⟩ := hP
  have hx := Bd.exec
  have hby := Bd.bytes
  have hml : c.maxLocals = 1 := hml0
  have hown : s.vm.findClass "java/lang/String" = some m.cls := findClass_of_methodNamed Bd.named
  have hnm := (name_of_methodNamed Bd.named Bd.method).1
  have X0 : Stand p l e ({ frames := 0, cells := 0, slots := 0, locals := 0 } : Room) s m #[(.ref a1)] below meth c s₁ [] 0 0 := Stand.of_body Bd
  have e0 : s₁.heap = h0 := by rw [← hh, Bd.state]; rfl
  have N0 := Fr.nil n0
  have eF : entryFrame m #[(.ref a1)] 1 = mkF m 0 #[.val (.ref a1)] [] := by first | (simp [entryFrame, mkF, argsToLocals, Value.category]; done) | rfl
  show Ends p e below s ({ frames := 0, cells := 0, slots := 0, locals := 0 } : Room) (Q_str_coder Z a1 cs h0 n0) (s₁.setTop (entryFrame m #[(.ref a1)] 1))
  rw [eF]
  obtain ⟨T1, X1, e1, st1⟩ := getS2 X0 hx hZ hown (host := "") (Or.inl (hw _ (List.mem_of_getElem? (i := 4) rfl))) Via.refl e0 (S0.ext O.2) (g := (mkF m 0 #[.val (.ref a1)] [])) rfl (hb hby d17_0)
  refine Ends.of st1 ?_
  refine Ends.of (F' := T1.setTop (mkF m 7 #[.val (.ref a1)] [(.ref a1)])) (fun _ kt => ?_) ?_
  · show Steps p.tables e below (T1.setTop (mkF m 3 #[.val (.ref a1)] [(.int cs)])) _
    refine XS.ifNo X1.here hx rfl (hb hby d17_3) rfl ((if0 _ _).trans (feq hcs).1) ?_
    show Steps p.tables e below (T1.setTop (mkF m 6 #[.val (.ref a1)] [])) _
    refine XS.aloadN X1.here hx rfl (hb hby d17_6) rfl rfl ?_
    exact kt
  obtain ⟨T2, X2, e2, st2⟩ := getF X1 hx hZ hown (host := "") (Or.inl (hw _ (List.mem_of_getElem? (i := 24) rfl))) Via.refl e1 F_c (g := (mkF m 7 #[.val (.ref a1)] [(.ref a1)])) rfl rfl (hb hby d17_7)
  refine Ends.of st2 ?_
  refine Ends.of (F' := T2.setTop (mkF m 14 #[.val (.ref a1)] [(.int (0 : Int32))])) (fun _ kt => ?_) ?_
  · show Steps p.tables e below (T2.setTop (mkF m 10 #[.val (.ref a1)] [(.int (0 : Int32))])) _
    refine XS.goto X2.here hx rfl (pc0 := 10) (pc' := 14) rfl (hb hby d17_10) (by decide) (by decide) ?_
    exact kt
  obtain ⟨fs, hr, hrun, hended, hW, hsame⟩ := X2.leave (v := some (.int (0 : Int32))) (fun h => by rw [Bd.returns] at h; cases h)
  exact ⟨_, _, retN X2 hx (t := .byte) Bd.returns (by simp) (hb hby d17_14) hr, hrun, hended, _, _, rfl, ⟨rfl, N0, e2⟩, ⟨_, rfl⟩, hW, hsame.mono (by decide) (by decide)⟩
theorem d16_0 : decode jdk_42_method_54_code 0 = .ok (.aload_n 0, 1) := by decide +kernel
theorem d16_1 : decode jdk_42_method_54_code 1 = .ok (.getfield 9, 3) := by decide +kernel
theorem d16_4 : decode jdk_42_method_54_code 4 = .ok (.arraylength, 1) := by decide +kernel
theorem d16_5 : decode jdk_42_method_54_code 5 = .ok (.aload_n 0, 1) := by decide +kernel
theorem d16_6 : decode jdk_42_method_54_code 6 = .ok (.invokevirtual 335, 3) := by decide +kernel
theorem d16_9 : decode jdk_42_method_54_code 9 = .ok (.ishr, 1) := by decide +kernel
theorem d16_10 : decode jdk_42_method_54_code 10 = .ok (.ireturn, 1) := by decide +kernel
def Q_str_length (Z : State) (a1 : Addr) (b : Addr) (n : Nat) (f : Nat → Int32) (cs : Int32) (h0 : Heap) (n0 : Nat) (v : Option Value) (h : Heap) (L : List Loc) : Prop := v = some (.int (Int32.ofNat n)) ∧ Fr n0 L ∧ h = h0
set_option maxRecDepth 65536 in
set_option maxHeartbeats 40000000 in
theorem str_length (l : Launch) (Z : State) (a0 : Array Value) (hw : ∀ d ∈ tables_1, d.before a0 Z = true) (ws : List Jvm.Cond) (a1 : Addr) (b : Addr) (n : Nat) (f : Nat → Int32) (cs : Int32) (h0 : Heap) (n0 : Nat) (Z0 : n0 ≤ h0.size) (S0 : Sta Z Z.heap "java/lang/String" "COMPACT_STRINGS" "Z" (.int cs)) (hcs : ¬ cs = (0 : Int32)) (O : Oll Z n0 h0) (F : Str Z h0 a1 b n f) :
    MetFree l (⟨"java/lang/String", "length", "()I"⟩ : MethodName) (head1 (Jvm.Cond.code (⟨"java/lang/String", "length", "()I"⟩ : MethodName) jdk_42_method_54_code 1 (some .int) :: ws) ({ frames := 1, cells := 0, slots := 0, locals := 13 } : Room)) (fun a U => a = #[(.ref a1)] ∧ Z.Warmed39 U.vm ∧ U.heap = h0) (fun _ _ _ _ _ => True) (fun _ U o U' => ∃ v L, o = .returned v ∧ Q_str_length Z a1 b n f cs h0 n0 v U'.heap L ∧ FrameEnd U o U' L ({ frames := 1, cells := 0, slots := 0, locals := 13 } : Room).cells ({ frames := 1, cells := 0, slots := 0, locals := 13 } : Room).slots) := by
  refine MetFree.of_bodySF (plainFor_of_name pn_0) hisR ?_
  intro p e s m args below meth c s₁ Bd hml0 hP hK
  obtain ⟨rfl, hZ, hh⟩ := hP
  have hx := Bd.exec
  have hby := Bd.bytes
  have hml : c.maxLocals = 1 := hml0
  have hown : s.vm.findClass "java/lang/String" = some m.cls := findClass_of_methodNamed Bd.named
  have hnm := (name_of_methodNamed Bd.named Bd.method).1
  have X0 : Stand p l e ({ frames := 1, cells := 0, slots := 0, locals := 13 } : Room) s m #[(.ref a1)] below meth c s₁ [] 0 0 := Stand.of_body Bd
  have e0 : s₁.heap = h0 := by rw [← hh, Bd.state]; rfl
  have N0 := Fr.nil n0
  have eF : entryFrame m #[(.ref a1)] 1 = mkF m 0 #[.val (.ref a1)] [] := by first | (simp [entryFrame, mkF, argsToLocals, Value.category]; done) | rfl
  show Ends p e below s ({ frames := 1, cells := 0, slots := 0, locals := 13 } : Room) (Q_str_length Z a1 b n f cs h0 n0) (s₁.setTop (entryFrame m #[(.ref a1)] 1))
  rw [eF]
  obtain ⟨cb, Ab, Sb, Hb, -⟩ := F.2.2.2.op
  refine Ends.of (F' := s₁.setTop (mkF m 1 #[.val (.ref a1)] [(.ref a1)])) (fun _ kt => ?_) ?_
  · show Steps p.tables e below (s₁.setTop (mkF m 0 #[.val (.ref a1)] [])) _
    refine XS.aloadN X0.here hx rfl (hb hby d16_0) rfl rfl ?_
    exact kt
  obtain ⟨T3, X3, e3, st3⟩ := getF X0 hx hZ hown (host := "") (Or.inl (hw _ (List.mem_of_getElem? (i := 22) rfl))) Via.refl e0 F.2.2.1 (g := (mkF m 1 #[.val (.ref a1)] [(.ref a1)])) rfl rfl (hb hby d16_1)
  refine Ends.of st3 ?_
  refine Ends.of (F' := T3.setTop (mkF m 6 #[.val (.ref a1)] [(.ref a1), (.int (Int32.ofNat n))])) (fun _ kt => ?_) ?_
  · show Steps p.tables e below (T3.setTop (mkF m 4 #[.val (.ref a1)] [(.ref b)])) _
    refine X3.arraylength hx (by rw [e3]; exact Ab.1) (State.isArrayOf_alike hZ.alike Ab.2.1) (g := (mkF m 4 #[.val (.ref a1)] [(.ref b)])) rfl rfl (hb hby d16_4) _ ?_
    rw [Sb]
    show Steps p.tables e below (T3.setTop (mkF m 5 #[.val (.ref a1)] [(.int (Int32.ofNat n))])) _
    refine XS.aloadN X3.here hx rfl (hb hby d16_5) rfl rfl ?_
    exact kt
  obtain ⟨cq4, kq4, q4a, q4b, q4c⟩ := isOf hZ e3 F.1
  obtain ⟨_, _, ⟨T4, L4, k4, n4⟩, -, X4, ⟨Lc4, hQ4, l4, y4, z4⟩, st4⟩ := X3.virtualBack hx (y := (⟨"java/lang/String", "coder", "()B"⟩ : MethodName)) (z := (⟨"java/lang/String", "coder", "()B"⟩ : MethodName)) hown (mvT hZ (hw _ (List.mem_of_getElem? (i := 87) rfl))) (mvT hZ (hw _ (List.mem_of_getElem? (i := 88) rfl))) (notFace_of_selects (args := #[]) (mvT hZ (hw _ (List.mem_of_getElem? (i := 90) rfl)))) (mvT hZ (hw _ (List.mem_of_getElem? (i := 90) rfl))) (mvT hZ (hw _ (List.mem_of_getElem? (i := 89) rfl))) (by decide) (backOf (W := 1) (str_coder l Z a0 hw [] a1 cs h0 n0 Z0 S0 hcs O F.2.1) hZ (hw _ (List.mem_of_getElem? (i := 91) rfl)) (hw _ (List.mem_of_getElem? (i := 2) rfl)) (by decide) (by decide)) q4a q4c (g := (mkF m 6 #[.val (.ref a1)] [(.ref a1), (.int (Int32.ofNat n))])) rfl (by rw [hml]; rfl) (Steps.refl _) (argsL := []) (rest := [(.int (Int32.ofNat n))]) (lenOf pd_14 rfl) rfl (by show 2 * 0 + _ ≤ _; exact Nat.le_of_eq rfl) (hb hby d16_6) (fun _ _ => ⟨rfl, e3, (by decide : 0 + 0 ≤ _), (by decide : 0 + 0 ≤ _)⟩)
  dsimp only [Pt.U, Pt.locs, Pt.cells, Pt.slots] at X4 l4 y4 z4 st4 hQ4
  subst l4 y4 z4
  obtain ⟨rfl, N4q, e4⟩ := hQ4
  have N4 := Fr.app N0 N4q
  refine Ends.st st4 ?_
  refine Ends.of (F' := T4.setTop (mkF m 10 #[.val (.ref a1)] [(.int ((Int32.ofNat n) >>> ((0 : Int32) &&& 31)))])) (fun _ kt => ?_) ?_
  · show Steps p.tables e below (T4.setTop (mkF m 9 #[.val (.ref a1)] [(.int (0 : Int32)), (.int (Int32.ofNat n))])) _
    refine XS.ishr X4.here hx rfl (hb hby d16_9) rfl ?_
    exact kt
  obtain ⟨fs, hr, hrun, hended, hW, hsame⟩ := X4.leave (v := some (.int ((Int32.ofNat n) >>> ((0 : Int32) &&& 31)))) (fun h => by rw [Bd.returns] at h; cases h)
  exact ⟨_, _, retI X4 hx Bd.returns (hb hby d16_10) hr, hrun, hended, _, _, rfl, ⟨by rw [own_sh0], N4, e4⟩, ⟨_, rfl⟩, hW, hsame.mono (by decide) (by decide)⟩
theorem d2_0 : decode jdk_43_method_3_code 0 = .ok (.iload_n 0, 1) := by decide +kernel
theorem d2_1 : decode jdk_43_method_3_code 1 = .ok (.sipush 255, 3) := by decide +kernel
theorem d2_4 : decode jdk_43_method_3_code 4 = .ok (.if_icmp .gt 7, 3) := by decide +kernel
theorem d2_7 : decode jdk_43_method_3_code 7 = .ok (.iconst 1, 1) := by decide +kernel
theorem d2_8 : decode jdk_43_method_3_code 8 = .ok (.goto 4, 3) := by decide +kernel
theorem d2_11 : decode jdk_43_method_3_code 11 = .ok (.iconst 0, 1) := by decide +kernel
theorem d2_12 : decode jdk_43_method_3_code 12 = .ok (.ireturn, 1) := by decide +kernel
theorem pn_1 : plainName "java/lang/StringLatin1" = true := by first | (simp [plainName, overriddenIn]; done) | decide +kernel
def Q_lat_can (Z : State) (p1 : Int32) (h0 : Heap) (n0 : Nat) (v : Option Value) (h : Heap) (L : List Loc) : Prop := v = some (.int (1 : Int32)) ∧ Fr n0 L ∧ h = h0
set_option maxRecDepth 65536 in
set_option maxHeartbeats 40000000 in
theorem lat_can (l : Launch) (Z : State) (a0 : Array Value) (hw : ∀ d ∈ tables_1, d.before a0 Z = true) (ws : List Jvm.Cond) (p1 : Int32) (h0 : Heap) (n0 : Nat) (Z0 : n0 ≤ h0.size) (hp : ¬ (255 : Int32) < p1) :
    MetFree l (⟨"java/lang/StringLatin1", "canEncode", "(C)Z"⟩ : MethodName) (head1 (Jvm.Cond.code (⟨"java/lang/StringLatin1", "canEncode", "(C)Z"⟩ : MethodName) jdk_43_method_3_code 1 (some .boolean) :: ws) ({ frames := 0, cells := 0, slots := 0, locals := 0 } : Room)) (fun a U => a = #[(.int p1)] ∧ Z.Warmed39 U.vm ∧ U.heap = h0) (fun _ _ _ _ _ => True) (fun _ U o U' => ∃ v L, o = .returned v ∧ Q_lat_can Z p1 h0 n0 v U'.heap L ∧ FrameEnd U o U' L ({ frames := 0, cells := 0, slots := 0, locals := 0 } : Room).cells ({ frames := 0, cells := 0, slots := 0, locals := 0 } : Room).slots) := by
  refine MetFree.of_bodySF (plainFor_of_name pn_1) hisR ?_
  intro p e s m args below meth c s₁ Bd hml0 hP hK
  obtain ⟨rfl, hZ, hh⟩ := hP
  have hx := Bd.exec
  have hby := Bd.bytes
  have hml : c.maxLocals = 1 := hml0
  have hown : s.vm.findClass "java/lang/StringLatin1" = some m.cls := findClass_of_methodNamed Bd.named
  have hnm := (name_of_methodNamed Bd.named Bd.method).1
  have X0 : Stand p l e ({ frames := 0, cells := 0, slots := 0, locals := 0 } : Room) s m #[(.int p1)] below meth c s₁ [] 0 0 := Stand.of_body Bd
  have e0 : s₁.heap = h0 := by rw [← hh, Bd.state]; rfl
  have N0 := Fr.nil n0
  have eF : entryFrame m #[(.int p1)] 1 = mkF m 0 #[.val (.int p1)] [] := by first | (simp [entryFrame, mkF, argsToLocals, Value.category]; done) | rfl
  show Ends p e below s ({ frames := 0, cells := 0, slots := 0, locals := 0 } : Room) (Q_lat_can Z p1 h0 n0) (s₁.setTop (entryFrame m #[(.int p1)] 1))
  rw [eF]
  refine Ends.of (F' := s₁.setTop (mkF m 12 #[.val (.int p1)] [(.int (1 : Int32))])) (fun _ kt => ?_) ?_
  · show Steps p.tables e below (s₁.setTop (mkF m 0 #[.val (.int p1)] [])) _
    refine XS.iloadN X0.here hx rfl (hb hby d2_0) rfl ?_
    show Steps p.tables e below (s₁.setTop (mkF m 1 #[.val (.int p1)] [(.int p1)])) _
    refine XS.sipush X0.here hx rfl (hb hby d2_1) ?_
    show Steps p.tables e below (s₁.setTop (mkF m 4 #[.val (.int p1)] [(.int (255 : Int32)), (.int p1)])) _
    refine XS.icmpNo X0.here hx rfl (hb hby d2_4) rfl (flt hp).2.2.1 ?_
    show Steps p.tables e below (s₁.setTop (mkF m 7 #[.val (.int p1)] [])) _
    refine XS.iconst X0.here hx rfl (hb hby d2_7) ?_
    show Steps p.tables e below (s₁.setTop (mkF m 8 #[.val (.int p1)] [(.int (1 : Int32))])) _
    refine XS.goto X0.here hx rfl (pc0 := 8) (pc' := 12) rfl (hb hby d2_8) (by decide) (by decide) ?_
    exact kt
  obtain ⟨fs, hr, hrun, hended, hW, hsame⟩ := X0.leave (v := some (.int (1 : Int32))) (fun h => by rw [Bd.returns] at h; cases h)
  exact ⟨_, _, retN X0 hx (t := .boolean) Bd.returns (by simp) (hb hby d2_12) hr, hrun, hended, _, _, rfl, ⟨rfl, N0, e0⟩, ⟨_, rfl⟩, hW, hsame.mono (by decide) (by decide)⟩
theorem d3_0 : decode jdk_43_method_46_code 0 = .ok (.iconst 1, 1) := by decide +kernel
theorem d3_1 : decode jdk_43_method_46_code 1 = .ok (.newarray .byte, 2) := by decide +kernel
theorem d3_3 : decode jdk_43_method_46_code 3 = .ok (.dup, 1) := by decide +kernel
theorem d3_4 : decode jdk_43_method_46_code 4 = .ok (.iconst 0, 1) := by decide +kernel
theorem d3_5 : decode jdk_43_method_46_code 5 = .ok (.iload_n 0, 1) := by decide +kernel
theorem d3_6 : decode jdk_43_method_46_code 6 = .ok (.i2b, 1) := by decide +kernel
theorem d3_7 : decode jdk_43_method_46_code 7 = .ok (.bastore, 1) := by decide +kernel
theorem d3_8 : decode jdk_43_method_46_code 8 = .ok (.areturn, 1) := by decide +kernel
def Q_lat_bytes (Z : State) (p1 : Int32) (h0 : Heap) (n0 : Nat) (v : Option Value) (h : Heap) (L : List Loc) : Prop := v = some (.ref h0.size) ∧ Fr n0 L ∧ Keep h0 h [] ∧ Ary .byte Z h h0.size 1 (fun _ => p1.toInt8.toInt32)
set_option maxRecDepth 65536 in
set_option maxHeartbeats 40000000 in
theorem lat_bytes (l : Launch) (Z : State) (a0 : Array Value) (hw : ∀ d ∈ tables_1, d.before a0 Z = true) (ws : List Jvm.Cond) (p1 : Int32) (h0 : Heap) (n0 : Nat) (Z0 : n0 ≤ h0.size) :
    MetFree l (⟨"java/lang/StringLatin1", "toBytes", "(C)[B"⟩ : MethodName) (head1 (Jvm.Cond.code (⟨"java/lang/StringLatin1", "toBytes", "(C)[B"⟩ : MethodName) jdk_43_method_46_code 1 (some (.array .byte)) :: ws) ({ frames := 0, cells := 1, slots := 1, locals := 0 } : Room)) (fun a U => a = #[(.int p1)] ∧ Z.Warmed39 U.vm ∧ U.heap = h0) (fun _ _ _ _ _ => True) (fun _ U o U' => ∃ v L, o = .returned v ∧ Q_lat_bytes Z p1 h0 n0 v U'.heap L ∧ FrameEnd U o U' L ({ frames := 0, cells := 1, slots := 1, locals := 0 } : Room).cells ({ frames := 0, cells := 1, slots := 1, locals := 0 } : Room).slots) := by
  refine MetFree.of_bodySF (plainFor_of_name pn_1) hisR ?_
  intro p e s m args below meth c s₁ Bd hml0 hP hK
  obtain ⟨rfl, hZ, hh⟩ := hP
  have hx := Bd.exec
  have hby := Bd.bytes
  have hml : c.maxLocals = 1 := hml0
  have hown : s.vm.findClass "java/lang/StringLatin1" = some m.cls := findClass_of_methodNamed Bd.named
  have hnm := (name_of_methodNamed Bd.named Bd.method).1
  have X0 : Stand p l e ({ frames := 0, cells := 1, slots := 1, locals := 0 } : Room) s m #[(.int p1)] below meth c s₁ [] 0 0 := Stand.of_body Bd
  have e0 : s₁.heap = h0 := by rw [← hh, Bd.state]; rfl
  have N0 := Fr.nil n0
  have eF : entryFrame m #[(.int p1)] 1 = mkF m 0 #[.val (.int p1)] [] := by first | (simp [entryFrame, mkF, argsToLocals, Value.category]; done) | rfl
  show Ends p e below s ({ frames := 0, cells := 1, slots := 1, locals := 0 } : Room) (Q_lat_bytes Z p1 h0 n0) (s₁.setTop (entryFrame m #[(.int p1)] 1))
  rw [eF]
  refine Ends.of (F' := s₁.setTop (mkF m 1 #[.val (.int p1)] [(.int (1 : Int32))])) (fun _ kt => ?_) ?_
  · show Steps p.tables e below (s₁.setTop (mkF m 0 #[.val (.int p1)] [])) _
    refine XS.iconst X0.here hx rfl (hb hby d3_0) ?_
    exact kt
  obtain ⟨T5, h5, k5, X5, e5, E5, A5, st5⟩ := newP X0 hx hZ (hw _ (List.mem_of_getElem? (i := 14) rfl)) e0 (g := (mkF m 1 #[.val (.int p1)] [(.int (1 : Int32))])) rfl (hb hby d3_1) rfl (by decide) (cap := 1) (by decide) (by decide) (by decide) (by decide)
  obtain ⟨b5, g5⟩ : ∃ z, z = h0.size := ⟨_, rfl⟩
  rw [← g5] at A5 st5
  refine Ends.of st5 ?_
  have V0 : Ary .byte Z h5 b5 1 (fun _ => 0) := Ary.new (n := 1) A5 (by omega) rfl
  have gb : n0 ≤ b5 := Nat.le_trans Z0 (Nat.le_of_eq g5.symm)
  obtain ⟨cc, Ac, Sc, Hc, put⟩ := V0.op
  refine Ends.of (F' := T5.setTop (mkF m 7 #[.val (.int p1)] [(.int (p1.toInt8.toInt32)), (.int (0 : Int32)), (.ref b5), (.ref b5)])) (fun _ kt => ?_) ?_
  · show Steps p.tables e below (T5.setTop (mkF m 3 #[.val (.int p1)] [(.ref b5)])) _
    refine XS.dup X5.here hx rfl (hb hby d3_3) rfl rfl ?_
    show Steps p.tables e below (T5.setTop (mkF m 4 #[.val (.int p1)] [(.ref b5), (.ref b5)])) _
    refine XS.iconst X5.here hx rfl (hb hby d3_4) ?_
    show Steps p.tables e below (T5.setTop (mkF m 5 #[.val (.int p1)] [(.int (0 : Int32)), (.ref b5), (.ref b5)])) _
    refine XS.iloadN X5.here hx rfl (hb hby d3_5) rfl ?_
    show Steps p.tables e below (T5.setTop (mkF m 6 #[.val (.int p1)] [(.int p1), (.int (0 : Int32)), (.ref b5), (.ref b5)])) _
    refine XS.i2b X5.here hx rfl (hb hby d3_6) rfl ?_
    exact kt
  obtain ⟨T6, h6, X6, e6, W6, st6⟩ := stB X5 hx hZ e5 Ac (j := (0 : Int32)) (own_hin (i := 0) Sc rfl (by omega) (by omega)) (g := (mkF m 7 #[.val (.int p1)] [(.int (p1.toInt8.toInt32)), (.int (0 : Int32)), (.ref b5), (.ref b5)])) rfl rfl (hb hby d3_7)
  refine Ends.of st6 ?_
  have N6 := Fr.snoc X6 N0 gb
  rw [own_nar] at W6
  have V1 := (put _ _ _ 0 W6 rfl (by omega) (fits_nar_byte _)).congr (g := fun _ => p1.toInt8.toInt32) (fun i hi => if_pos (by omega))
  have K1 : Keep h0 h6 [] := ((Keep.refl h0 []).ext E5).wr W6 (Or.inr (Nat.le_of_eq g5.symm))
  rw [← e6] at V1 K1
  subst g5
  obtain ⟨fs, hr, hrun, hended, hW, hsame⟩ := X6.leave (v := some (.ref h0.size)) (fun h => by rw [Bd.returns] at h; cases h)
  refine ⟨_, _, ?_, hrun, hended, _, _, rfl, ⟨rfl, N6, K1, V1⟩, ⟨_, rfl⟩, hW, hsame.mono (by decide) (by decide)⟩
  show Steps p.tables e below (T6.setTop (mkF m 8 #[.val (.int p1)] [(.ref h0.size)])) _
  jvm_step X6.here [X6.here.top, hx, (hb hby d3_8), X6.method', Bd.returns, Value.isRef, FieldType.isReference]
  first | (intro acts; rw [hr _ acts rfl rfl rfl]) | rw [hr _ _ rfl rfl rfl]
  exact Steps.refl _
theorem d4_0 : decode jdk_42_method_151_code 0 = .ok (.aload_n 0, 1) := by decide +kernel
theorem d4_1 : decode jdk_42_method_151_code 1 = .ok (.invokespecial 1, 3) := by decide +kernel
theorem d4_4 : decode jdk_42_method_151_code 4 = .ok (.aload_n 0, 1) := by decide +kernel
theorem d4_5 : decode jdk_42_method_151_code 5 = .ok (.aload_n 1, 1) := by decide +kernel
theorem d4_6 : decode jdk_42_method_151_code 6 = .ok (.putfield 9, 3) := by decide +kernel
theorem d4_9 : decode jdk_42_method_151_code 9 = .ok (.aload_n 0, 1) := by decide +kernel
theorem d4_10 : decode jdk_42_method_151_code 10 = .ok (.iload_n 2, 1) := by decide +kernel
theorem d4_11 : decode jdk_42_method_151_code 11 = .ok (.putfield 15, 3) := by decide +kernel
theorem d4_14 : decode jdk_42_method_151_code 14 = .ok (.return_, 1) := by decide +kernel
def Q_str_initBB (Z : State) (a1 : Addr) (a2 : Addr) (h0 : Heap) (n0 : Nat) (v : Option Value) (h : Heap) (L : List Loc) : Prop := v = none ∧ Fr n0 L ∧ Keep h0 h [a1] ∧ Exa Z h a1 "java/lang/String" ∧ Fld Z h a1 "java/lang/String" "coder" "B" (.int (0 : Int32)) ∧ Fld Z h a1 "java/lang/String" "value" "[B" (.ref a2)
set_option maxRecDepth 65536 in
set_option maxHeartbeats 40000000 in
theorem str_initBB (l : Launch) (Z : State) (a0 : Array Value) (hw : ∀ d ∈ tables_1, d.before a0 Z = true) (ws : List Jvm.Cond) (a1 : Addr) (a2 : Addr) (h0 : Heap) (n0 : Nat) (Z0 : n0 ≤ h0.size) (E_a : Exa Z h0 a1 "java/lang/String") (F_v : Fld Z h0 a1 "java/lang/String" "value" "[B" .null) (F_c : Fld Z h0 a1 "java/lang/String" "coder" "B" (.int (0 : Int32))) (g_a : n0 ≤ a1) :
    MetFree l (⟨"java/lang/String", "<init>", "([BB)V"⟩ : MethodName) (head1 (Jvm.Cond.code (⟨"java/lang/String", "<init>", "([BB)V"⟩ : MethodName) jdk_42_method_151_code 3 none :: ws) ({ frames := 1, cells := 0, slots := 0, locals := 12 } : Room)) (fun a U => a = #[(.ref a1), (.ref a2), (.int (0 : Int32))] ∧ Z.Warmed39 U.vm ∧ U.heap = h0) (fun _ _ _ _ _ => True) (fun _ U o U' => ∃ v L, o = .returned v ∧ Q_str_initBB Z a1 a2 h0 n0 v U'.heap L ∧ FrameEnd U o U' L ({ frames := 1, cells := 0, slots := 0, locals := 12 } : Room).cells ({ frames := 1, cells := 0, slots := 0, locals := 12 } : Room).slots) := by
  refine MetFree.of_bodySF (plainFor_of_name pn_0) hisR ?_
  intro p e s m args below meth c s₁ Bd hml0 hP hK
  obtain ⟨rfl, hZ, hh⟩ := hP
  have hx := Bd.exec
  have hby := Bd.bytes
  have hml : c.maxLocals = 3 := hml0
  have hown : s.vm.findClass "java/lang/String" = some m.cls := findClass_of_methodNamed Bd.named
  have hnm := (name_of_methodNamed Bd.named Bd.method).1
  have X0 : Stand p l e ({ frames := 1, cells := 0, slots := 0, locals := 12 } : Room) s m #[(.ref a1), (.ref a2), (.int (0 : Int32))] below meth c s₁ [] 0 0 := Stand.of_body Bd
  have e0 : s₁.heap = h0 := by rw [← hh, Bd.state]; rfl
  have N0 := Fr.nil n0
  have eF : entryFrame m #[(.ref a1), (.ref a2), (.int (0 : Int32))] 3 = mkF m 0 #[.val (.ref a1), .val (.ref a2), .val (.int (0 : Int32))] [] := by first | (simp [entryFrame, mkF, argsToLocals, Value.category]; done) | rfl
  show Ends p e below s ({ frames := 1, cells := 0, slots := 0, locals := 12 } : Room) (Q_str_initBB Z a1 a2 h0 n0) (s₁.setTop (entryFrame m #[(.ref a1), (.ref a2), (.int (0 : Int32))] 3))
  rw [eF]
  refine Ends.of (F' := s₁.setTop (mkF m 1 #[.val (.ref a1), .val (.ref a2), .val (.int (0 : Int32))] [(.ref a1)])) (fun _ kt => ?_) ?_
  · show Steps p.tables e below (s₁.setTop (mkF m 0 #[.val (.ref a1), .val (.ref a2), .val (.int (0 : Int32))] [])) _
    refine XS.aloadN X0.here hx rfl (hb hby d4_0) rfl rfl ?_
    exact kt
  obtain ⟨T7, X7, e7, st7⟩ := initO X0 hx hZ hown (hw _ (List.mem_of_getElem? (i := 19) rfl)) (hw _ (List.mem_of_getElem? (i := 20) rfl)) (hw _ (List.mem_of_getElem? (i := 21) rfl)) e0 (g := (mkF m 1 #[.val (.ref a1), .val (.ref a2), .val (.int (0 : Int32))] [(.ref a1)])) rfl (by rw [hml]; rfl) rfl (hb hby d4_1) (by decide) (W := 0) (by show 2 * 0 + _ ≤ _; exact Nat.le_of_eq rfl) (by decide)
  refine Ends.of st7 ?_
  refine Ends.of (F' := T7.setTop (mkF m 6 #[.val (.ref a1), .val (.ref a2), .val (.int (0 : Int32))] [(.ref a2), (.ref a1)])) (fun _ kt => ?_) ?_
  · show Steps p.tables e below (T7.setTop (mkF m 4 #[.val (.ref a1), .val (.ref a2), .val (.int (0 : Int32))] [])) _
    refine XS.aloadN X7.here hx rfl (hb hby d4_4) rfl rfl ?_
    show Steps p.tables e below (T7.setTop (mkF m 5 #[.val (.ref a1), .val (.ref a2), .val (.int (0 : Int32))] [(.ref a1)])) _
    refine XS.aloadN X7.here hx rfl (hb hby d4_5) rfl rfl ?_
    exact kt
  obtain ⟨T8, h8, X8, e8, W8, st8⟩ := putF X7 hx hZ hown (host := "") (Or.inl (hw _ (List.mem_of_getElem? (i := 22) rfl))) Via.refl e7 F_v E_a (Or.inr ⟨(hw _ (List.mem_of_getElem? (i := 23) rfl)), rfl, hnm⟩) (hw _ (List.mem_of_getElem? (i := 10) rfl)) (ty := (.array .byte)) (by decide) rfl rfl (g := (mkF m 6 #[.val (.ref a1), .val (.ref a2), .val (.int (0 : Int32))] [(.ref a2), (.ref a1)])) rfl rfl (hb hby d4_6)
  refine Ends.of st8 ?_
  have N8 := Fr.snoc X8 N0 g_a
  have F_c1 := F_c.other W8 (Or.inr (slot_ne (Or.inr (hw _ (List.mem_of_getElem? (i := 25) rfl))) (Or.inr (hw _ (List.mem_of_getElem? (i := 23) rfl))) (by decide) (t := .byte) (t' := (.array .byte)) (by decide) (by decide)))
  have F_v1 := F_v.same W8
  have E_1 := E_a.wr W8
  have K_1 : Keep h0 h8 [a1] := (Keep.refl _ _).wr W8 (Or.inl (List.mem_of_getElem? (i := 0) rfl))
  refine Ends.of (F' := T8.setTop (mkF m 11 #[.val (.ref a1), .val (.ref a2), .val (.int (0 : Int32))] [(.int (0 : Int32)), (.ref a1)])) (fun _ kt => ?_) ?_
  · show Steps p.tables e below (T8.setTop (mkF m 9 #[.val (.ref a1), .val (.ref a2), .val (.int (0 : Int32))] [])) _
    refine XS.aloadN X8.here hx rfl (hb hby d4_9) rfl rfl ?_
    show Steps p.tables e below (T8.setTop (mkF m 10 #[.val (.ref a1), .val (.ref a2), .val (.int (0 : Int32))] [(.ref a1)])) _
    refine XS.iloadN X8.here hx rfl (hb hby d4_10) rfl ?_
    exact kt
  obtain ⟨T9, h9, X9, e9, W9, st9⟩ := putFN X8 hx hZ hown (hw _ (List.mem_of_getElem? (i := 24) rfl)) Via.refl e8 F_c1 E_1 (Or.inr ⟨(hw _ (List.mem_of_getElem? (i := 25) rfl)), rfl, hnm⟩) (hw _ (List.mem_of_getElem? (i := 10) rfl)) (ty := .byte) (v' := (.int (0 : Int32))) (by decide) rfl rfl (g := (mkF m 11 #[.val (.ref a1), .val (.ref a2), .val (.int (0 : Int32))] [(.int (0 : Int32)), (.ref a1)])) rfl rfl (hb hby d4_11)
  refine Ends.of st9 ?_
  have N9 := Fr.snoc X9 N8 g_a
  have F_v2 := F_v1.other W9 (Or.inr (slot_ne (Or.inr (hw _ (List.mem_of_getElem? (i := 23) rfl))) (Or.inr (hw _ (List.mem_of_getElem? (i := 25) rfl))) (by decide) (t := (.array .byte)) (t' := .byte) (by decide) (by decide)))
  have F_c2 := F_c1.same W9
  have E_2 := E_1.wr W9
  have K_2 : Keep h0 h9 [a1] := K_1.wr W9 (Or.inl (List.mem_of_getElem? (i := 0) rfl))
  rw [← e9] at F_v2 F_c2 E_2 K_2
  obtain ⟨fs, hr, hrun, hended, hW, hsame⟩ := X9.leave (v := none) (fun _ => rfl)
  exact ⟨_, _, X9.returnOut hx Bd.returns (hb hby d4_14) hr, hrun, hended, _, _, rfl, ⟨rfl, N9, K_2, E_2, F_c2, F_v2⟩, ⟨_, rfl⟩, hW, hsame.mono (by decide) (by decide)⟩
theorem d1_0 : decode jdk_42_method_139_code 0 = .ok (.getstatic 38, 3) := by decide +kernel
theorem d1_3 : decode jdk_42_method_139_code 3 = .ok (.ifCond .eq 23, 3) := by decide +kernel
theorem d1_6 : decode jdk_42_method_139_code 6 = .ok (.iload_n 0, 1) := by decide +kernel
theorem d1_7 : decode jdk_42_method_139_code 7 = .ok (.invokestatic 1015, 3) := by decide +kernel
theorem d1_10 : decode jdk_42_method_139_code 10 = .ok (.ifCond .eq 16, 3) := by decide +kernel
theorem d1_13 : decode jdk_42_method_139_code 13 = .ok (.new 10, 3) := by decide +kernel
theorem d1_16 : decode jdk_42_method_139_code 16 = .ok (.dup, 1) := by decide +kernel
theorem d1_17 : decode jdk_42_method_139_code 17 = .ok (.iload_n 0, 1) := by decide +kernel
theorem d1_18 : decode jdk_42_method_139_code 18 = .ok (.invokestatic 1018, 3) := by decide +kernel
theorem d1_21 : decode jdk_42_method_139_code 21 = .ok (.iconst 0, 1) := by decide +kernel
theorem d1_22 : decode jdk_42_method_139_code 22 = .ok (.invokespecial 209, 3) := by decide +kernel
theorem d1_25 : decode jdk_42_method_139_code 25 = .ok (.areturn, 1) := by decide +kernel
theorem d1_26 : decode jdk_42_method_139_code 26 = .ok (.new 10, 3) := by decide +kernel
theorem d1_29 : decode jdk_42_method_139_code 29 = .ok (.dup, 1) := by decide +kernel
theorem d1_30 : decode jdk_42_method_139_code 30 = .ok (.iload_n 0, 1) := by decide +kernel
theorem d1_31 : decode jdk_42_method_139_code 31 = .ok (.invokestatic 1021, 3) := by decide +kernel
theorem d1_34 : decode jdk_42_method_139_code 34 = .ok (.iconst 1, 1) := by decide +kernel
theorem d1_35 : decode jdk_42_method_139_code 35 = .ok (.invokespecial 209, 3) := by decide +kernel
theorem d1_38 : decode jdk_42_method_139_code 38 = .ok (.areturn, 1) := by decide +kernel
def Q_str_valC (Z : State) (p1 : Int32) (cs : Int32) (h0 : Heap) (n0 : Nat) (v : Option Value) (h : Heap) (L : List Loc) : Prop := ∃ b : Addr, v = some (.ref h0.size) ∧ Fr n0 L ∧ Keep h0 h [] ∧ Str Z h h0.size b 1 (fun _ => p1.toInt8.toInt32)
set_option maxRecDepth 65536 in
set_option maxHeartbeats 40000000 in
theorem str_valC (l : Launch) (Z : State) (a0 : Array Value) (hw : ∀ d ∈ tables_1, d.before a0 Z = true) (ws : List Jvm.Cond) (p1 : Int32) (cs : Int32) (h0 : Heap) (n0 : Nat) (Z0 : n0 ≤ h0.size) (S0 : Sta Z Z.heap "java/lang/String" "COMPACT_STRINGS" "Z" (.int cs)) (hcs : ¬ cs = (0 : Int32)) (O : Oll Z n0 h0) (hp : ¬ (255 : Int32) < p1) :
    MetFree l (⟨"java/lang/String", "valueOf", "(C)Ljava/lang/String;"⟩ : MethodName) (head1 (Jvm.Cond.code (⟨"java/lang/String", "valueOf", "(C)Ljava/lang/String;"⟩ : MethodName) jdk_42_method_139_code 1 (some (.object "java/lang/String")) :: ws) ({ frames := 2, cells := 2, slots := 5, locals := 27 } : Room)) (fun a U => a = #[(.int p1)] ∧ Z.Warmed39 U.vm ∧ U.heap = h0) (fun _ _ _ _ _ => True) (fun _ U o U' => ∃ v L, o = .returned v ∧ Q_str_valC Z p1 cs h0 n0 v U'.heap L ∧ FrameEnd U o U' L ({ frames := 2, cells := 2, slots := 5, locals := 27 } : Room).cells ({ frames := 2, cells := 2, slots := 5, locals := 27 } : Room).slots) := by
  refine MetFree.of_bodySF (plainFor_of_name pn_0) hisR ?_
  intro p e s m args below meth c s₁ Bd hml0 hP hK
  obtain ⟨rfl, hZ, hh⟩ := hP
  have hx := Bd.exec
  have hby := Bd.bytes
  have hml : c.maxLocals = 1 := hml0
  have hown : s.vm.findClass "java/lang/String" = some m.cls := findClass_of_methodNamed Bd.named
  have hnm := (name_of_methodNamed Bd.named Bd.method).1
  have X0 : Stand p l e ({ frames := 2, cells := 2, slots := 5, locals := 27 } : Room) s m #[(.int p1)] below meth c s₁ [] 0 0 := Stand.of_body Bd
  have e0 : s₁.heap = h0 := by rw [← hh, Bd.state]; rfl
  have N0 := Fr.nil n0
  have eF : entryFrame m #[(.int p1)] 1 = mkF m 0 #[.val (.int p1)] [] := by first | (simp [entryFrame, mkF, argsToLocals, Value.category]; done) | rfl
  show Ends p e below s ({ frames := 2, cells := 2, slots := 5, locals := 27 } : Room) (Q_str_valC Z p1 cs h0 n0) (s₁.setTop (entryFrame m #[(.int p1)] 1))
  rw [eF]
  obtain ⟨T10, X10, e10, st10⟩ := getS2 X0 hx hZ hown (host := "") (Or.inl (hw _ (List.mem_of_getElem? (i := 4) rfl))) Via.refl e0 (S0.ext O.2) (g := (mkF m 0 #[.val (.int p1)] [])) rfl (hb hby d1_0)
  refine Ends.of st10 ?_
  refine Ends.of (F' := T10.setTop (mkF m 7 #[.val (.int p1)] [(.int p1)])) (fun _ kt => ?_) ?_
  · show Steps p.tables e below (T10.setTop (mkF m 3 #[.val (.int p1)] [(.int cs)])) _
    refine XS.ifNo X10.here hx rfl (hb hby d1_3) rfl ((if0 _ _).trans (feq hcs).1) ?_
    show Steps p.tables e below (T10.setTop (mkF m 6 #[.val (.int p1)] [])) _
    refine XS.iloadN X10.here hx rfl (hb hby d1_6) rfl ?_
    exact kt
  obtain ⟨_, _, ⟨T11, L11, k11, n11⟩, -, X11, ⟨Lc11, hQ11, l11, y11, z11⟩, st11⟩ := Jvm.LawKit.callS X10 hx (y := (⟨"java/lang/StringLatin1", "canEncode", "(C)Z"⟩ : MethodName)) hown (mvT hZ (hw _ (List.mem_of_getElem? (i := 5) rfl))) (mvT hZ (hw _ (List.mem_of_getElem? (i := 6) rfl))) (mvT hZ (hw _ (List.mem_of_getElem? (i := 7) rfl))) (mvT hZ (hw _ (List.mem_of_getElem? (i := 8) rfl))) (by decide) (backOf (W := 0) (lat_can l Z a0 hw [] p1 h0 n0 Z0 hp) hZ (hw _ (List.mem_of_getElem? (i := 8) rfl)) (hw _ (List.mem_of_getElem? (i := 7) rfl)) (by decide) (by decide)) (g := (mkF m 7 #[.val (.int p1)] [(.int p1)])) rfl (by rw [hml]; rfl) (argsL := [(.int p1)]) (rest := []) (lenOf pd_1 rfl) rfl (by show 2 * 0 + _ ≤ _; exact Nat.le_of_eq rfl) (hb hby d1_7) (fun _ _ => ⟨rfl, e10, (by decide : 0 + 0 ≤ _), (by decide : 0 + 0 ≤ _)⟩)
  dsimp only [Pt.U, Pt.locs, Pt.cells, Pt.slots] at X11 l11 y11 z11 st11 hQ11
  subst l11 y11 z11
  obtain ⟨rfl, N11q, e11⟩ := hQ11
  have N11 := Fr.app N0 N11q
  refine Ends.of st11 ?_
  refine Ends.of (F' := T11.setTop (mkF m 13 #[.val (.int p1)] [])) (fun _ kt => ?_) ?_
  · show Steps p.tables e below (T11.setTop (mkF m 10 #[.val (.int p1)] [(.int (1 : Int32))])) _
    refine XS.ifNo X11.here hx rfl (hb hby d1_10) rfl ((if0 _ _).trans (feq (by decide)).1) ?_
    exact kt
  obtain ⟨T12, h12, X12, e12, E12, A12, D12, -, st12⟩ := newO X11 hx hZ hown (hw _ (List.mem_of_getElem? (i := 9) rfl)) (hw _ (List.mem_of_getElem? (i := 10) rfl)) (hw _ (List.mem_of_getElem? (i := 2) rfl)) e11 (g := (mkF m 13 #[.val (.int p1)] [])) rfl (hb hby d1_13) (by decide) (by decide)
  obtain ⟨b12, g12⟩ : ∃ z, z = h0.size := ⟨_, rfl⟩
  rw [← g12] at A12 D12 st12
  have F_value_b12 : Fld Z h12 b12 "java/lang/String" "value" "[B" .null := D12 (Or.inr (hw _ (List.mem_of_getElem? (i := 23) rfl))) (ty := (.array .byte)) (by decide)
  have F_coder_b12 : Fld Z h12 b12 "java/lang/String" "coder" "B" (.int (0 : Int32)) := D12 (Or.inr (hw _ (List.mem_of_getElem? (i := 25) rfl))) (ty := .byte) (by decide)
  refine Ends.of st12 ?_
  have Z1 : n0 ≤ h12.size := Nat.le_trans Z0 E12.1
  have gb : n0 ≤ b12 := Nat.le_trans Z0 (Nat.le_of_eq g12.symm)
  refine Ends.of (F' := T12.setTop (mkF m 18 #[.val (.int p1)] [(.int p1), (.ref b12), (.ref b12)])) (fun _ kt => ?_) ?_
  · show Steps p.tables e below (T12.setTop (mkF m 16 #[.val (.int p1)] [(.ref b12)])) _
    refine XS.dup X12.here hx rfl (hb hby d1_16) rfl rfl ?_
    show Steps p.tables e below (T12.setTop (mkF m 17 #[.val (.int p1)] [(.ref b12), (.ref b12)])) _
    refine XS.iloadN X12.here hx rfl (hb hby d1_17) rfl ?_
    exact kt
  obtain ⟨_, _, ⟨T13, L13, k13, n13⟩, -, X13, ⟨Lc13, hQ13, l13, y13, z13⟩, st13⟩ := Jvm.LawKit.callS X12 hx (y := (⟨"java/lang/StringLatin1", "toBytes", "(C)[B"⟩ : MethodName)) hown (mvT hZ (hw _ (List.mem_of_getElem? (i := 11) rfl))) (mvT hZ (hw _ (List.mem_of_getElem? (i := 12) rfl))) (mvT hZ (hw _ (List.mem_of_getElem? (i := 7) rfl))) (mvT hZ (hw _ (List.mem_of_getElem? (i := 13) rfl))) (by decide) (backOf (W := 2) (lat_bytes l Z a0 hw [] p1 h12 n0 Z1) hZ (hw _ (List.mem_of_getElem? (i := 13) rfl)) (hw _ (List.mem_of_getElem? (i := 7) rfl)) (by decide) (by decide)) (g := (mkF m 18 #[.val (.int p1)] [(.int p1), (.ref b12), (.ref b12)])) rfl (by rw [hml]; rfl) (argsL := [(.int p1)]) (rest := [(.ref b12), (.ref b12)]) (lenOf pd_2 rfl) rfl (by show 2 * 0 + _ ≤ _; exact Nat.le_of_eq rfl) (hb hby d1_18) (fun _ _ => ⟨rfl, e12, (by decide : 1 + 1 ≤ _), (by decide : 4 + 1 ≤ _)⟩)
  dsimp only [Pt.U, Pt.locs, Pt.cells, Pt.slots] at X13 l13 y13 z13 st13 hQ13
  subst l13 y13 z13
  obtain ⟨rfl, N13q, K13, V13⟩ := hQ13
  have N13 := Fr.app N11 N13q
  refine Ends.of st13 ?_
  have Z2 : n0 ≤ T13.heap.size := Nat.le_trans Z1 K13.1
  refine Ends.of (F' := T13.setTop (mkF m 22 #[.val (.int p1)] [(.int (0 : Int32)), (.ref h12.size), (.ref b12), (.ref b12)])) (fun _ kt => ?_) ?_
  · show Steps p.tables e below (T13.setTop (mkF m 21 #[.val (.int p1)] [(.ref h12.size), (.ref b12), (.ref b12)])) _
    refine XS.iconst X13.here hx rfl (hb hby d1_21) ?_
    exact kt
  obtain ⟨_, _, ⟨T14, L14, k14, n14⟩, -, X14, ⟨Lc14, hQ14, l14, y14, z14⟩, st14⟩ := X13.specialBack hx (y := (⟨"java/lang/String", "<init>", "([BB)V"⟩ : MethodName)) rfl hown (mvT hZ (hw _ (List.mem_of_getElem? (i := 15) rfl))) (mvT hZ (hw _ (List.mem_of_getElem? (i := 16) rfl))) (mvT hZ (hw _ (List.mem_of_getElem? (i := 18) rfl))) (by decide) (backOf (W := 1) (str_initBB l Z a0 hw [] b12 h12.size T13.heap n0 Z2 (A12.keep K13) (F_value_b12.keep K13 nin0) (F_coder_b12.keep K13 nin0) gb) hZ (hw _ (List.mem_of_getElem? (i := 18) rfl)) (hw _ (List.mem_of_getElem? (i := 2) rfl)) (by decide) (by decide)) (g := (mkF m 22 #[.val (.int p1)] [(.int (0 : Int32)), (.ref h12.size), (.ref b12), (.ref b12)])) rfl (by rw [hml]; rfl) (Steps.refl _) (a := b12) (argsL := [(.ref h12.size), (.int (0 : Int32))]) (rest := [(.ref b12)]) (lenOf pd_3 rfl) rfl (by show 2 * 0 + _ ≤ _; exact Nat.le_of_eq rfl) (hb hby d1_22) (fun _ _ => ⟨rfl, rfl, (by decide : 2 + 0 ≤ _), (by decide : 5 + 0 ≤ _)⟩)
  dsimp only [Pt.U, Pt.locs, Pt.cells, Pt.slots] at X14 l14 y14 z14 st14 hQ14
  subst l14 y14 z14
  obtain ⟨rfl, N14q, K14, Ex14, Fc14, Fv14⟩ := hQ14
  have N14 := Fr.app N13 N14q
  refine Ends.st st14 ?_
  have nb : h12.size ∉ [b12] := ninS (Ne.symm (Nat.ne_of_lt A12.lt)) nin0
  have V9 := V13.keep K14 nb
  have K9 : Keep h0 T14.heap [] := (((Keep.refl h0 []).ext E12).trans K13 all0).trans K14 (allS (Or.inr (Nat.le_of_eq g12.symm)) all0)
  subst g12
  obtain ⟨fs, hr, hrun, hended, hW, hsame⟩ := X14.leave (v := some (.ref h0.size)) (fun h => by rw [Bd.returns] at h; cases h)
  refine ⟨_, _, ?_, hrun, hended, _, _, rfl, ⟨_, rfl, N14, K9, Ex14, Fc14, Fv14, V9⟩, ⟨_, rfl⟩, hW, hsame.mono (by decide) (by decide)⟩
  show Steps p.tables e below (T14.setTop (mkF m 25 #[.val (.int p1)] [(.ref h0.size)])) _
  jvm_step X14.here [X14.here.top, hx, (hb hby d1_25), X14.method', Bd.returns, Value.isRef, FieldType.isReference]
  first | (intro acts; rw [hr _ acts rfl rfl rfl]) | rw [hr _ _ rfl rfl rfl]
  exact Steps.refl _
theorem d9_0 : decode jdk_52_method_21_code 0 = .ok (.iconst 0, 1) := by decide +kernel
theorem d9_1 : decode jdk_52_method_21_code 1 = .ok (.istore 5, 2) := by decide +kernel
theorem d9_3 : decode jdk_52_method_21_code 3 = .ok (.iload 5, 2) := by decide +kernel
theorem d9_5 : decode jdk_52_method_21_code 5 = .ok (.iload 4, 2) := by decide +kernel
theorem d9_7 : decode jdk_52_method_21_code 7 = .ok (.if_icmp .ge 37, 3) := by decide +kernel
theorem d9_10 : decode jdk_52_method_21_code 10 = .ok (.aload_n 0, 1) := by decide +kernel
theorem d9_11 : decode jdk_52_method_21_code 11 = .ok (.iload_n 1, 1) := by decide +kernel
theorem d9_12 : decode jdk_52_method_21_code 12 = .ok (.caload, 1) := by decide +kernel
theorem d9_13 : decode jdk_52_method_21_code 13 = .ok (.istore 6, 2) := by decide +kernel
theorem d9_15 : decode jdk_52_method_21_code 15 = .ok (.iload 6, 2) := by decide +kernel
theorem d9_17 : decode jdk_52_method_21_code 17 = .ok (.sipush 255, 3) := by decide +kernel
theorem d9_20 : decode jdk_52_method_21_code 20 = .ok (.if_icmp .le 6, 3) := by decide +kernel
theorem d9_23 : decode jdk_52_method_21_code 23 = .ok (.iload 5, 2) := by decide +kernel
theorem d9_25 : decode jdk_52_method_21_code 25 = .ok (.ireturn, 1) := by decide +kernel
theorem d9_26 : decode jdk_52_method_21_code 26 = .ok (.aload_n 2, 1) := by decide +kernel
theorem d9_27 : decode jdk_52_method_21_code 27 = .ok (.iload_n 3, 1) := by decide +kernel
theorem d9_28 : decode jdk_52_method_21_code 28 = .ok (.iload 6, 2) := by decide +kernel
theorem d9_30 : decode jdk_52_method_21_code 30 = .ok (.i2b, 1) := by decide +kernel
theorem d9_31 : decode jdk_52_method_21_code 31 = .ok (.bastore, 1) := by decide +kernel
theorem d9_32 : decode jdk_52_method_21_code 32 = .ok (.iinc 1 1, 3) := by decide +kernel
theorem d9_35 : decode jdk_52_method_21_code 35 = .ok (.iinc 3 1, 3) := by decide +kernel
theorem d9_38 : decode jdk_52_method_21_code 38 = .ok (.iinc 5 1, 3) := by decide +kernel
theorem d9_41 : decode jdk_52_method_21_code 41 = .ok (.goto (-38), 3) := by decide +kernel
theorem d9_44 : decode jdk_52_method_21_code 44 = .ok (.iload 4, 2) := by decide +kernel
theorem d9_46 : decode jdk_52_method_21_code 46 = .ok (.ireturn, 1) := by decide +kernel
theorem pn_2 : plainName "java/lang/StringUTF16" = true := by first | (simp [plainName, overriddenIn]; done) | decide +kernel
def Q_u16_comp5 (Z : State) (a1 : Addr) (a3 : Addr) (n : Nat) (f : Nat → Int32) (g : Nat → Int32) (h0 : Heap) (n0 : Nat) (v : Option Value) (h : Heap) (L : List Loc) : Prop := v = some (.int (Int32.ofNat n)) ∧ Fr n0 L ∧ Keep h0 h [a3] ∧ Ary .byte Z h a3 n (fun i => (f i).toInt8.toInt32)
set_option maxRecDepth 65536 in
set_option maxHeartbeats 40000000 in
theorem u16_comp5 (l : Launch) (Z : State) (a0 : Array Value) (hw : ∀ d ∈ tables_1, d.before a0 Z = true) (ws : List Jvm.Cond) (a1 : Addr) (a3 : Addr) (n : Nat) (f : Nat → Int32) (g : Nat → Int32) (h0 : Heap) (n0 : Nat) (Z0 : n0 ≤ h0.size) (C : Ary .char Z h0 a1 n f) (D : Ary .byte Z h0 a3 n g) (ne : a1 ≠ a3) (hf : ∀ i, i < n → ¬ (255 : Int32) < f i) (g_3 : n0 ≤ a3) :
    MetFree l (⟨"java/lang/StringUTF16", "compress", "([CI[BII)I"⟩ : MethodName) (head1 (Jvm.Cond.code (⟨"java/lang/StringUTF16", "compress", "([CI[BII)I"⟩ : MethodName) jdk_52_method_21_code 7 (some .int) :: ws) ({ frames := 0, cells := 0, slots := 0, locals := 0 } : Room)) (fun a U => a = #[(.ref a1), (.int (0 : Int32)), (.ref a3), (.int (0 : Int32)), (.int (Int32.ofNat n))] ∧ Z.Warmed39 U.vm ∧ U.heap = h0) (fun _ _ _ _ _ => True) (fun _ U o U' => ∃ v L, o = .returned v ∧ Q_u16_comp5 Z a1 a3 n f g h0 n0 v U'.heap L ∧ FrameEnd U o U' L ({ frames := 0, cells := 0, slots := 0, locals := 0 } : Room).cells ({ frames := 0, cells := 0, slots := 0, locals := 0 } : Room).slots) := by
  refine MetFree.of_bodySF (plainFor_of_name pn_2) hisR ?_
  intro p e s m args below meth c s₁ Bd hml0 hP hK
  obtain ⟨rfl, hZ, hh⟩ := hP
  have hx := Bd.exec
  have hby := Bd.bytes
  have hml : c.maxLocals = 7 := hml0
  have hown : s.vm.findClass "java/lang/StringUTF16" = some m.cls := findClass_of_methodNamed Bd.named
  have hnm := (name_of_methodNamed Bd.named Bd.method).1
  have X0 : Stand p l e ({ frames := 0, cells := 0, slots := 0, locals := 0 } : Room) s m #[(.ref a1), (.int (0 : Int32)), (.ref a3), (.int (0 : Int32)), (.int (Int32.ofNat n))] below meth c s₁ [] 0 0 := Stand.of_body Bd
  have e0 : s₁.heap = h0 := by rw [← hh, Bd.state]; rfl
  have N0 := Fr.nil n0
  have eF : entryFrame m #[(.ref a1), (.int (0 : Int32)), (.ref a3), (.int (0 : Int32)), (.int (Int32.ofNat n))] 7 = mkF m 0 #[.val (.ref a1), .val (.int (0 : Int32)), .val (.ref a3), .val (.int (0 : Int32)), .val (.int (Int32.ofNat n)), .unset, .unset] [] := by first | (simp [entryFrame, mkF, argsToLocals, Value.category]; done) | rfl
  show Ends p e below s ({ frames := 0, cells := 0, slots := 0, locals := 0 } : Room) (Q_u16_comp5 Z a1 a3 n f g h0 n0) (s₁.setTop (entryFrame m #[(.ref a1), (.int (0 : Int32)), (.ref a3), (.int (0 : Int32)), (.int (Int32.ofNat n))] 7))
  rw [eF]
  have hn : n ≤ 100000 := C.1
  have loop : ∀ (d i : Nat) (Tb : State) (lb : List Loc) (hB : Heap) (s6 : Slot), i + d = n → One s6 → Stand p l e ({ frames := 0, cells := 0, slots := 0, locals := 0 } : Room) s m #[(.ref a1), (.int (0 : Int32)), (.ref a3), (.int (0 : Int32)), (.int (Int32.ofNat n))] below meth c Tb lb 0 0 → Tb.heap = hB → Fr n0 lb → Keep h0 hB [a3] → Ary .char Z hB a1 n f → Ary .byte Z hB a3 n (fun j => if j < i then (f j).toInt8.toInt32 else g j) → Ends p e below s ({ frames := 0, cells := 0, slots := 0, locals := 0 } : Room) (Q_u16_comp5 Z a1 a3 n f g h0 n0) (Tb.setTop (mkF m 3 #[.val (.ref a1), .val (.int (Int32.ofNat i)), .val (.ref a3), .val (.int (Int32.ofNat i)), .val (.int (Int32.ofNat n)), .val (.int (Int32.ofNat i)), s6] [])) := by
    intro d
    induction d with
    | zero =>
      intro i Tb lb hB s6 hi hs6 Xb eb Nb Kb Cb Db
      have D1 := Db.congr (g := (fun i => (f i).toInt8.toInt32)) (fun j hj => if_pos (by omega))
      rw [← eb] at D1 Kb
      refine Ends.of (F' := Tb.setTop (mkF m 46 #[.val (.ref a1), .val (.int (Int32.ofNat i)), .val (.ref a3), .val (.int (Int32.ofNat i)), .val (.int (Int32.ofNat n)), .val (.int (Int32.ofNat i)), s6] [(.int (Int32.ofNat n))])) (fun _ kt => ?_) ?_
      · show Steps p.tables e below (Tb.setTop (mkF m 3 #[.val (.ref a1), .val (.int (Int32.ofNat i)), .val (.ref a3), .val (.int (Int32.ofNat i)), .val (.int (Int32.ofNat n)), .val (.int (Int32.ofNat i)), s6] [])) _
        refine XS.iload Xb.here hx rfl (hb hby d9_3) rfl ?_
        show Steps p.tables e below (Tb.setTop (mkF m 5 #[.val (.ref a1), .val (.int (Int32.ofNat i)), .val (.ref a3), .val (.int (Int32.ofNat i)), .val (.int (Int32.ofNat n)), .val (.int (Int32.ofNat i)), s6] [(.int (Int32.ofNat i))])) _
        refine XS.iload Xb.here hx rfl (hb hby d9_5) rfl ?_
        show Steps p.tables e below (Tb.setTop (mkF m 7 #[.val (.ref a1), .val (.int (Int32.ofNat i)), .val (.ref a3), .val (.int (Int32.ofNat i)), .val (.int (Int32.ofNat n)), .val (.int (Int32.ofNat i)), s6] [(.int (Int32.ofNat n)), (.int (Int32.ofNat i))])) _
        refine XS.icmpYes Xb.here hx rfl (pc0 := 7) (pc' := 44) rfl (hb hby d9_7) rfl (flt (mt (own_ltN i n (by omega) (by omega)).mp (by omega))).2.1 (by decide) (by decide) ?_
        show Steps p.tables e below (Tb.setTop (mkF m 44 #[.val (.ref a1), .val (.int (Int32.ofNat i)), .val (.ref a3), .val (.int (Int32.ofNat i)), .val (.int (Int32.ofNat n)), .val (.int (Int32.ofNat i)), s6] [])) _
        refine XS.iload Xb.here hx rfl (hb hby d9_44) rfl ?_
        exact kt
      obtain ⟨fs, hr, hrun, hended, hW, hsame⟩ := Xb.leave (v := some (.int (Int32.ofNat n))) (fun h => by rw [Bd.returns] at h; cases h)
      exact ⟨_, _, retI Xb hx Bd.returns (hb hby d9_46) hr, hrun, hended, _, _, rfl, ⟨rfl, Nb, Kb, D1⟩, ⟨_, rfl⟩, hW, hsame.mono (by decide) (by decide)⟩
    | succ d ih =>
      intro i Tb lb hB s6 hi hs6 Xb eb Nb Kb Cb Db
      obtain ⟨cc, Ac, Sc, Hc, -⟩ := Cb.op
      obtain ⟨cd, Ad, Sd, Hd, put⟩ := Db.op
      refine Ends.of (F' := Tb.setTop (mkF m 31 #[.val (.ref a1), .val (.int (Int32.ofNat i)), .val (.ref a3), .val (.int (Int32.ofNat i)), .val (.int (Int32.ofNat n)), .val (.int (Int32.ofNat i)), .val (.int (f i))] [(.int ((f i).toInt8.toInt32)), (.int (Int32.ofNat i)), (.ref a3)])) (fun _ kt => ?_) ?_
      · show Steps p.tables e below (Tb.setTop (mkF m 3 #[.val (.ref a1), .val (.int (Int32.ofNat i)), .val (.ref a3), .val (.int (Int32.ofNat i)), .val (.int (Int32.ofNat n)), .val (.int (Int32.ofNat i)), s6] [])) _
        refine XS.iload Xb.here hx rfl (hb hby d9_3) rfl ?_
        show Steps p.tables e below (Tb.setTop (mkF m 5 #[.val (.ref a1), .val (.int (Int32.ofNat i)), .val (.ref a3), .val (.int (Int32.ofNat i)), .val (.int (Int32.ofNat n)), .val (.int (Int32.ofNat i)), s6] [(.int (Int32.ofNat i))])) _
        refine XS.iload Xb.here hx rfl (hb hby d9_5) rfl ?_
        show Steps p.tables e below (Tb.setTop (mkF m 7 #[.val (.ref a1), .val (.int (Int32.ofNat i)), .val (.ref a3), .val (.int (Int32.ofNat i)), .val (.int (Int32.ofNat n)), .val (.int (Int32.ofNat i)), s6] [(.int (Int32.ofNat n)), (.int (Int32.ofNat i))])) _
        refine XS.icmpNo Xb.here hx rfl (hb hby d9_7) rfl (tlt ((own_ltN i n (by omega) (by omega)).mpr (by omega))).2.1 ?_
        show Steps p.tables e below (Tb.setTop (mkF m 10 #[.val (.ref a1), .val (.int (Int32.ofNat i)), .val (.ref a3), .val (.int (Int32.ofNat i)), .val (.int (Int32.ofNat n)), .val (.int (Int32.ofNat i)), s6] [])) _
        refine XS.aloadN Xb.here hx rfl (hb hby d9_10) rfl rfl ?_
        show Steps p.tables e below (Tb.setTop (mkF m 11 #[.val (.ref a1), .val (.int (Int32.ofNat i)), .val (.ref a3), .val (.int (Int32.ofNat i)), .val (.int (Int32.ofNat n)), .val (.int (Int32.ofNat i)), s6] [(.ref a1)])) _
        refine XS.iloadN Xb.here hx rfl (hb hby d9_11) rfl ?_
        show Steps p.tables e below (Tb.setTop (mkF m 12 #[.val (.ref a1), .val (.int (Int32.ofNat i)), .val (.ref a3), .val (.int (Int32.ofNat i)), .val (.int (Int32.ofNat n)), .val (.int (Int32.ofNat i)), s6] [(.int (Int32.ofNat i)), (.ref a1)])) _
        refine Xb.caload hx (j := (Int32.ofNat i)) (v := (.int (f i))) (by rw [eb]; exact Ac.1) (State.isArrayOf_alike hZ.alike Ac.2.1) Ac.2.2 (own_hin Sc rfl (by omega) (by omega)) (own_hat Hc rfl (by omega) (by omega)) (g := (mkF m 12 #[.val (.ref a1), .val (.int (Int32.ofNat i)), .val (.ref a3), .val (.int (Int32.ofNat i)), .val (.int (Int32.ofNat n)), .val (.int (Int32.ofNat i)), s6] [(.int (Int32.ofNat i)), (.ref a1)])) rfl rfl (hb hby d9_12) _ ?_
        show Steps p.tables e below (Tb.setTop (mkF m 13 #[.val (.ref a1), .val (.int (Int32.ofNat i)), .val (.ref a3), .val (.int (Int32.ofNat i)), .val (.int (Int32.ofNat n)), .val (.int (Int32.ofNat i)), s6] [(.int (f i))])) _
        refine XS.istore Xb.here hx rfl (hb hby d9_13) rfl (l' := #[.val (.ref a1), .val (.int (Int32.ofNat i)), .val (.ref a3), .val (.int (Int32.ofNat i)), .val (.int (Int32.ofNat n)), .val (.int (Int32.ofNat i)), .val (.int (f i))]) (XS.store1 rfl hs6 rfl) ?_
        show Steps p.tables e below (Tb.setTop (mkF m 15 #[.val (.ref a1), .val (.int (Int32.ofNat i)), .val (.ref a3), .val (.int (Int32.ofNat i)), .val (.int (Int32.ofNat n)), .val (.int (Int32.ofNat i)), .val (.int (f i))] [])) _
        refine XS.iload Xb.here hx rfl (hb hby d9_15) rfl ?_
        show Steps p.tables e below (Tb.setTop (mkF m 17 #[.val (.ref a1), .val (.int (Int32.ofNat i)), .val (.ref a3), .val (.int (Int32.ofNat i)), .val (.int (Int32.ofNat n)), .val (.int (Int32.ofNat i)), .val (.int (f i))] [(.int (f i))])) _
        refine XS.sipush Xb.here hx rfl (hb hby d9_17) ?_
        show Steps p.tables e below (Tb.setTop (mkF m 20 #[.val (.ref a1), .val (.int (Int32.ofNat i)), .val (.ref a3), .val (.int (Int32.ofNat i)), .val (.int (Int32.ofNat n)), .val (.int (Int32.ofNat i)), .val (.int (f i))] [(.int (255 : Int32)), (.int (f i))])) _
        refine XS.icmpYes Xb.here hx rfl (pc0 := 20) (pc' := 26) rfl (hb hby d9_20) rfl (flt (hf i (by omega))).2.2.2 (by decide) (by decide) ?_
        show Steps p.tables e below (Tb.setTop (mkF m 26 #[.val (.ref a1), .val (.int (Int32.ofNat i)), .val (.ref a3), .val (.int (Int32.ofNat i)), .val (.int (Int32.ofNat n)), .val (.int (Int32.ofNat i)), .val (.int (f i))] [])) _
        refine XS.aloadN Xb.here hx rfl (hb hby d9_26) rfl rfl ?_
        show Steps p.tables e below (Tb.setTop (mkF m 27 #[.val (.ref a1), .val (.int (Int32.ofNat i)), .val (.ref a3), .val (.int (Int32.ofNat i)), .val (.int (Int32.ofNat n)), .val (.int (Int32.ofNat i)), .val (.int (f i))] [(.ref a3)])) _
        refine XS.iloadN Xb.here hx rfl (hb hby d9_27) rfl ?_
        show Steps p.tables e below (Tb.setTop (mkF m 28 #[.val (.ref a1), .val (.int (Int32.ofNat i)), .val (.ref a3), .val (.int (Int32.ofNat i)), .val (.int (Int32.ofNat n)), .val (.int (Int32.ofNat i)), .val (.int (f i))] [(.int (Int32.ofNat i)), (.ref a3)])) _
        refine XS.iload Xb.here hx rfl (hb hby d9_28) rfl ?_
        show Steps p.tables e below (Tb.setTop (mkF m 30 #[.val (.ref a1), .val (.int (Int32.ofNat i)), .val (.ref a3), .val (.int (Int32.ofNat i)), .val (.int (Int32.ofNat n)), .val (.int (Int32.ofNat i)), .val (.int (f i))] [(.int (f i)), (.int (Int32.ofNat i)), (.ref a3)])) _
        refine XS.i2b Xb.here hx rfl (hb hby d9_30) rfl ?_
        exact kt
      obtain ⟨T15, h15, X15, e15, W15, st15⟩ := stB Xb hx hZ eb Ad (j := (Int32.ofNat i)) (own_hin Sd rfl (by omega) (by omega)) (g := (mkF m 31 #[.val (.ref a1), .val (.int (Int32.ofNat i)), .val (.ref a3), .val (.int (Int32.ofNat i)), .val (.int (Int32.ofNat n)), .val (.int (Int32.ofNat i)), .val (.int (f i))] [(.int ((f i).toInt8.toInt32)), (.int (Int32.ofNat i)), (.ref a3)])) rfl rfl (hb hby d9_31)
      refine Ends.of st15 ?_
      have N15 := Fr.snoc X15 Nb g_3
      rw [own_nar] at W15
      have D1 := (put _ _ _ i W15 (own_clamp (by omega)) (by omega) (fits_nar_byte _)).congr (g := fun j => if j < i + 1 then (f j).toInt8.toInt32 else g j) (fun j hj => by
        by_cases e1 : j = i
        · rw [if_pos e1, if_pos (by omega), e1]
        · rw [if_neg e1]
          by_cases e2 : j < i
          · rw [if_pos e2, if_pos (by omega)]
          · rw [if_neg e2, if_neg (by omega)])
      have C1 := Cb.other W15 ne
      have K1 : Keep h0 h15 [a3] := Kb.wr W15 (Or.inl (List.mem_of_getElem? (i := 0) rfl))
      refine Ends.of (F' := T15.setTop (mkF m 3 #[.val (.ref a1), .val (.int ((Int32.ofNat i) + (1 : Int32))), .val (.ref a3), .val (.int ((Int32.ofNat i) + (1 : Int32))), .val (.int (Int32.ofNat n)), .val (.int ((Int32.ofNat i) + (1 : Int32))), .val (.int (f i))] [])) (fun _ kt => ?_) ?_
      · show Steps p.tables e below (T15.setTop (mkF m 32 #[.val (.ref a1), .val (.int (Int32.ofNat i)), .val (.ref a3), .val (.int (Int32.ofNat i)), .val (.int (Int32.ofNat n)), .val (.int (Int32.ofNat i)), .val (.int (f i))] [])) _
        refine XS.iinc X15.here hx rfl (hb hby d9_32) rfl (l' := #[.val (.ref a1), .val (.int ((Int32.ofNat i) + (1 : Int32))), .val (.ref a3), .val (.int (Int32.ofNat i)), .val (.int (Int32.ofNat n)), .val (.int (Int32.ofNat i)), .val (.int (f i))]) rfl ?_
        show Steps p.tables e below (T15.setTop (mkF m 35 #[.val (.ref a1), .val (.int ((Int32.ofNat i) + (1 : Int32))), .val (.ref a3), .val (.int (Int32.ofNat i)), .val (.int (Int32.ofNat n)), .val (.int (Int32.ofNat i)), .val (.int (f i))] [])) _
        refine XS.iinc X15.here hx rfl (hb hby d9_35) rfl (l' := #[.val (.ref a1), .val (.int ((Int32.ofNat i) + (1 : Int32))), .val (.ref a3), .val (.int ((Int32.ofNat i) + (1 : Int32))), .val (.int (Int32.ofNat n)), .val (.int (Int32.ofNat i)), .val (.int (f i))]) rfl ?_
        show Steps p.tables e below (T15.setTop (mkF m 38 #[.val (.ref a1), .val (.int ((Int32.ofNat i) + (1 : Int32))), .val (.ref a3), .val (.int ((Int32.ofNat i) + (1 : Int32))), .val (.int (Int32.ofNat n)), .val (.int (Int32.ofNat i)), .val (.int (f i))] [])) _
        refine XS.iinc X15.here hx rfl (hb hby d9_38) rfl (l' := #[.val (.ref a1), .val (.int ((Int32.ofNat i) + (1 : Int32))), .val (.ref a3), .val (.int ((Int32.ofNat i) + (1 : Int32))), .val (.int (Int32.ofNat n)), .val (.int ((Int32.ofNat i) + (1 : Int32))), .val (.int (f i))]) rfl ?_
        show Steps p.tables e below (T15.setTop (mkF m 41 #[.val (.ref a1), .val (.int ((Int32.ofNat i) + (1 : Int32))), .val (.ref a3), .val (.int ((Int32.ofNat i) + (1 : Int32))), .val (.int (Int32.ofNat n)), .val (.int ((Int32.ofNat i) + (1 : Int32))), .val (.int (f i))] [])) _
        refine XS.goto X15.here hx rfl (pc0 := 41) (pc' := 3) rfl (hb hby d9_41) (by decide) (by decide) ?_
        exact kt
      rw [show Int32.ofNat i + (1 : Int32) = Int32.ofNat (i + 1) from own_add i 1]
      exact ih (i + 1) _ _ _ _ (by omega) (One.val rfl) X15 e15 N15 K1 C1 D1
  refine Ends.of (F' := s₁.setTop (mkF m 3 #[.val (.ref a1), .val (.int (0 : Int32)), .val (.ref a3), .val (.int (0 : Int32)), .val (.int (Int32.ofNat n)), .val (.int (0 : Int32)), .unset] [])) (fun _ kt => ?_) ?_
  · show Steps p.tables e below (s₁.setTop (mkF m 0 #[.val (.ref a1), .val (.int (0 : Int32)), .val (.ref a3), .val (.int (0 : Int32)), .val (.int (Int32.ofNat n)), .unset, .unset] [])) _
    refine XS.iconst X0.here hx rfl (hb hby d9_0) ?_
    show Steps p.tables e below (s₁.setTop (mkF m 1 #[.val (.ref a1), .val (.int (0 : Int32)), .val (.ref a3), .val (.int (0 : Int32)), .val (.int (Int32.ofNat n)), .unset, .unset] [(.int (0 : Int32))])) _
    refine XS.istore X0.here hx rfl (hb hby d9_1) rfl (l' := #[.val (.ref a1), .val (.int (0 : Int32)), .val (.ref a3), .val (.int (0 : Int32)), .val (.int (Int32.ofNat n)), .val (.int (0 : Int32)), .unset]) rfl ?_
    exact kt
  exact loop n 0 _ _ _ _ (by omega) One.u X0 e0 N0 (Keep.refl _ _) C (D.congr (fun j hj => (if_neg (by omega)).symm))
theorem d8_0 : decode jdk_52_method_16_code 0 = .ok (.iload_n 2, 1) := by decide +kernel
theorem d8_1 : decode jdk_52_method_16_code 1 = .ok (.newarray .byte, 2) := by decide +kernel
theorem d8_3 : decode jdk_52_method_16_code 3 = .ok (.astore_n 3, 1) := by decide +kernel
theorem d8_4 : decode jdk_52_method_16_code 4 = .ok (.aload_n 0, 1) := by decide +kernel
theorem d8_5 : decode jdk_52_method_16_code 5 = .ok (.iload_n 1, 1) := by decide +kernel
theorem d8_6 : decode jdk_52_method_16_code 6 = .ok (.aload_n 3, 1) := by decide +kernel
theorem d8_7 : decode jdk_52_method_16_code 7 = .ok (.iconst 0, 1) := by decide +kernel
theorem d8_8 : decode jdk_52_method_16_code 8 = .ok (.iload_n 2, 1) := by decide +kernel
theorem d8_9 : decode jdk_52_method_16_code 9 = .ok (.invokestatic 115, 3) := by decide +kernel
theorem d8_12 : decode jdk_52_method_16_code 12 = .ok (.istore 4, 2) := by decide +kernel
theorem d8_14 : decode jdk_52_method_16_code 14 = .ok (.iload 4, 2) := by decide +kernel
theorem d8_16 : decode jdk_52_method_16_code 16 = .ok (.iload_n 2, 1) := by decide +kernel
theorem d8_17 : decode jdk_52_method_16_code 17 = .ok (.if_icmp .eq 40, 3) := by decide +kernel
theorem d8_20 : decode jdk_52_method_16_code 20 = .ok (.aload_n 0, 1) := by decide +kernel
theorem d8_21 : decode jdk_52_method_16_code 21 = .ok (.iload_n 1, 1) := by decide +kernel
theorem d8_22 : decode jdk_52_method_16_code 22 = .ok (.iload_n 2, 1) := by decide +kernel
theorem d8_23 : decode jdk_52_method_16_code 23 = .ok (.invokestatic 119, 3) := by decide +kernel
theorem d8_26 : decode jdk_52_method_16_code 26 = .ok (.astore 5, 2) := by decide +kernel
theorem d8_28 : decode jdk_52_method_16_code 28 = .ok (.aload 5, 2) := by decide +kernel
theorem d8_30 : decode jdk_52_method_16_code 30 = .ok (.iload 4, 2) := by decide +kernel
theorem d8_32 : decode jdk_52_method_16_code 32 = .ok (.invokestatic 71, 3) := by decide +kernel
theorem d8_35 : decode jdk_52_method_16_code 35 = .ok (.sipush 255, 3) := by decide +kernel
theorem d8_38 : decode jdk_52_method_16_code 38 = .ok (.if_icmp .gt 16, 3) := by decide +kernel
theorem d8_41 : decode jdk_52_method_16_code 41 = .ok (.aload 5, 2) := by decide +kernel
theorem d8_43 : decode jdk_52_method_16_code 43 = .ok (.iconst 0, 1) := by decide +kernel
theorem d8_44 : decode jdk_52_method_16_code 44 = .ok (.aload_n 3, 1) := by decide +kernel
theorem d8_45 : decode jdk_52_method_16_code 45 = .ok (.iconst 0, 1) := by decide +kernel
theorem d8_46 : decode jdk_52_method_16_code 46 = .ok (.iload_n 2, 1) := by decide +kernel
theorem d8_47 : decode jdk_52_method_16_code 47 = .ok (.invokestatic 123, 3) := by decide +kernel
theorem d8_50 : decode jdk_52_method_16_code 50 = .ok (.iload_n 2, 1) := by decide +kernel
theorem d8_51 : decode jdk_52_method_16_code 51 = .ok (.if_icmp .eq 6, 3) := by decide +kernel
theorem d8_54 : decode jdk_52_method_16_code 54 = .ok (.aload 5, 2) := by decide +kernel
theorem d8_56 : decode jdk_52_method_16_code 56 = .ok (.areturn, 1) := by decide +kernel
theorem d8_57 : decode jdk_52_method_16_code 57 = .ok (.aload_n 3, 1) := by decide +kernel
theorem d8_58 : decode jdk_52_method_16_code 58 = .ok (.areturn, 1) := by decide +kernel
def Q_u16_comp3 (Z : State) (a1 : Addr) (n : Nat) (f : Nat → Int32) (h0 : Heap) (n0 : Nat) (v : Option Value) (h : Heap) (L : List Loc) : Prop := v = some (.ref h0.size) ∧ Fr n0 L ∧ Keep h0 h [] ∧ Ary .byte Z h h0.size n (fun i => (f i).toInt8.toInt32)
set_option maxRecDepth 65536 in
set_option maxHeartbeats 40000000 in
theorem u16_comp3 (l : Launch) (Z : State) (a0 : Array Value) (hw : ∀ d ∈ tables_1, d.before a0 Z = true) (ws : List Jvm.Cond) (a1 : Addr) (n : Nat) (f : Nat → Int32) (h0 : Heap) (n0 : Nat) (Z0 : n0 ≤ h0.size) (C : Ary .char Z h0 a1 n f) (hf : ∀ i, i < n → ¬ (255 : Int32) < f i) (hn : n ≤ 12) :
    MetFree l (⟨"java/lang/StringUTF16", "compress", "([CII)[B"⟩ : MethodName) (head1 (Jvm.Cond.code (⟨"java/lang/StringUTF16", "compress", "([CII)[B"⟩ : MethodName) jdk_52_method_16_code 6 (some (.array .byte)) :: ws) ({ frames := 1, cells := 1, slots := 12, locals := 18 } : Room)) (fun a U => a = #[(.ref a1), (.int (0 : Int32)), (.int (Int32.ofNat n))] ∧ Z.Warmed39 U.vm ∧ U.heap = h0) (fun _ _ _ _ _ => True) (fun _ U o U' => ∃ v L, o = .returned v ∧ Q_u16_comp3 Z a1 n f h0 n0 v U'.heap L ∧ FrameEnd U o U' L ({ frames := 1, cells := 1, slots := 12, locals := 18 } : Room).cells ({ frames := 1, cells := 1, slots := 12, locals := 18 } : Room).slots) := by
  refine MetFree.of_bodySF (plainFor_of_name pn_2) hisR ?_
  intro p e s m args below meth c s₁ Bd hml0 hP hK
  obtain ⟨rfl, hZ, hh⟩ := hP
  have hx := Bd.exec
  have hby := Bd.bytes
  have hml : c.maxLocals = 6 := hml0
  have hown : s.vm.findClass "java/lang/StringUTF16" = some m.cls := findClass_of_methodNamed Bd.named
  have hnm := (name_of_methodNamed Bd.named Bd.method).1
  have X0 : Stand p l e ({ frames := 1, cells := 1, slots := 12, locals := 18 } : Room) s m #[(.ref a1), (.int (0 : Int32)), (.int (Int32.ofNat n))] below meth c s₁ [] 0 0 := Stand.of_body Bd
  have e0 : s₁.heap = h0 := by rw [← hh, Bd.state]; rfl
  have N0 := Fr.nil n0
  have eF : entryFrame m #[(.ref a1), (.int (0 : Int32)), (.int (Int32.ofNat n))] 6 = mkF m 0 #[.val (.ref a1), .val (.int (0 : Int32)), .val (.int (Int32.ofNat n)), .unset, .unset, .unset] [] := by first | (simp [entryFrame, mkF, argsToLocals, Value.category]; done) | rfl
  show Ends p e below s ({ frames := 1, cells := 1, slots := 12, locals := 18 } : Room) (Q_u16_comp3 Z a1 n f h0 n0) (s₁.setTop (entryFrame m #[(.ref a1), (.int (0 : Int32)), (.int (Int32.ofNat n))] 6))
  rw [eF]
  refine Ends.of (F' := s₁.setTop (mkF m 1 #[.val (.ref a1), .val (.int (0 : Int32)), .val (.int (Int32.ofNat n)), .unset, .unset, .unset] [(.int (Int32.ofNat n))])) (fun _ kt => ?_) ?_
  · show Steps p.tables e below (s₁.setTop (mkF m 0 #[.val (.ref a1), .val (.int (0 : Int32)), .val (.int (Int32.ofNat n)), .unset, .unset, .unset] [])) _
    refine XS.iloadN X0.here hx rfl (hb hby d8_0) rfl ?_
    exact kt
  obtain ⟨T16, h16, k16, X16, e16, E16, A16, st16⟩ := newP X0 hx hZ (hw _ (List.mem_of_getElem? (i := 14) rfl)) e0 (g := (mkF m 1 #[.val (.ref a1), .val (.int (0 : Int32)), .val (.int (Int32.ofNat n)), .unset, .unset, .unset] [(.int (Int32.ofNat n))])) rfl (hb hby d8_1) rfl (own_nn (by omega)) (cap := 12) (by rw [own_clamp (by omega)]; omega) (by decide) (by decide) (by decide)
  obtain ⟨b16, g16⟩ : ∃ z, z = h0.size := ⟨_, rfl⟩
  rw [← g16] at A16 st16
  refine Ends.of st16 ?_
  have D0 : Ary .byte Z h16 b16 n (fun _ => 0) := Ary.new A16 (by omega) rfl
  have gb : n0 ≤ b16 := Nat.le_trans Z0 (Nat.le_of_eq g16.symm)
  have Z1 : n0 ≤ h16.size := Nat.le_trans Z0 E16.1
  refine Ends.of (F' := T16.setTop (mkF m 9 #[.val (.ref a1), .val (.int (0 : Int32)), .val (.int (Int32.ofNat n)), .val (.ref b16), .unset, .unset] [(.int (Int32.ofNat n)), (.int (0 : Int32)), (.ref b16), (.int (0 : Int32)), (.ref a1)])) (fun _ kt => ?_) ?_
  · show Steps p.tables e below (T16.setTop (mkF m 3 #[.val (.ref a1), .val (.int (0 : Int32)), .val (.int (Int32.ofNat n)), .unset, .unset, .unset] [(.ref b16)])) _
    refine XS.astoreN X16.here hx rfl (hb hby d8_3) rfl rfl (l' := #[.val (.ref a1), .val (.int (0 : Int32)), .val (.int (Int32.ofNat n)), .val (.ref b16), .unset, .unset]) rfl ?_
    show Steps p.tables e below (T16.setTop (mkF m 4 #[.val (.ref a1), .val (.int (0 : Int32)), .val (.int (Int32.ofNat n)), .val (.ref b16), .unset, .unset] [])) _
    refine XS.aloadN X16.here hx rfl (hb hby d8_4) rfl rfl ?_
    show Steps p.tables e below (T16.setTop (mkF m 5 #[.val (.ref a1), .val (.int (0 : Int32)), .val (.int (Int32.ofNat n)), .val (.ref b16), .unset, .unset] [(.ref a1)])) _
    refine XS.iloadN X16.here hx rfl (hb hby d8_5) rfl ?_
    show Steps p.tables e below (T16.setTop (mkF m 6 #[.val (.ref a1), .val (.int (0 : Int32)), .val (.int (Int32.ofNat n)), .val (.ref b16), .unset, .unset] [(.int (0 : Int32)), (.ref a1)])) _
    refine XS.aloadN X16.here hx rfl (hb hby d8_6) rfl rfl ?_
    show Steps p.tables e below (T16.setTop (mkF m 7 #[.val (.ref a1), .val (.int (0 : Int32)), .val (.int (Int32.ofNat n)), .val (.ref b16), .unset, .unset] [(.ref b16), (.int (0 : Int32)), (.ref a1)])) _
    refine XS.iconst X16.here hx rfl (hb hby d8_7) ?_
    show Steps p.tables e below (T16.setTop (mkF m 8 #[.val (.ref a1), .val (.int (0 : Int32)), .val (.int (Int32.ofNat n)), .val (.ref b16), .unset, .unset] [(.int (0 : Int32)), (.ref b16), (.int (0 : Int32)), (.ref a1)])) _
    refine XS.iloadN X16.here hx rfl (hb hby d8_8) rfl ?_
    exact kt
  obtain ⟨_, _, ⟨T17, L17, k17, n17⟩, -, X17, ⟨Lc17, hQ17, l17, y17, z17⟩, st17⟩ := Jvm.LawKit.callS X16 hx (y := (⟨"java/lang/StringUTF16", "compress", "([CI[BII)I"⟩ : MethodName)) hown (mvT hZ (hw _ (List.mem_of_getElem? (i := 38) rfl))) (mvT hZ (hw _ (List.mem_of_getElem? (i := 39) rfl))) (mvT hZ (hw _ (List.mem_of_getElem? (i := 36) rfl))) (mvT hZ (hw _ (List.mem_of_getElem? (i := 40) rfl))) (by decide) (backOf (W := 0) (u16_comp5 l Z a0 hw [] a1 b16 n f (fun _ => 0) h16 n0 Z1 (C.ext E16) D0 (Nat.ne_of_lt (Nat.lt_of_lt_of_le C.lt (Nat.le_of_eq g16.symm))) hf gb) hZ (hw _ (List.mem_of_getElem? (i := 40) rfl)) (hw _ (List.mem_of_getElem? (i := 36) rfl)) (by decide) (by decide)) (g := (mkF m 9 #[.val (.ref a1), .val (.int (0 : Int32)), .val (.int (Int32.ofNat n)), .val (.ref b16), .unset, .unset] [(.int (Int32.ofNat n)), (.int (0 : Int32)), (.ref b16), (.int (0 : Int32)), (.ref a1)])) rfl (by rw [hml]; rfl) (argsL := [(.ref a1), (.int (0 : Int32)), (.ref b16), (.int (0 : Int32)), (.int (Int32.ofNat n))]) (rest := []) (lenOf pd_8 rfl) rfl (by show 2 * 0 + _ ≤ _; exact Nat.le_of_eq rfl) (hb hby d8_9) (fun _ _ => ⟨rfl, e16, (by decide : 1 + 0 ≤ _), (by decide : 12 + 0 ≤ _)⟩)
  dsimp only [Pt.U, Pt.locs, Pt.cells, Pt.slots] at X17 l17 y17 z17 st17 hQ17
  subst l17 y17 z17
  obtain ⟨rfl, N17q, K17, D17⟩ := hQ17
  have N17 := Fr.app N0 N17q
  refine Ends.of st17 ?_
  have K1 : Keep h0 T17.heap [] := ((Keep.refl h0 []).ext E16).trans K17 (allS (Or.inr (Nat.le_of_eq g16.symm)) all0)
  refine Ends.of (F' := T17.setTop (mkF m 58 #[.val (.ref a1), .val (.int (0 : Int32)), .val (.int (Int32.ofNat n)), .val (.ref b16), .val (.int (Int32.ofNat n)), .unset] [(.ref b16)])) (fun _ kt => ?_) ?_
  · show Steps p.tables e below (T17.setTop (mkF m 12 #[.val (.ref a1), .val (.int (0 : Int32)), .val (.int (Int32.ofNat n)), .val (.ref b16), .unset, .unset] [(.int (Int32.ofNat n))])) _
    refine XS.istore X17.here hx rfl (hb hby d8_12) rfl (l' := #[.val (.ref a1), .val (.int (0 : Int32)), .val (.int (Int32.ofNat n)), .val (.ref b16), .val (.int (Int32.ofNat n)), .unset]) rfl ?_
    show Steps p.tables e below (T17.setTop (mkF m 14 #[.val (.ref a1), .val (.int (0 : Int32)), .val (.int (Int32.ofNat n)), .val (.ref b16), .val (.int (Int32.ofNat n)), .unset] [])) _
    refine XS.iload X17.here hx rfl (hb hby d8_14) rfl ?_
    show Steps p.tables e below (T17.setTop (mkF m 16 #[.val (.ref a1), .val (.int (0 : Int32)), .val (.int (Int32.ofNat n)), .val (.ref b16), .val (.int (Int32.ofNat n)), .unset] [(.int (Int32.ofNat n))])) _
    refine XS.iloadN X17.here hx rfl (hb hby d8_16) rfl ?_
    show Steps p.tables e below (T17.setTop (mkF m 17 #[.val (.ref a1), .val (.int (0 : Int32)), .val (.int (Int32.ofNat n)), .val (.ref b16), .val (.int (Int32.ofNat n)), .unset] [(.int (Int32.ofNat n)), (.int (Int32.ofNat n))])) _
    refine XS.icmpYes X17.here hx rfl (pc0 := 17) (pc' := 57) rfl (hb hby d8_17) rfl (teq rfl).1 (by decide) (by decide) ?_
    show Steps p.tables e below (T17.setTop (mkF m 57 #[.val (.ref a1), .val (.int (0 : Int32)), .val (.int (Int32.ofNat n)), .val (.ref b16), .val (.int (Int32.ofNat n)), .unset] [])) _
    refine XS.aloadN X17.here hx rfl (hb hby d8_57) rfl rfl ?_
    exact kt
  subst g16
  obtain ⟨fs, hr, hrun, hended, hW, hsame⟩ := X17.leave (v := some (.ref h0.size)) (fun h => by rw [Bd.returns] at h; cases h)
  refine ⟨_, _, ?_, hrun, hended, _, _, rfl, ⟨rfl, N17, K1, D17⟩, ⟨_, rfl⟩, hW, hsame.mono (by decide) (by decide)⟩
  show Steps p.tables e below (T17.setTop (mkF m 58 #[.val (.ref a1), .val (.int (0 : Int32)), .val (.int (Int32.ofNat n)), .val (.ref h0.size), .val (.int (Int32.ofNat n)), .unset] [(.ref h0.size)])) _
  jvm_step X17.here [X17.here.top, hx, (hb hby d8_58), X17.method', Bd.returns, Value.isRef, FieldType.isReference]
  first | (intro acts; rw [hr _ acts rfl rfl rfl]) | rw [hr _ _ rfl rfl rfl]
  exact Steps.refl _
theorem d10_0 : decode jdk_52_method_15_code 0 = .ok (.iload_n 1, 1) := by decide +kernel
theorem d10_1 : decode jdk_52_method_15_code 1 = .ok (.aload_n 0, 1) := by decide +kernel
theorem d10_2 : decode jdk_52_method_15_code 2 = .ok (.arraylength, 1) := by decide +kernel
theorem d10_3 : decode jdk_52_method_15_code 3 = .ok (.isub, 1) := by decide +kernel
theorem d10_4 : decode jdk_52_method_15_code 4 = .ok (.bipush 31, 2) := by decide +kernel
theorem d10_6 : decode jdk_52_method_15_code 6 = .ok (.iushr, 1) := by decide +kernel
theorem d10_7 : decode jdk_52_method_15_code 7 = .ok (.i2b, 1) := by decide +kernel
theorem d10_8 : decode jdk_52_method_15_code 8 = .ok (.ireturn, 1) := by decide +kernel
def Q_u16_coder (Z : State) (a1 : Addr) (n : Nat) (f : Nat → Int32) (h0 : Heap) (n0 : Nat) (v : Option Value) (h : Heap) (L : List Loc) : Prop := v = some (.int (0 : Int32)) ∧ Fr n0 L ∧ h = h0
set_option maxRecDepth 65536 in
set_option maxHeartbeats 40000000 in
theorem u16_coder (l : Launch) (Z : State) (a0 : Array Value) (hw : ∀ d ∈ tables_1, d.before a0 Z = true) (ws : List Jvm.Cond) (a1 : Addr) (n : Nat) (f : Nat → Int32) (h0 : Heap) (n0 : Nat) (Z0 : n0 ≤ h0.size) (D : Ary .byte Z h0 a1 n f) :
    MetFree l (⟨"java/lang/StringUTF16", "coderFromArrayLen", "([BI)B"⟩ : MethodName) (head1 (Jvm.Cond.code (⟨"java/lang/StringUTF16", "coderFromArrayLen", "([BI)B"⟩ : MethodName) jdk_52_method_15_code 2 (some .byte) :: ws) ({ frames := 0, cells := 0, slots := 0, locals := 0 } : Room)) (fun a U => a = #[(.ref a1), (.int (Int32.ofNat n))] ∧ Z.Warmed39 U.vm ∧ U.heap = h0) (fun _ _ _ _ _ => True) (fun _ U o U' => ∃ v L, o = .returned v ∧ Q_u16_coder Z a1 n f h0 n0 v U'.heap L ∧ FrameEnd U o U' L ({ frames := 0, cells := 0, slots := 0, locals := 0 } : Room).cells ({ frames := 0, cells := 0, slots := 0, locals := 0 } : Room).slots) := by
  refine MetFree.of_bodySF (plainFor_of_name pn_2) hisR ?_
  intro p e s m args below meth c s₁ Bd hml0 hP hK
  obtain ⟨rfl, hZ, hh⟩ := hP
  have hx := Bd.exec
  have hby := Bd.bytes
  have hml : c.maxLocals = 2 := hml0
  have hown : s.vm.findClass "java/lang/StringUTF16" = some m.cls := findClass_of_methodNamed Bd.named
  have hnm := (name_of_methodNamed Bd.named Bd.method).1
  have X0 : Stand p l e ({ frames := 0, cells := 0, slots := 0, locals := 0 } : Room) s m #[(.ref a1), (.int (Int32.ofNat n))] below meth c s₁ [] 0 0 := Stand.of_body Bd
  have e0 : s₁.heap = h0 := by rw [← hh, Bd.state]; rfl
  have N0 := Fr.nil n0
  have eF : entryFrame m #[(.ref a1), (.int (Int32.ofNat n))] 2 = mkF m 0 #[.val (.ref a1), .val (.int (Int32.ofNat n))] [] := by first | (simp [entryFrame, mkF, argsToLocals, Value.category]; done) | rfl
  show Ends p e below s ({ frames := 0, cells := 0, slots := 0, locals := 0 } : Room) (Q_u16_coder Z a1 n f h0 n0) (s₁.setTop (entryFrame m #[(.ref a1), (.int (Int32.ofNat n))] 2))
  rw [eF]
  obtain ⟨cd, Ad, Sd, Hd, -⟩ := D.op
  refine Ends.of (F' := s₁.setTop (mkF m 8 #[.val (.ref a1), .val (.int (Int32.ofNat n))] [(.int (((((Int32.ofNat n) - (Int32.ofNat n)).toUInt32 >>> ((31 : Int32) &&& 31).toUInt32).toInt32).toInt8.toInt32))])) (fun _ kt => ?_) ?_
  · show Steps p.tables e below (s₁.setTop (mkF m 0 #[.val (.ref a1), .val (.int (Int32.ofNat n))] [])) _
    refine XS.iloadN X0.here hx rfl (hb hby d10_0) rfl ?_
    show Steps p.tables e below (s₁.setTop (mkF m 1 #[.val (.ref a1), .val (.int (Int32.ofNat n))] [(.int (Int32.ofNat n))])) _
    refine XS.aloadN X0.here hx rfl (hb hby d10_1) rfl rfl ?_
    show Steps p.tables e below (s₁.setTop (mkF m 2 #[.val (.ref a1), .val (.int (Int32.ofNat n))] [(.ref a1), (.int (Int32.ofNat n))])) _
    refine X0.arraylength hx (by rw [e0]; exact Ad.1) (State.isArrayOf_alike hZ.alike Ad.2.1) (g := (mkF m 2 #[.val (.ref a1), .val (.int (Int32.ofNat n))] [(.ref a1), (.int (Int32.ofNat n))])) rfl rfl (hb hby d10_2) _ ?_
    rw [Sd]
    show Steps p.tables e below (s₁.setTop (mkF m 3 #[.val (.ref a1), .val (.int (Int32.ofNat n))] [(.int (Int32.ofNat n)), (.int (Int32.ofNat n))])) _
    refine XS.isub X0.here hx rfl (hb hby d10_3) rfl ?_
    show Steps p.tables e below (s₁.setTop (mkF m 4 #[.val (.ref a1), .val (.int (Int32.ofNat n))] [(.int ((Int32.ofNat n) - (Int32.ofNat n)))])) _
    refine XS.bipush X0.here hx rfl (hb hby d10_4) ?_
    show Steps p.tables e below (s₁.setTop (mkF m 6 #[.val (.ref a1), .val (.int (Int32.ofNat n))] [(.int (31 : Int32)), (.int ((Int32.ofNat n) - (Int32.ofNat n)))])) _
    refine XS.iushr X0.here hx rfl (hb hby d10_6) rfl ?_
    show Steps p.tables e below (s₁.setTop (mkF m 7 #[.val (.ref a1), .val (.int (Int32.ofNat n))] [(.int ((((Int32.ofNat n) - (Int32.ofNat n)).toUInt32 >>> ((31 : Int32) &&& 31).toUInt32).toInt32))])) _
    refine XS.i2b X0.here hx rfl (hb hby d10_7) rfl ?_
    exact kt
  rw [own_cfa]
  obtain ⟨fs, hr, hrun, hended, hW, hsame⟩ := X0.leave (v := some (.int (0 : Int32))) (fun h => by rw [Bd.returns] at h; cases h)
  exact ⟨_, _, retN X0 hx (t := .byte) Bd.returns (by simp) (hb hby d10_8) hr, hrun, hended, _, _, rfl, ⟨rfl, N0, e0⟩, ⟨_, rfl⟩, hW, hsame.mono (by decide) (by decide)⟩
theorem d7_0 : decode jdk_42_method_149_code 0 = .ok (.aload_n 0, 1) := by decide +kernel
theorem d7_1 : decode jdk_42_method_149_code 1 = .ok (.invokespecial 1, 3) := by decide +kernel
theorem d7_4 : decode jdk_42_method_149_code 4 = .ok (.iload_n 3, 1) := by decide +kernel
theorem d7_5 : decode jdk_42_method_149_code 5 = .ok (.ifCond .ne 22, 3) := by decide +kernel
theorem d7_8 : decode jdk_42_method_149_code 8 = .ok (.aload_n 0, 1) := by decide +kernel
theorem d7_9 : decode jdk_42_method_149_code 9 = .ok (.ldc 7, 2) := by decide +kernel
theorem d7_11 : decode jdk_42_method_149_code 11 = .ok (.getfield 9, 3) := by decide +kernel
theorem d7_14 : decode jdk_42_method_149_code 14 = .ok (.putfield 9, 3) := by decide +kernel
theorem d7_17 : decode jdk_42_method_149_code 17 = .ok (.aload_n 0, 1) := by decide +kernel
theorem d7_18 : decode jdk_42_method_149_code 18 = .ok (.ldc 7, 2) := by decide +kernel
theorem d7_20 : decode jdk_42_method_149_code 20 = .ok (.getfield 15, 3) := by decide +kernel
theorem d7_23 : decode jdk_42_method_149_code 23 = .ok (.putfield 15, 3) := by decide +kernel
theorem d7_26 : decode jdk_42_method_149_code 26 = .ok (.return_, 1) := by decide +kernel
theorem d7_27 : decode jdk_42_method_149_code 27 = .ok (.getstatic 38, 3) := by decide +kernel
theorem d7_30 : decode jdk_42_method_149_code 30 = .ok (.ifCond .eq 28, 3) := by decide +kernel
theorem d7_33 : decode jdk_42_method_149_code 33 = .ok (.aload_n 1, 1) := by decide +kernel
theorem d7_34 : decode jdk_42_method_149_code 34 = .ok (.iload_n 2, 1) := by decide +kernel
theorem d7_35 : decode jdk_42_method_149_code 35 = .ok (.iload_n 3, 1) := by decide +kernel
theorem d7_36 : decode jdk_42_method_149_code 36 = .ok (.invokestatic 177, 3) := by decide +kernel
theorem d7_39 : decode jdk_42_method_149_code 39 = .ok (.astore 5, 2) := by decide +kernel
theorem d7_41 : decode jdk_42_method_149_code 41 = .ok (.aload_n 0, 1) := by decide +kernel
theorem d7_42 : decode jdk_42_method_149_code 42 = .ok (.aload 5, 2) := by decide +kernel
theorem d7_44 : decode jdk_42_method_149_code 44 = .ok (.iload_n 3, 1) := by decide +kernel
theorem d7_45 : decode jdk_42_method_149_code 45 = .ok (.invokestatic 47, 3) := by decide +kernel
theorem d7_48 : decode jdk_42_method_149_code 48 = .ok (.putfield 15, 3) := by decide +kernel
theorem d7_51 : decode jdk_42_method_149_code 51 = .ok (.aload_n 0, 1) := by decide +kernel
theorem d7_52 : decode jdk_42_method_149_code 52 = .ok (.aload 5, 2) := by decide +kernel
theorem d7_54 : decode jdk_42_method_149_code 54 = .ok (.putfield 9, 3) := by decide +kernel
theorem d7_57 : decode jdk_42_method_149_code 57 = .ok (.return_, 1) := by decide +kernel
theorem d7_58 : decode jdk_42_method_149_code 58 = .ok (.aload_n 0, 1) := by decide +kernel
theorem d7_59 : decode jdk_42_method_149_code 59 = .ok (.iconst 1, 1) := by decide +kernel
theorem d7_60 : decode jdk_42_method_149_code 60 = .ok (.putfield 15, 3) := by decide +kernel
theorem d7_63 : decode jdk_42_method_149_code 63 = .ok (.aload_n 0, 1) := by decide +kernel
theorem d7_64 : decode jdk_42_method_149_code 64 = .ok (.aload_n 1, 1) := by decide +kernel
theorem d7_65 : decode jdk_42_method_149_code 65 = .ok (.iload_n 2, 1) := by decide +kernel
theorem d7_66 : decode jdk_42_method_149_code 66 = .ok (.iload_n 3, 1) := by decide +kernel
theorem d7_67 : decode jdk_42_method_149_code 67 = .ok (.invokestatic 180, 3) := by decide +kernel
theorem d7_70 : decode jdk_42_method_149_code 70 = .ok (.putfield 9, 3) := by decide +kernel
theorem d7_73 : decode jdk_42_method_149_code 73 = .ok (.return_, 1) := by decide +kernel
def Q_str_initCII (Z : State) (a1 : Addr) (a2 : Addr) (n : Nat) (f : Nat → Int32) (cs : Int32) (h0 : Heap) (n0 : Nat) (v : Option Value) (h : Heap) (L : List Loc) : Prop := v = none ∧ Fr n0 L ∧ Keep h0 h [a1] ∧ ∃ b : Addr, Str Z h a1 b n (fun i => (f i).toInt8.toInt32) ∧ h0.size ≤ b
set_option maxRecDepth 65536 in
set_option maxHeartbeats 40000000 in
theorem str_initCII (l : Launch) (Z : State) (a0 : Array Value) (hw : ∀ d ∈ tables_1, d.before a0 Z = true) (ws : List Jvm.Cond) (a1 : Addr) (a2 : Addr) (n : Nat) (f : Nat → Int32) (cs : Int32) (h0 : Heap) (n0 : Nat) (Z0 : n0 ≤ h0.size) (S0 : Sta Z Z.heap "java/lang/String" "COMPACT_STRINGS" "Z" (.int cs)) (hcs : ¬ cs = (0 : Int32)) (O : Oll Z n0 h0) (E_a : Exa Z h0 a1 "java/lang/String") (F_v : Fld Z h0 a1 "java/lang/String" "value" "[B" .null) (F_c : Fld Z h0 a1 "java/lang/String" "coder" "B" (.int (0 : Int32))) (C : Ary .char Z h0 a2 n f) (hf : ∀ i, i < n → ¬ (255 : Int32) < f i) (h1 : 1 ≤ n) (hn : n ≤ 12) (g_a : n0 ≤ a1) :
    MetFree l (⟨"java/lang/String", "<init>", "([CIILjava/lang/Void;)V"⟩ : MethodName) (head1 (Jvm.Cond.code (⟨"java/lang/String", "<init>", "([CIILjava/lang/Void;)V"⟩ : MethodName) jdk_42_method_149_code 6 none :: ws) ({ frames := 2, cells := 1, slots := 12, locals := 35 } : Room)) (fun a U => a = #[(.ref a1), (.ref a2), (.int (0 : Int32)), (.int (Int32.ofNat n)), .null] ∧ Z.Warmed39 U.vm ∧ U.heap = h0) (fun _ _ _ _ _ => True) (fun _ U o U' => ∃ v L, o = .returned v ∧ Q_str_initCII Z a1 a2 n f cs h0 n0 v U'.heap L ∧ FrameEnd U o U' L ({ frames := 2, cells := 1, slots := 12, locals := 35 } : Room).cells ({ frames := 2, cells := 1, slots := 12, locals := 35 } : Room).slots) := by
  refine MetFree.of_bodySF (plainFor_of_name pn_0) hisR ?_
  intro p e s m args below meth c s₁ Bd hml0 hP hK
  obtain ⟨rfl, hZ, hh⟩ := hP
  have hx := Bd.exec
  have hby := Bd.bytes
  have hml : c.maxLocals = 6 := hml0
  have hown : s.vm.findClass "java/lang/String" = some m.cls := findClass_of_methodNamed Bd.named
  have hnm := (name_of_methodNamed Bd.named Bd.method).1
  have X0 : Stand p l e ({ frames := 2, cells := 1, slots := 12, locals := 35 } : Room) s m #[(.ref a1), (.ref a2), (.int (0 : Int32)), (.int (Int32.ofNat n)), .null] below meth c s₁ [] 0 0 := Stand.of_body Bd
  have e0 : s₁.heap = h0 := by rw [← hh, Bd.state]; rfl
  have N0 := Fr.nil n0
  have eF : entryFrame m #[(.ref a1), (.ref a2), (.int (0 : Int32)), (.int (Int32.ofNat n)), .null] 6 = mkF m 0 #[.val (.ref a1), .val (.ref a2), .val (.int (0 : Int32)), .val (.int (Int32.ofNat n)), .val .null, .unset] [] := by first | (simp [entryFrame, mkF, argsToLocals, Value.category]; done) | rfl
  show Ends p e below s ({ frames := 2, cells := 1, slots := 12, locals := 35 } : Room) (Q_str_initCII Z a1 a2 n f cs h0 n0) (s₁.setTop (entryFrame m #[(.ref a1), (.ref a2), (.int (0 : Int32)), (.int (Int32.ofNat n)), .null] 6))
  rw [eF]
  refine Ends.of (F' := s₁.setTop (mkF m 1 #[.val (.ref a1), .val (.ref a2), .val (.int (0 : Int32)), .val (.int (Int32.ofNat n)), .val .null, .unset] [(.ref a1)])) (fun _ kt => ?_) ?_
  · show Steps p.tables e below (s₁.setTop (mkF m 0 #[.val (.ref a1), .val (.ref a2), .val (.int (0 : Int32)), .val (.int (Int32.ofNat n)), .val .null, .unset] [])) _
    refine XS.aloadN X0.here hx rfl (hb hby d7_0) rfl rfl ?_
    exact kt
  obtain ⟨T18, X18, e18, st18⟩ := initO X0 hx hZ hown (hw _ (List.mem_of_getElem? (i := 19) rfl)) (hw _ (List.mem_of_getElem? (i := 20) rfl)) (hw _ (List.mem_of_getElem? (i := 21) rfl)) e0 (g := (mkF m 1 #[.val (.ref a1), .val (.ref a2), .val (.int (0 : Int32)), .val (.int (Int32.ofNat n)), .val .null, .unset] [(.ref a1)])) rfl (by rw [hml]; rfl) rfl (hb hby d7_1) (by decide) (W := 0) (by show 2 * 0 + _ ≤ _; exact Nat.le_of_eq rfl) (by decide)
  refine Ends.of st18 ?_
  refine Ends.of (F' := T18.setTop (mkF m 27 #[.val (.ref a1), .val (.ref a2), .val (.int (0 : Int32)), .val (.int (Int32.ofNat n)), .val .null, .unset] [])) (fun _ kt => ?_) ?_
  · show Steps p.tables e below (T18.setTop (mkF m 4 #[.val (.ref a1), .val (.ref a2), .val (.int (0 : Int32)), .val (.int (Int32.ofNat n)), .val .null, .unset] [])) _
    refine XS.iloadN X18.here hx rfl (hb hby d7_4) rfl ?_
    show Steps p.tables e below (T18.setTop (mkF m 5 #[.val (.ref a1), .val (.ref a2), .val (.int (0 : Int32)), .val (.int (Int32.ofNat n)), .val .null, .unset] [(.int (Int32.ofNat n))])) _
    refine XS.ifYes X18.here hx rfl (pc0 := 5) (pc' := 27) rfl (hb hby d7_5) rfl ((if0 _ _).trans (feq (fun q => by have := (own_eqN n 0 (by omega) (by omega)).mp q; omega)).2) (by decide) (by decide) ?_
    exact kt
  obtain ⟨T19, X19, e19, st19⟩ := getS2 X18 hx hZ hown (host := "") (Or.inl (hw _ (List.mem_of_getElem? (i := 4) rfl))) Via.refl e18 (S0.ext O.2) (g := (mkF m 27 #[.val (.ref a1), .val (.ref a2), .val (.int (0 : Int32)), .val (.int (Int32.ofNat n)), .val .null, .unset] [])) rfl (hb hby d7_27)
  refine Ends.of st19 ?_
  refine Ends.of (F' := T19.setTop (mkF m 36 #[.val (.ref a1), .val (.ref a2), .val (.int (0 : Int32)), .val (.int (Int32.ofNat n)), .val .null, .unset] [(.int (Int32.ofNat n)), (.int (0 : Int32)), (.ref a2)])) (fun _ kt => ?_) ?_
  · show Steps p.tables e below (T19.setTop (mkF m 30 #[.val (.ref a1), .val (.ref a2), .val (.int (0 : Int32)), .val (.int (Int32.ofNat n)), .val .null, .unset] [(.int cs)])) _
    refine XS.ifNo X19.here hx rfl (hb hby d7_30) rfl ((if0 _ _).trans (feq hcs).1) ?_
    show Steps p.tables e below (T19.setTop (mkF m 33 #[.val (.ref a1), .val (.ref a2), .val (.int (0 : Int32)), .val (.int (Int32.ofNat n)), .val .null, .unset] [])) _
    refine XS.aloadN X19.here hx rfl (hb hby d7_33) rfl rfl ?_
    show Steps p.tables e below (T19.setTop (mkF m 34 #[.val (.ref a1), .val (.ref a2), .val (.int (0 : Int32)), .val (.int (Int32.ofNat n)), .val .null, .unset] [(.ref a2)])) _
    refine XS.iloadN X19.here hx rfl (hb hby d7_34) rfl ?_
    show Steps p.tables e below (T19.setTop (mkF m 35 #[.val (.ref a1), .val (.ref a2), .val (.int (0 : Int32)), .val (.int (Int32.ofNat n)), .val .null, .unset] [(.int (0 : Int32)), (.ref a2)])) _
    refine XS.iloadN X19.here hx rfl (hb hby d7_35) rfl ?_
    exact kt
  obtain ⟨_, _, ⟨T20, L20, k20, n20⟩, -, X20, ⟨Lc20, hQ20, l20, y20, z20⟩, st20⟩ := Jvm.LawKit.callS X19 hx (y := (⟨"java/lang/StringUTF16", "compress", "([CII)[B"⟩ : MethodName)) hown (mvT hZ (hw _ (List.mem_of_getElem? (i := 34) rfl))) (mvT hZ (hw _ (List.mem_of_getElem? (i := 35) rfl))) (mvT hZ (hw _ (List.mem_of_getElem? (i := 36) rfl))) (mvT hZ (hw _ (List.mem_of_getElem? (i := 37) rfl))) (by decide) (backOf (W := 0) (u16_comp3 l Z a0 hw [] a2 n f h0 n0 Z0 C hf hn) hZ (hw _ (List.mem_of_getElem? (i := 37) rfl)) (hw _ (List.mem_of_getElem? (i := 36) rfl)) (by decide) (by decide)) (g := (mkF m 36 #[.val (.ref a1), .val (.ref a2), .val (.int (0 : Int32)), .val (.int (Int32.ofNat n)), .val .null, .unset] [(.int (Int32.ofNat n)), (.int (0 : Int32)), (.ref a2)])) rfl (by rw [hml]; rfl) (argsL := [(.ref a2), (.int (0 : Int32)), (.int (Int32.ofNat n))]) (rest := []) (lenOf pd_7 rfl) rfl (by show 2 * 0 + _ ≤ _; exact Nat.le_of_eq rfl) (hb hby d7_36) (fun _ _ => ⟨rfl, e19, (by decide : 0 + 1 ≤ _), (by decide : 0 + 12 ≤ _)⟩)
  dsimp only [Pt.U, Pt.locs, Pt.cells, Pt.slots] at X20 l20 y20 z20 st20 hQ20
  subst l20 y20 z20
  obtain ⟨rfl, N20q, K20, D20⟩ := hQ20
  have N20 := Fr.app N0 N20q
  refine Ends.of st20 ?_
  have Z1 : n0 ≤ T20.heap.size := Nat.le_trans Z0 K20.1
  refine Ends.of (F' := T20.setTop (mkF m 45 #[.val (.ref a1), .val (.ref a2), .val (.int (0 : Int32)), .val (.int (Int32.ofNat n)), .val .null, .val (.ref h0.size)] [(.int (Int32.ofNat n)), (.ref h0.size), (.ref a1)])) (fun _ kt => ?_) ?_
  · show Steps p.tables e below (T20.setTop (mkF m 39 #[.val (.ref a1), .val (.ref a2), .val (.int (0 : Int32)), .val (.int (Int32.ofNat n)), .val .null, .unset] [(.ref h0.size)])) _
    refine XS.astore X20.here hx rfl (hb hby d7_39) rfl rfl (l' := #[.val (.ref a1), .val (.ref a2), .val (.int (0 : Int32)), .val (.int (Int32.ofNat n)), .val .null, .val (.ref h0.size)]) rfl ?_
    show Steps p.tables e below (T20.setTop (mkF m 41 #[.val (.ref a1), .val (.ref a2), .val (.int (0 : Int32)), .val (.int (Int32.ofNat n)), .val .null, .val (.ref h0.size)] [])) _
    refine XS.aloadN X20.here hx rfl (hb hby d7_41) rfl rfl ?_
    show Steps p.tables e below (T20.setTop (mkF m 42 #[.val (.ref a1), .val (.ref a2), .val (.int (0 : Int32)), .val (.int (Int32.ofNat n)), .val .null, .val (.ref h0.size)] [(.ref a1)])) _
    refine XS.aload X20.here hx rfl (hb hby d7_42) rfl rfl ?_
    show Steps p.tables e below (T20.setTop (mkF m 44 #[.val (.ref a1), .val (.ref a2), .val (.int (0 : Int32)), .val (.int (Int32.ofNat n)), .val .null, .val (.ref h0.size)] [(.ref h0.size), (.ref a1)])) _
    refine XS.iloadN X20.here hx rfl (hb hby d7_44) rfl ?_
    exact kt
  obtain ⟨_, _, ⟨T21, L21, k21, n21⟩, -, X21, ⟨Lc21, hQ21, l21, y21, z21⟩, st21⟩ := Jvm.LawKit.callS X20 hx (y := (⟨"java/lang/StringUTF16", "coderFromArrayLen", "([BI)B"⟩ : MethodName)) hown (mvT hZ (hw _ (List.mem_of_getElem? (i := 41) rfl))) (mvT hZ (hw _ (List.mem_of_getElem? (i := 42) rfl))) (mvT hZ (hw _ (List.mem_of_getElem? (i := 36) rfl))) (mvT hZ (hw _ (List.mem_of_getElem? (i := 43) rfl))) (by decide) (backOf (W := 1) (u16_coder l Z a0 hw [] h0.size n (fun i => (f i).toInt8.toInt32) T20.heap n0 Z1 D20) hZ (hw _ (List.mem_of_getElem? (i := 43) rfl)) (hw _ (List.mem_of_getElem? (i := 36) rfl)) (by decide) (by decide)) (g := (mkF m 45 #[.val (.ref a1), .val (.ref a2), .val (.int (0 : Int32)), .val (.int (Int32.ofNat n)), .val .null, .val (.ref h0.size)] [(.int (Int32.ofNat n)), (.ref h0.size), (.ref a1)])) rfl (by rw [hml]; rfl) (argsL := [(.ref h0.size), (.int (Int32.ofNat n))]) (rest := [(.ref a1)]) (lenOf pd_9 rfl) rfl (by show 2 * 0 + _ ≤ _; exact Nat.le_of_eq rfl) (hb hby d7_45) (fun _ _ => ⟨rfl, rfl, (by decide : 1 + 0 ≤ _), (by decide : 12 + 0 ≤ _)⟩)
  dsimp only [Pt.U, Pt.locs, Pt.cells, Pt.slots] at X21 l21 y21 z21 st21 hQ21
  subst l21 y21 z21
  obtain ⟨rfl, N21q, e21⟩ := hQ21
  have N21 := Fr.app N20 N21q
  refine Ends.of st21 ?_
  have E_1 := E_a.keep K20
  have F_v1 := F_v.keep K20 nin0
  have F_c1 := F_c.keep K20 nin0
  obtain ⟨T22, h22, X22, e22, W22, st22⟩ := putFN X21 hx hZ hown (hw _ (List.mem_of_getElem? (i := 24) rfl)) Via.refl e21 F_c1 E_1 (Or.inr ⟨(hw _ (List.mem_of_getElem? (i := 25) rfl)), rfl, hnm⟩) (hw _ (List.mem_of_getElem? (i := 10) rfl)) (ty := .byte) (v' := (.int (0 : Int32))) (by decide) rfl rfl (g := (mkF m 48 #[.val (.ref a1), .val (.ref a2), .val (.int (0 : Int32)), .val (.int (Int32.ofNat n)), .val .null, .val (.ref h0.size)] [(.int (0 : Int32)), (.ref a1)])) rfl rfl (hb hby d7_48)
  refine Ends.of st22 ?_
  have N22 := Fr.snoc X22 N21 g_a
  have nab : h0.size ≠ a1 := Ne.symm (Nat.ne_of_lt E_a.lt)
  have F_v2 := F_v1.other W22 (Or.inr (slot_ne (Or.inr (hw _ (List.mem_of_getElem? (i := 23) rfl))) (Or.inr (hw _ (List.mem_of_getElem? (i := 25) rfl))) (by decide) (t := (.array .byte)) (t' := .byte) (by decide) (by decide)))
  have F_c2 := F_c1.same W22
  have E_2 := E_1.wr W22
  have D_2 := D20.other W22 nab
  have K_2 : Keep h0 h22 [a1] := ((Keep.refl h0 [a1]).trans K20 all0).wr W22 (Or.inl (List.mem_of_getElem? (i := 0) rfl))
  refine Ends.of (F' := T22.setTop (mkF m 54 #[.val (.ref a1), .val (.ref a2), .val (.int (0 : Int32)), .val (.int (Int32.ofNat n)), .val .null, .val (.ref h0.size)] [(.ref h0.size), (.ref a1)])) (fun _ kt => ?_) ?_
  · show Steps p.tables e below (T22.setTop (mkF m 51 #[.val (.ref a1), .val (.ref a2), .val (.int (0 : Int32)), .val (.int (Int32.ofNat n)), .val .null, .val (.ref h0.size)] [])) _
    refine XS.aloadN X22.here hx rfl (hb hby d7_51) rfl rfl ?_
    show Steps p.tables e below (T22.setTop (mkF m 52 #[.val (.ref a1), .val (.ref a2), .val (.int (0 : Int32)), .val (.int (Int32.ofNat n)), .val .null, .val (.ref h0.size)] [(.ref a1)])) _
    refine XS.aload X22.here hx rfl (hb hby d7_52) rfl rfl ?_
    exact kt
  obtain ⟨T23, h23, X23, e23, W23, st23⟩ := putF X22 hx hZ hown (host := "") (Or.inl (hw _ (List.mem_of_getElem? (i := 22) rfl))) Via.refl e22 F_v2 E_2 (Or.inr ⟨(hw _ (List.mem_of_getElem? (i := 23) rfl)), rfl, hnm⟩) (hw _ (List.mem_of_getElem? (i := 10) rfl)) (ty := (.array .byte)) (by decide) rfl rfl (g := (mkF m 54 #[.val (.ref a1), .val (.ref a2), .val (.int (0 : Int32)), .val (.int (Int32.ofNat n)), .val .null, .val (.ref h0.size)] [(.ref h0.size), (.ref a1)])) rfl rfl (hb hby d7_54)
  refine Ends.of st23 ?_
  have N23 := Fr.snoc X23 N22 g_a
  have F_c3 := F_c2.other W23 (Or.inr (slot_ne (Or.inr (hw _ (List.mem_of_getElem? (i := 25) rfl))) (Or.inr (hw _ (List.mem_of_getElem? (i := 23) rfl))) (by decide) (t := .byte) (t' := (.array .byte)) (by decide) (by decide)))
  have F_v3 := F_v2.same W23
  have E_3 := E_2.wr W23
  have D_3 := D_2.other W23 nab
  have K_3 : Keep h0 h23 [a1] := K_2.wr W23 (Or.inl (List.mem_of_getElem? (i := 0) rfl))
  rw [← e23] at F_c3 F_v3 E_3 D_3 K_3
  obtain ⟨fs, hr, hrun, hended, hW, hsame⟩ := X23.leave (v := none) (fun _ => rfl)
  exact ⟨_, _, X23.returnOut hx Bd.returns (hb hby d7_57) hr, hrun, hended, _, _, rfl, ⟨rfl, N23, K_3, _, ⟨E_3, F_c3, F_v3, D_3⟩, Nat.le_refl _⟩, ⟨_, rfl⟩, hW, hsame.mono (by decide) (by decide)⟩
theorem d6_0 : decode jdk_42_method_3_code 0 = .ok (.aload_n 0, 1) := by decide +kernel
theorem d6_1 : decode jdk_42_method_3_code 1 = .ok (.aload_n 1, 1) := by decide +kernel
theorem d6_2 : decode jdk_42_method_3_code 2 = .ok (.iconst 0, 1) := by decide +kernel
theorem d6_3 : decode jdk_42_method_3_code 3 = .ok (.aload_n 1, 1) := by decide +kernel
theorem d6_4 : decode jdk_42_method_3_code 4 = .ok (.arraylength, 1) := by decide +kernel
theorem d6_5 : decode jdk_42_method_3_code 5 = .ok (.aconst_null, 1) := by decide +kernel
theorem d6_6 : decode jdk_42_method_3_code 6 = .ok (.invokespecial 27, 3) := by decide +kernel
theorem d6_9 : decode jdk_42_method_3_code 9 = .ok (.return_, 1) := by decide +kernel
def Q_str_initC (Z : State) (a1 : Addr) (a2 : Addr) (n : Nat) (f : Nat → Int32) (cs : Int32) (h0 : Heap) (n0 : Nat) (v : Option Value) (h : Heap) (L : List Loc) : Prop := v = none ∧ Fr n0 L ∧ Keep h0 h [a1] ∧ ∃ b : Addr, Str Z h a1 b n (fun i => (f i).toInt8.toInt32) ∧ h0.size ≤ b
set_option maxRecDepth 65536 in
set_option maxHeartbeats 40000000 in
theorem str_initC (l : Launch) (Z : State) (a0 : Array Value) (hw : ∀ d ∈ tables_1, d.before a0 Z = true) (ws : List Jvm.Cond) (a1 : Addr) (a2 : Addr) (n : Nat) (f : Nat → Int32) (cs : Int32) (h0 : Heap) (n0 : Nat) (Z0 : n0 ≤ h0.size) (S0 : Sta Z Z.heap "java/lang/String" "COMPACT_STRINGS" "Z" (.int cs)) (hcs : ¬ cs = (0 : Int32)) (O : Oll Z n0 h0) (E_a : Exa Z h0 a1 "java/lang/String") (F_v : Fld Z h0 a1 "java/lang/String" "value" "[B" .null) (F_c : Fld Z h0 a1 "java/lang/String" "coder" "B" (.int (0 : Int32))) (C : Ary .char Z h0 a2 n f) (hf : ∀ i, i < n → ¬ (255 : Int32) < f i) (h1 : 1 ≤ n) (hn : n ≤ 12) (g_a : n0 ≤ a1) :
    MetFree l (⟨"java/lang/String", "<init>", "([C)V"⟩ : MethodName) (head1 (Jvm.Cond.code (⟨"java/lang/String", "<init>", "([C)V"⟩ : MethodName) jdk_42_method_3_code 2 none :: ws) ({ frames := 3, cells := 1, slots := 12, locals := 52 } : Room)) (fun a U => a = #[(.ref a1), (.ref a2)] ∧ Z.Warmed39 U.vm ∧ U.heap = h0) (fun _ _ _ _ _ => True) (fun _ U o U' => ∃ v L, o = .returned v ∧ Q_str_initC Z a1 a2 n f cs h0 n0 v U'.heap L ∧ FrameEnd U o U' L ({ frames := 3, cells := 1, slots := 12, locals := 52 } : Room).cells ({ frames := 3, cells := 1, slots := 12, locals := 52 } : Room).slots) := by
  refine MetFree.of_bodySF (plainFor_of_name pn_0) hisR ?_
  intro p e s m args below meth c s₁ Bd hml0 hP hK
  obtain ⟨rfl, hZ, hh⟩ := hP
  have hx := Bd.exec
  have hby := Bd.bytes
  have hml : c.maxLocals = 2 := hml0
  have hown : s.vm.findClass "java/lang/String" = some m.cls := findClass_of_methodNamed Bd.named
  have hnm := (name_of_methodNamed Bd.named Bd.method).1
  have X0 : Stand p l e ({ frames := 3, cells := 1, slots := 12, locals := 52 } : Room) s m #[(.ref a1), (.ref a2)] below meth c s₁ [] 0 0 := Stand.of_body Bd
  have e0 : s₁.heap = h0 := by rw [← hh, Bd.state]; rfl
  have N0 := Fr.nil n0
  have eF : entryFrame m #[(.ref a1), (.ref a2)] 2 = mkF m 0 #[.val (.ref a1), .val (.ref a2)] [] := by first | (simp [entryFrame, mkF, argsToLocals, Value.category]; done) | rfl
  show Ends p e below s ({ frames := 3, cells := 1, slots := 12, locals := 52 } : Room) (Q_str_initC Z a1 a2 n f cs h0 n0) (s₁.setTop (entryFrame m #[(.ref a1), (.ref a2)] 2))
  rw [eF]
  obtain ⟨cc, Ac, Sc, Hc, -⟩ := C.op
  refine Ends.of (F' := s₁.setTop (mkF m 6 #[.val (.ref a1), .val (.ref a2)] [.null, (.int (Int32.ofNat n)), (.int (0 : Int32)), (.ref a2), (.ref a1)])) (fun _ kt => ?_) ?_
  · show Steps p.tables e below (s₁.setTop (mkF m 0 #[.val (.ref a1), .val (.ref a2)] [])) _
    refine XS.aloadN X0.here hx rfl (hb hby d6_0) rfl rfl ?_
    show Steps p.tables e below (s₁.setTop (mkF m 1 #[.val (.ref a1), .val (.ref a2)] [(.ref a1)])) _
    refine XS.aloadN X0.here hx rfl (hb hby d6_1) rfl rfl ?_
    show Steps p.tables e below (s₁.setTop (mkF m 2 #[.val (.ref a1), .val (.ref a2)] [(.ref a2), (.ref a1)])) _
    refine XS.iconst X0.here hx rfl (hb hby d6_2) ?_
    show Steps p.tables e below (s₁.setTop (mkF m 3 #[.val (.ref a1), .val (.ref a2)] [(.int (0 : Int32)), (.ref a2), (.ref a1)])) _
    refine XS.aloadN X0.here hx rfl (hb hby d6_3) rfl rfl ?_
    show Steps p.tables e below (s₁.setTop (mkF m 4 #[.val (.ref a1), .val (.ref a2)] [(.ref a2), (.int (0 : Int32)), (.ref a2), (.ref a1)])) _
    refine X0.arraylength hx (by rw [e0]; exact Ac.1) (State.isArrayOf_alike hZ.alike Ac.2.1) (g := (mkF m 4 #[.val (.ref a1), .val (.ref a2)] [(.ref a2), (.int (0 : Int32)), (.ref a2), (.ref a1)])) rfl rfl (hb hby d6_4) _ ?_
    rw [Sc]
    show Steps p.tables e below (s₁.setTop (mkF m 5 #[.val (.ref a1), .val (.ref a2)] [(.int (Int32.ofNat n)), (.int (0 : Int32)), (.ref a2), (.ref a1)])) _
    refine XS.aconstNull X0.here hx rfl (hb hby d6_5) ?_
    exact kt
  obtain ⟨_, _, ⟨T24, L24, k24, n24⟩, -, X24, ⟨Lc24, hQ24, l24, y24, z24⟩, st24⟩ := X0.specialBack hx (y := (⟨"java/lang/String", "<init>", "([CIILjava/lang/Void;)V"⟩ : MethodName)) rfl hown (mvT hZ (hw _ (List.mem_of_getElem? (i := 31) rfl))) (mvT hZ (hw _ (List.mem_of_getElem? (i := 32) rfl))) (mvT hZ (hw _ (List.mem_of_getElem? (i := 33) rfl))) (by decide) (backOf (W := 0) (str_initCII l Z a0 hw [] a1 a2 n f cs h0 n0 Z0 S0 hcs O E_a F_v F_c C hf h1 hn g_a) hZ (hw _ (List.mem_of_getElem? (i := 33) rfl)) (hw _ (List.mem_of_getElem? (i := 2) rfl)) (by decide) (by decide)) (g := (mkF m 6 #[.val (.ref a1), .val (.ref a2)] [.null, (.int (Int32.ofNat n)), (.int (0 : Int32)), (.ref a2), (.ref a1)])) rfl (by rw [hml]; rfl) (Steps.refl _) (a := a1) (argsL := [(.ref a2), (.int (0 : Int32)), (.int (Int32.ofNat n)), .null]) (rest := []) (lenOf pd_6 rfl) rfl (by show 2 * 0 + _ ≤ _; exact Nat.le_of_eq rfl) (hb hby d6_6) (fun _ _ => ⟨rfl, e0, (by decide : 0 + 1 ≤ _), (by decide : 0 + 12 ≤ _)⟩)
  dsimp only [Pt.U, Pt.locs, Pt.cells, Pt.slots] at X24 l24 y24 z24 st24 hQ24
  subst l24 y24 z24
  obtain ⟨rfl, N24q, K24, b24, St24, gb24⟩ := hQ24
  have N24 := Fr.app N0 N24q
  refine Ends.st st24 ?_
  obtain ⟨fs, hr, hrun, hended, hW, hsame⟩ := X24.leave (v := none) (fun _ => rfl)
  exact ⟨_, _, X24.returnOut hx Bd.returns (hb hby d6_9) hr, hrun, hended, _, _, rfl, ⟨rfl, N24, K24, b24, St24, gb24⟩, ⟨_, rfl⟩, hW, hsame.mono (by decide) (by decide)⟩
theorem d37_0 : decode jdk_43_method_13_code 0 = .ok (.aload_n 0, 1) := by decide +kernel
theorem d37_1 : decode jdk_43_method_13_code 1 = .ok (.arraylength, 1) := by decide +kernel
theorem d37_2 : decode jdk_43_method_13_code 2 = .ok (.aload_n 1, 1) := by decide +kernel
theorem d37_3 : decode jdk_43_method_13_code 3 = .ok (.arraylength, 1) := by decide +kernel
theorem d37_4 : decode jdk_43_method_13_code 4 = .ok (.if_icmp .ne 30, 3) := by decide +kernel
theorem d37_7 : decode jdk_43_method_13_code 7 = .ok (.iconst 0, 1) := by decide +kernel
theorem d37_8 : decode jdk_43_method_13_code 8 = .ok (.istore_n 2, 1) := by decide +kernel
theorem d37_9 : decode jdk_43_method_13_code 9 = .ok (.iload_n 2, 1) := by decide +kernel
theorem d37_10 : decode jdk_43_method_13_code 10 = .ok (.aload_n 0, 1) := by decide +kernel
theorem d37_11 : decode jdk_43_method_13_code 11 = .ok (.arraylength, 1) := by decide +kernel
theorem d37_12 : decode jdk_43_method_13_code 12 = .ok (.if_icmp .ge 20, 3) := by decide +kernel
theorem d37_15 : decode jdk_43_method_13_code 15 = .ok (.aload_n 0, 1) := by decide +kernel
theorem d37_16 : decode jdk_43_method_13_code 16 = .ok (.iload_n 2, 1) := by decide +kernel
theorem d37_17 : decode jdk_43_method_13_code 17 = .ok (.baload, 1) := by decide +kernel
theorem d37_18 : decode jdk_43_method_13_code 18 = .ok (.aload_n 1, 1) := by decide +kernel
theorem d37_19 : decode jdk_43_method_13_code 19 = .ok (.iload_n 2, 1) := by decide +kernel
theorem d37_20 : decode jdk_43_method_13_code 20 = .ok (.baload, 1) := by decide +kernel
theorem d37_21 : decode jdk_43_method_13_code 21 = .ok (.if_icmp .eq 5, 3) := by decide +kernel
theorem d37_24 : decode jdk_43_method_13_code 24 = .ok (.iconst 0, 1) := by decide +kernel
theorem d37_25 : decode jdk_43_method_13_code 25 = .ok (.ireturn, 1) := by decide +kernel
theorem d37_26 : decode jdk_43_method_13_code 26 = .ok (.iinc 2 1, 3) := by decide +kernel
theorem d37_29 : decode jdk_43_method_13_code 29 = .ok (.goto (-20), 3) := by decide +kernel
theorem d37_32 : decode jdk_43_method_13_code 32 = .ok (.iconst 1, 1) := by decide +kernel
theorem d37_33 : decode jdk_43_method_13_code 33 = .ok (.ireturn, 1) := by decide +kernel
theorem d37_34 : decode jdk_43_method_13_code 34 = .ok (.iconst 0, 1) := by decide +kernel
theorem d37_35 : decode jdk_43_method_13_code 35 = .ok (.ireturn, 1) := by decide +kernel
def Q_lat_equals (Z : State) (a1 : Addr) (a2 : Addr) (n : Nat) (k : Nat) (f : Nat → Int32) (g : Nat → Int32) (h0 : Heap) (n0 : Nat) (v : Option Value) (h : Heap) (L : List Loc) : Prop := v = some (.int (if (n = k ∧ ∀ i, i < n → f i = g i) then (1 : Int32) else (0 : Int32))) ∧ Fr n0 L ∧ h = h0
set_option maxRecDepth 65536 in
set_option maxHeartbeats 40000000 in
theorem lat_equals (l : Launch) (Z : State) (a0 : Array Value) (hw : ∀ d ∈ tables_1, d.before a0 Z = true) (ws : List Jvm.Cond) (a1 : Addr) (a2 : Addr) (n : Nat) (k : Nat) (f : Nat → Int32) (g : Nat → Int32) (h0 : Heap) (n0 : Nat) (Z0 : n0 ≤ h0.size) (D1 : Ary .byte Z h0 a1 n f) (D2 : Ary .byte Z h0 a2 k g) :
    MetFree l (⟨"java/lang/StringLatin1", "equals", "([B[B)Z"⟩ : MethodName) (head1 (Jvm.Cond.code (⟨"java/lang/StringLatin1", "equals", "([B[B)Z"⟩ : MethodName) jdk_43_method_13_code 3 (some .boolean) :: ws) ({ frames := 0, cells := 0, slots := 0, locals := 0 } : Room)) (fun a U => a = #[(.ref a1), (.ref a2)] ∧ Z.Warmed39 U.vm ∧ U.heap = h0) (fun _ _ _ _ _ => True) (fun _ U o U' => ∃ v L, o = .returned v ∧ Q_lat_equals Z a1 a2 n k f g h0 n0 v U'.heap L ∧ FrameEnd U o U' L ({ frames := 0, cells := 0, slots := 0, locals := 0 } : Room).cells ({ frames := 0, cells := 0, slots := 0, locals := 0 } : Room).slots) := by
  refine MetFree.of_bodySF (plainFor_of_name pn_1) hisR ?_
  intro p e s m args below meth c s₁ Bd hml0 hP hK
  obtain ⟨rfl, hZ, hh⟩ := hP
  have hx := Bd.exec
  have hby := Bd.bytes
  have hml : c.maxLocals = 3 := hml0
  have hown : s.vm.findClass "java/lang/StringLatin1" = some m.cls := findClass_of_methodNamed Bd.named
  have hnm := (name_of_methodNamed Bd.named Bd.method).1
  have X0 : Stand p l e ({ frames := 0, cells := 0, slots := 0, locals := 0 } : Room) s m #[(.ref a1), (.ref a2)] below meth c s₁ [] 0 0 := Stand.of_body Bd
  have e0 : s₁.heap = h0 := by rw [← hh, Bd.state]; rfl
  have N0 := Fr.nil n0
  have eF : entryFrame m #[(.ref a1), (.ref a2)] 3 = mkF m 0 #[.val (.ref a1), .val (.ref a2), .unset] [] := by first | (simp [entryFrame, mkF, argsToLocals, Value.category]; done) | rfl
  show Ends p e below s ({ frames := 0, cells := 0, slots := 0, locals := 0 } : Room) (Q_lat_equals Z a1 a2 n k f g h0 n0) (s₁.setTop (entryFrame m #[(.ref a1), (.ref a2)] 3))
  rw [eF]
  have hn : n ≤ 100000 := D1.1
  have hk : k ≤ 100000 := D2.1
  obtain ⟨c1, A1, S1, H1, -⟩ := D1.op
  obtain ⟨c2, A2, S2, H2, -⟩ := D2.op
  have loop : ∀ (d i : Nat), i + d = n → n = k → (∀ j, j < i → f j = g j) → Ends p e below s ({ frames := 0, cells := 0, slots := 0, locals := 0 } : Room) (Q_lat_equals Z a1 a2 n k f g h0 n0) (s₁.setTop (mkF m 9 #[.val (.ref a1), .val (.ref a2), .val (.int (Int32.ofNat i))] [])) := by
    intro d
    induction d with
    | zero =>
      intro i hi hnk hall
      refine Ends.of (F' := s₁.setTop (mkF m 33 #[.val (.ref a1), .val (.ref a2), .val (.int (Int32.ofNat i))] [(.int (1 : Int32))])) (fun _ kt => ?_) ?_
      · show Steps p.tables e below (s₁.setTop (mkF m 9 #[.val (.ref a1), .val (.ref a2), .val (.int (Int32.ofNat i))] [])) _
        refine XS.iloadN X0.here hx rfl (hb hby d37_9) rfl ?_
        show Steps p.tables e below (s₁.setTop (mkF m 10 #[.val (.ref a1), .val (.ref a2), .val (.int (Int32.ofNat i))] [(.int (Int32.ofNat i))])) _
        refine XS.aloadN X0.here hx rfl (hb hby d37_10) rfl rfl ?_
        show Steps p.tables e below (s₁.setTop (mkF m 11 #[.val (.ref a1), .val (.ref a2), .val (.int (Int32.ofNat i))] [(.ref a1), (.int (Int32.ofNat i))])) _
        refine X0.arraylength hx (by rw [e0]; exact A1.1) (State.isArrayOf_alike hZ.alike A1.2.1) (g := (mkF m 11 #[.val (.ref a1), .val (.ref a2), .val (.int (Int32.ofNat i))] [(.ref a1), (.int (Int32.ofNat i))])) rfl rfl (hb hby d37_11) _ ?_
        rw [S1]
        show Steps p.tables e below (s₁.setTop (mkF m 12 #[.val (.ref a1), .val (.ref a2), .val (.int (Int32.ofNat i))] [(.int (Int32.ofNat n)), (.int (Int32.ofNat i))])) _
        refine XS.icmpYes X0.here hx rfl (pc0 := 12) (pc' := 32) rfl (hb hby d37_12) rfl (flt (mt (own_ltN i n (by omega) (by omega)).mp (by omega))).2.1 (by decide) (by decide) ?_
        show Steps p.tables e below (s₁.setTop (mkF m 32 #[.val (.ref a1), .val (.ref a2), .val (.int (Int32.ofNat i))] [])) _
        refine XS.iconst X0.here hx rfl (hb hby d37_32) ?_
        exact kt
      obtain ⟨fs, hr, hrun, hended, hW, hsame⟩ := X0.leave (v := some (.int (1 : Int32))) (fun h => by rw [Bd.returns] at h; cases h)
      exact ⟨_, _, retN X0 hx (t := .boolean) Bd.returns (by simp) (hb hby d37_33) hr, hrun, hended, _, _, rfl, ⟨by rw [if_pos ⟨hnk, fun j hj => hall j (by omega)⟩], N0, e0⟩, ⟨_, rfl⟩, hW, hsame.mono (by decide) (by decide)⟩
    | succ d ih =>
      intro i hi hnk hall
      refine Ends.of (F' := s₁.setTop (mkF m 21 #[.val (.ref a1), .val (.ref a2), .val (.int (Int32.ofNat i))] [(.int (g i)), (.int (f i))])) (fun _ kt => ?_) ?_
      · show Steps p.tables e below (s₁.setTop (mkF m 9 #[.val (.ref a1), .val (.ref a2), .val (.int (Int32.ofNat i))] [])) _
        refine XS.iloadN X0.here hx rfl (hb hby d37_9) rfl ?_
        show Steps p.tables e below (s₁.setTop (mkF m 10 #[.val (.ref a1), .val (.ref a2), .val (.int (Int32.ofNat i))] [(.int (Int32.ofNat i))])) _
        refine XS.aloadN X0.here hx rfl (hb hby d37_10) rfl rfl ?_
        show Steps p.tables e below (s₁.setTop (mkF m 11 #[.val (.ref a1), .val (.ref a2), .val (.int (Int32.ofNat i))] [(.ref a1), (.int (Int32.ofNat i))])) _
        refine X0.arraylength hx (by rw [e0]; exact A1.1) (State.isArrayOf_alike hZ.alike A1.2.1) (g := (mkF m 11 #[.val (.ref a1), .val (.ref a2), .val (.int (Int32.ofNat i))] [(.ref a1), (.int (Int32.ofNat i))])) rfl rfl (hb hby d37_11) _ ?_
        rw [S1]
        show Steps p.tables e below (s₁.setTop (mkF m 12 #[.val (.ref a1), .val (.ref a2), .val (.int (Int32.ofNat i))] [(.int (Int32.ofNat n)), (.int (Int32.ofNat i))])) _
        refine XS.icmpNo X0.here hx rfl (hb hby d37_12) rfl (tlt ((own_ltN i n (by omega) (by omega)).mpr (by omega))).2.1 ?_
        show Steps p.tables e below (s₁.setTop (mkF m 15 #[.val (.ref a1), .val (.ref a2), .val (.int (Int32.ofNat i))] [])) _
        refine XS.aloadN X0.here hx rfl (hb hby d37_15) rfl rfl ?_
        show Steps p.tables e below (s₁.setTop (mkF m 16 #[.val (.ref a1), .val (.ref a2), .val (.int (Int32.ofNat i))] [(.ref a1)])) _
        refine XS.iloadN X0.here hx rfl (hb hby d37_16) rfl ?_
        show Steps p.tables e below (s₁.setTop (mkF m 17 #[.val (.ref a1), .val (.ref a2), .val (.int (Int32.ofNat i))] [(.int (Int32.ofNat i)), (.ref a1)])) _
        refine X0.baloadBytes hx (j := (Int32.ofNat i)) (v := (.int (f i))) (by rw [e0]; exact A1.1) (State.isArrayOf_alike hZ.alike A1.2.1) A1.2.2 (own_hin S1 rfl (by omega) (by omega)) (own_hat H1 rfl (by omega) (by omega)) (g := (mkF m 17 #[.val (.ref a1), .val (.ref a2), .val (.int (Int32.ofNat i))] [(.int (Int32.ofNat i)), (.ref a1)])) rfl rfl (hb hby d37_17) _ ?_
        show Steps p.tables e below (s₁.setTop (mkF m 18 #[.val (.ref a1), .val (.ref a2), .val (.int (Int32.ofNat i))] [(.int (f i))])) _
        refine XS.aloadN X0.here hx rfl (hb hby d37_18) rfl rfl ?_
        show Steps p.tables e below (s₁.setTop (mkF m 19 #[.val (.ref a1), .val (.ref a2), .val (.int (Int32.ofNat i))] [(.ref a2), (.int (f i))])) _
        refine XS.iloadN X0.here hx rfl (hb hby d37_19) rfl ?_
        show Steps p.tables e below (s₁.setTop (mkF m 20 #[.val (.ref a1), .val (.ref a2), .val (.int (Int32.ofNat i))] [(.int (Int32.ofNat i)), (.ref a2), (.int (f i))])) _
        refine X0.baloadBytes hx (j := (Int32.ofNat i)) (v := (.int (g i))) (by rw [e0]; exact A2.1) (State.isArrayOf_alike hZ.alike A2.2.1) A2.2.2 (own_hin S2 rfl (by omega) (by omega)) (own_hat H2 rfl (by omega) (by omega)) (g := (mkF m 20 #[.val (.ref a1), .val (.ref a2), .val (.int (Int32.ofNat i))] [(.int (Int32.ofNat i)), (.ref a2), (.int (f i))])) rfl rfl (hb hby d37_20) _ ?_
        exact kt
      by_cases heq : (f i) = (g i)
      · refine Ends.of (F' := s₁.setTop (mkF m 9 #[.val (.ref a1), .val (.ref a2), .val (.int ((Int32.ofNat i) + (1 : Int32)))] [])) (fun _ kt => ?_) ?_
        · show Steps p.tables e below (s₁.setTop (mkF m 21 #[.val (.ref a1), .val (.ref a2), .val (.int (Int32.ofNat i))] [(.int (g i)), (.int (f i))])) _
          refine XS.icmpYes X0.here hx rfl (pc0 := 21) (pc' := 26) rfl (hb hby d37_21) rfl (teq heq).1 (by decide) (by decide) ?_
          show Steps p.tables e below (s₁.setTop (mkF m 26 #[.val (.ref a1), .val (.ref a2), .val (.int (Int32.ofNat i))] [])) _
          refine XS.iinc X0.here hx rfl (hb hby d37_26) rfl (l' := #[.val (.ref a1), .val (.ref a2), .val (.int ((Int32.ofNat i) + (1 : Int32)))]) rfl ?_
          show Steps p.tables e below (s₁.setTop (mkF m 29 #[.val (.ref a1), .val (.ref a2), .val (.int ((Int32.ofNat i) + (1 : Int32)))] [])) _
          refine XS.goto X0.here hx rfl (pc0 := 29) (pc' := 9) rfl (hb hby d37_29) (by decide) (by decide) ?_
          exact kt
        rw [show Int32.ofNat i + (1 : Int32) = Int32.ofNat (i + 1) from own_add i 1]
        refine ih (i + 1) (by omega) hnk (fun j hj => ?_)
        by_cases hji : j = i
        · rw [hji]; exact heq
        · exact hall j (by omega)
      · refine Ends.of (F' := s₁.setTop (mkF m 25 #[.val (.ref a1), .val (.ref a2), .val (.int (Int32.ofNat i))] [(.int (0 : Int32))])) (fun _ kt => ?_) ?_
        · show Steps p.tables e below (s₁.setTop (mkF m 21 #[.val (.ref a1), .val (.ref a2), .val (.int (Int32.ofNat i))] [(.int (g i)), (.int (f i))])) _
          refine XS.icmpNo X0.here hx rfl (hb hby d37_21) rfl (feq heq).1 ?_
          show Steps p.tables e below (s₁.setTop (mkF m 24 #[.val (.ref a1), .val (.ref a2), .val (.int (Int32.ofNat i))] [])) _
          refine XS.iconst X0.here hx rfl (hb hby d37_24) ?_
          exact kt
        obtain ⟨fs, hr, hrun, hended, hW, hsame⟩ := X0.leave (v := some (.int (0 : Int32))) (fun h => by rw [Bd.returns] at h; cases h)
        exact ⟨_, _, retN X0 hx (t := .boolean) Bd.returns (by simp) (hb hby d37_25) hr, hrun, hended, _, _, rfl, ⟨by rw [if_neg (fun q => heq (q.2 i (by omega)))], N0, e0⟩, ⟨_, rfl⟩, hW, hsame.mono (by decide) (by decide)⟩
  refine Ends.of (F' := s₁.setTop (mkF m 4 #[.val (.ref a1), .val (.ref a2), .unset] [(.int (Int32.ofNat k)), (.int (Int32.ofNat n))])) (fun _ kt => ?_) ?_
  · show Steps p.tables e below (s₁.setTop (mkF m 0 #[.val (.ref a1), .val (.ref a2), .unset] [])) _
    refine XS.aloadN X0.here hx rfl (hb hby d37_0) rfl rfl ?_
    show Steps p.tables e below (s₁.setTop (mkF m 1 #[.val (.ref a1), .val (.ref a2), .unset] [(.ref a1)])) _
    refine X0.arraylength hx (by rw [e0]; exact A1.1) (State.isArrayOf_alike hZ.alike A1.2.1) (g := (mkF m 1 #[.val (.ref a1), .val (.ref a2), .unset] [(.ref a1)])) rfl rfl (hb hby d37_1) _ ?_
    rw [S1]
    show Steps p.tables e below (s₁.setTop (mkF m 2 #[.val (.ref a1), .val (.ref a2), .unset] [(.int (Int32.ofNat n))])) _
    refine XS.aloadN X0.here hx rfl (hb hby d37_2) rfl rfl ?_
    show Steps p.tables e below (s₁.setTop (mkF m 3 #[.val (.ref a1), .val (.ref a2), .unset] [(.ref a2), (.int (Int32.ofNat n))])) _
    refine X0.arraylength hx (by rw [e0]; exact A2.1) (State.isArrayOf_alike hZ.alike A2.2.1) (g := (mkF m 3 #[.val (.ref a1), .val (.ref a2), .unset] [(.ref a2), (.int (Int32.ofNat n))])) rfl rfl (hb hby d37_3) _ ?_
    rw [S2]
    exact kt
  by_cases hnk : n = k
  · refine Ends.of (F' := s₁.setTop (mkF m 9 #[.val (.ref a1), .val (.ref a2), .val (.int (0 : Int32))] [])) (fun _ kt => ?_) ?_
    · show Steps p.tables e below (s₁.setTop (mkF m 4 #[.val (.ref a1), .val (.ref a2), .unset] [(.int (Int32.ofNat k)), (.int (Int32.ofNat n))])) _
      refine XS.icmpNo X0.here hx rfl (hb hby d37_4) rfl (teq ((own_eqN n k hn hk).mpr hnk)).2 ?_
      show Steps p.tables e below (s₁.setTop (mkF m 7 #[.val (.ref a1), .val (.ref a2), .unset] [])) _
      refine XS.iconst X0.here hx rfl (hb hby d37_7) ?_
      show Steps p.tables e below (s₁.setTop (mkF m 8 #[.val (.ref a1), .val (.ref a2), .unset] [(.int (0 : Int32))])) _
      refine XS.istoreN X0.here hx rfl (hb hby d37_8) rfl (l' := #[.val (.ref a1), .val (.ref a2), .val (.int (0 : Int32))]) rfl ?_
      exact kt
    exact loop n 0 (by omega) hnk (fun j hj => absurd hj (Nat.not_lt_zero j))
  · refine Ends.of (F' := s₁.setTop (mkF m 35 #[.val (.ref a1), .val (.ref a2), .unset] [(.int (0 : Int32))])) (fun _ kt => ?_) ?_
    · show Steps p.tables e below (s₁.setTop (mkF m 4 #[.val (.ref a1), .val (.ref a2), .unset] [(.int (Int32.ofNat k)), (.int (Int32.ofNat n))])) _
      refine XS.icmpYes X0.here hx rfl (pc0 := 4) (pc' := 34) rfl (hb hby d37_4) rfl (feq (mt (own_eqN n k hn hk).mp hnk)).2 (by decide) (by decide) ?_
      show Steps p.tables e below (s₁.setTop (mkF m 34 #[.val (.ref a1), .val (.ref a2), .unset] [])) _
      refine XS.iconst X0.here hx rfl (hb hby d37_34) ?_
      exact kt
    obtain ⟨fs, hr, hrun, hended, hW, hsame⟩ := X0.leave (v := some (.int (0 : Int32))) (fun h => by rw [Bd.returns] at h; cases h)
    exact ⟨_, _, retN X0 hx (t := .boolean) Bd.returns (by simp) (hb hby d37_35) hr, hrun, hended, _, _, rfl, ⟨by rw [if_neg (fun q => hnk q.1)], N0, e0⟩, ⟨_, rfl⟩, hW, hsame.mono (by decide) (by decide)⟩
theorem d36_0 : decode jdk_42_method_66_code 0 = .ok (.aload_n 0, 1) := by decide +kernel
theorem d36_1 : decode jdk_42_method_66_code 1 = .ok (.aload_n 1, 1) := by decide +kernel
theorem d36_2 : decode jdk_42_method_66_code 2 = .ok (.if_acmp .ne 5, 3) := by decide +kernel
theorem d36_5 : decode jdk_42_method_66_code 5 = .ok (.iconst 1, 1) := by decide +kernel
theorem d36_6 : decode jdk_42_method_66_code 6 = .ok (.ireturn, 1) := by decide +kernel
theorem d36_7 : decode jdk_42_method_66_code 7 = .ok (.aload_n 1, 1) := by decide +kernel
theorem d36_8 : decode jdk_42_method_66_code 8 = .ok (.instanceof 10, 3) := by decide +kernel
theorem d36_11 : decode jdk_42_method_66_code 11 = .ok (.ifCond .eq 43, 3) := by decide +kernel
theorem d36_14 : decode jdk_42_method_66_code 14 = .ok (.aload_n 1, 1) := by decide +kernel
theorem d36_15 : decode jdk_42_method_66_code 15 = .ok (.checkcast 10, 3) := by decide +kernel
theorem d36_18 : decode jdk_42_method_66_code 18 = .ok (.astore_n 2, 1) := by decide +kernel
theorem d36_19 : decode jdk_42_method_66_code 19 = .ok (.getstatic 38, 3) := by decide +kernel
theorem d36_22 : decode jdk_42_method_66_code 22 = .ok (.ifCond .eq 14, 3) := by decide +kernel
theorem d36_25 : decode jdk_42_method_66_code 25 = .ok (.aload_n 0, 1) := by decide +kernel
theorem d36_26 : decode jdk_42_method_66_code 26 = .ok (.getfield 15, 3) := by decide +kernel
theorem d36_29 : decode jdk_42_method_66_code 29 = .ok (.aload_n 2, 1) := by decide +kernel
theorem d36_30 : decode jdk_42_method_66_code 30 = .ok (.getfield 15, 3) := by decide +kernel
theorem d36_33 : decode jdk_42_method_66_code 33 = .ok (.if_icmp .ne 21, 3) := by decide +kernel
theorem d36_36 : decode jdk_42_method_66_code 36 = .ok (.aload_n 0, 1) := by decide +kernel
theorem d36_37 : decode jdk_42_method_66_code 37 = .ok (.getfield 9, 3) := by decide +kernel
theorem d36_40 : decode jdk_42_method_66_code 40 = .ok (.aload_n 2, 1) := by decide +kernel
theorem d36_41 : decode jdk_42_method_66_code 41 = .ok (.getfield 9, 3) := by decide +kernel
theorem d36_44 : decode jdk_42_method_66_code 44 = .ok (.invokestatic 541, 3) := by decide +kernel
theorem d36_47 : decode jdk_42_method_66_code 47 = .ok (.ifCond .eq 7, 3) := by decide +kernel
theorem d36_50 : decode jdk_42_method_66_code 50 = .ok (.iconst 1, 1) := by decide +kernel
theorem d36_51 : decode jdk_42_method_66_code 51 = .ok (.goto 4, 3) := by decide +kernel
theorem d36_54 : decode jdk_42_method_66_code 54 = .ok (.iconst 0, 1) := by decide +kernel
theorem d36_55 : decode jdk_42_method_66_code 55 = .ok (.ireturn, 1) := by decide +kernel
def Q_str_equals (Z : State) (a1 : Addr) (a2 : Addr) (b1 : Addr) (b2 : Addr) (n : Nat) (k : Nat) (f : Nat → Int32) (g : Nat → Int32) (cs : Int32) (h0 : Heap) (n0 : Nat) (v : Option Value) (h : Heap) (L : List Loc) : Prop := v = some (.int (if (n = k ∧ ∀ i, i < n → f i = g i) then (1 : Int32) else (0 : Int32))) ∧ Fr n0 L ∧ h = h0
set_option maxRecDepth 65536 in
set_option maxHeartbeats 40000000 in
theorem str_equals (l : Launch) (Z : State) (a0 : Array Value) (hw : ∀ d ∈ tables_1, d.before a0 Z = true) (ws : List Jvm.Cond) (a1 : Addr) (a2 : Addr) (b1 : Addr) (b2 : Addr) (n : Nat) (k : Nat) (f : Nat → Int32) (g : Nat → Int32) (cs : Int32) (h0 : Heap) (n0 : Nat) (Z0 : n0 ≤ h0.size) (S0 : Sta Z Z.heap "java/lang/String" "COMPACT_STRINGS" "Z" (.int cs)) (hcs : ¬ cs = (0 : Int32)) (O : Oll Z n0 h0) (St1 : Str Z h0 a1 b1 n f) (St2 : Str Z h0 a2 b2 k g) (ne : ¬ a1 = a2) :
    MetFree l (⟨"java/lang/String", "equals", "(Ljava/lang/Object;)Z"⟩ : MethodName) (head1 (Jvm.Cond.code (⟨"java/lang/String", "equals", "(Ljava/lang/Object;)Z"⟩ : MethodName) jdk_42_method_66_code 3 (some .boolean) :: ws) ({ frames := 1, cells := 0, slots := 0, locals := 14 } : Room)) (fun a U => a = #[(.ref a1), (.ref a2)] ∧ Z.Warmed39 U.vm ∧ U.heap = h0) (fun _ _ _ _ _ => True) (fun _ U o U' => ∃ v L, o = .returned v ∧ Q_str_equals Z a1 a2 b1 b2 n k f g cs h0 n0 v U'.heap L ∧ FrameEnd U o U' L ({ frames := 1, cells := 0, slots := 0, locals := 14 } : Room).cells ({ frames := 1, cells := 0, slots := 0, locals := 14 } : Room).slots) := by
  refine MetFree.of_bodySF (plainFor_of_name pn_0) hisR ?_
  intro p e s m args below meth c s₁ Bd hml0 hP hK
  obtain ⟨rfl, hZ, hh⟩ := hP
  have hx := Bd.exec
  have hby := Bd.bytes
  have hml : c.maxLocals = 3 := hml0
  have hown : s.vm.findClass "java/lang/String" = some m.cls := findClass_of_methodNamed Bd.named
  have hnm := (name_of_methodNamed Bd.named Bd.method).1
  have X0 : Stand p l e ({ frames := 1, cells := 0, slots := 0, locals := 14 } : Room) s m #[(.ref a1), (.ref a2)] below meth c s₁ [] 0 0 := Stand.of_body Bd
  have e0 : s₁.heap = h0 := by rw [← hh, Bd.state]; rfl
  have N0 := Fr.nil n0
  have eF : entryFrame m #[(.ref a1), (.ref a2)] 3 = mkF m 0 #[.val (.ref a1), .val (.ref a2), .unset] [] := by first | (simp [entryFrame, mkF, argsToLocals, Value.category]; done) | rfl
  show Ends p e below s ({ frames := 1, cells := 0, slots := 0, locals := 14 } : Room) (Q_str_equals Z a1 a2 b1 b2 n k f g cs h0 n0) (s₁.setTop (entryFrame m #[(.ref a1), (.ref a2)] 3))
  rw [eF]
  refine Ends.of (F' := s₁.setTop (mkF m 8 #[.val (.ref a1), .val (.ref a2), .unset] [(.ref a2)])) (fun _ kt => ?_) ?_
  · show Steps p.tables e below (s₁.setTop (mkF m 0 #[.val (.ref a1), .val (.ref a2), .unset] [])) _
    refine XS.aloadN X0.here hx rfl (hb hby d36_0) rfl rfl ?_
    show Steps p.tables e below (s₁.setTop (mkF m 1 #[.val (.ref a1), .val (.ref a2), .unset] [(.ref a1)])) _
    refine XS.aloadN X0.here hx rfl (hb hby d36_1) rfl rfl ?_
    show Steps p.tables e below (s₁.setTop (mkF m 2 #[.val (.ref a1), .val (.ref a2), .unset] [(.ref a2), (.ref a1)])) _
    refine Jvm.RoadKit.acmp (g := (mkF m 2 #[.val (.ref a1), .val (.ref a2), .unset] [(.ref a2), (.ref a1)])) X0 hx rfl rfl rfl (pc0 := 2) (pc' := 7) (same := false) rfl (hb hby d36_2) rfl (decide_eq_false fun q => ne (Value.ref.inj q)) (by decide) (by decide) ?_
    show Steps p.tables e below (s₁.setTop (mkF m 7 #[.val (.ref a1), .val (.ref a2), .unset] [])) _
    refine XS.aloadN X0.here hx rfl (hb hby d36_7) rfl rfl ?_
    exact kt
  obtain ⟨T25, X25, e25, st25⟩ := instY X0 hx hZ hown (hw _ (List.mem_of_getElem? (i := 9) rfl)) e0 (Ins.self St2.1) (g := (mkF m 8 #[.val (.ref a1), .val (.ref a2), .unset] [(.ref a2)])) rfl rfl (hb hby d36_8)
  refine Ends.of st25 ?_
  refine Ends.of (F' := T25.setTop (mkF m 15 #[.val (.ref a1), .val (.ref a2), .unset] [(.ref a2)])) (fun _ kt => ?_) ?_
  · show Steps p.tables e below (T25.setTop (mkF m 11 #[.val (.ref a1), .val (.ref a2), .unset] [(.int (1 : Int32))])) _
    refine XS.ifNo X25.here hx rfl (hb hby d36_11) rfl ((if0 _ _).trans (feq (by decide)).1) ?_
    show Steps p.tables e below (T25.setTop (mkF m 14 #[.val (.ref a1), .val (.ref a2), .unset] [])) _
    refine XS.aloadN X25.here hx rfl (hb hby d36_14) rfl rfl ?_
    exact kt
  obtain ⟨T26, X26, e26, st26⟩ := castY X25 hx hZ hown (hw _ (List.mem_of_getElem? (i := 9) rfl)) e25 (Ins.self St2.1) (g := (mkF m 15 #[.val (.ref a1), .val (.ref a2), .unset] [(.ref a2)])) rfl rfl (hb hby d36_15)
  refine Ends.of st26 ?_
  refine Ends.of (F' := T26.setTop (mkF m 19 #[.val (.ref a1), .val (.ref a2), .val (.ref a2)] [])) (fun _ kt => ?_) ?_
  · show Steps p.tables e below (T26.setTop (mkF m 18 #[.val (.ref a1), .val (.ref a2), .unset] [(.ref a2)])) _
    refine XS.astoreN X26.here hx rfl (hb hby d36_18) rfl rfl (l' := #[.val (.ref a1), .val (.ref a2), .val (.ref a2)]) rfl ?_
    exact kt
  obtain ⟨T27, X27, e27, st27⟩ := getS2 X26 hx hZ hown (host := "") (Or.inl (hw _ (List.mem_of_getElem? (i := 4) rfl))) Via.refl e26 (S0.ext O.2) (g := (mkF m 19 #[.val (.ref a1), .val (.ref a2), .val (.ref a2)] [])) rfl (hb hby d36_19)
  refine Ends.of st27 ?_
  refine Ends.of (F' := T27.setTop (mkF m 26 #[.val (.ref a1), .val (.ref a2), .val (.ref a2)] [(.ref a1)])) (fun _ kt => ?_) ?_
  · show Steps p.tables e below (T27.setTop (mkF m 22 #[.val (.ref a1), .val (.ref a2), .val (.ref a2)] [(.int cs)])) _
    refine XS.ifNo X27.here hx rfl (hb hby d36_22) rfl ((if0 _ _).trans (feq hcs).1) ?_
    show Steps p.tables e below (T27.setTop (mkF m 25 #[.val (.ref a1), .val (.ref a2), .val (.ref a2)] [])) _
    refine XS.aloadN X27.here hx rfl (hb hby d36_25) rfl rfl ?_
    exact kt
  obtain ⟨T28, X28, e28, st28⟩ := getF X27 hx hZ hown (host := "") (Or.inl (hw _ (List.mem_of_getElem? (i := 24) rfl))) Via.refl e27 St1.2.1 (g := (mkF m 26 #[.val (.ref a1), .val (.ref a2), .val (.ref a2)] [(.ref a1)])) rfl rfl (hb hby d36_26)
  refine Ends.of st28 ?_
  refine Ends.of (F' := T28.setTop (mkF m 30 #[.val (.ref a1), .val (.ref a2), .val (.ref a2)] [(.ref a2), (.int (0 : Int32))])) (fun _ kt => ?_) ?_
  · show Steps p.tables e below (T28.setTop (mkF m 29 #[.val (.ref a1), .val (.ref a2), .val (.ref a2)] [(.int (0 : Int32))])) _
    refine XS.aloadN X28.here hx rfl (hb hby d36_29) rfl rfl ?_
    exact kt
  obtain ⟨T29, X29, e29, st29⟩ := getF X28 hx hZ hown (host := "") (Or.inl (hw _ (List.mem_of_getElem? (i := 24) rfl))) Via.refl e28 St2.2.1 (g := (mkF m 30 #[.val (.ref a1), .val (.ref a2), .val (.ref a2)] [(.ref a2), (.int (0 : Int32))])) rfl rfl (hb hby d36_30)
  refine Ends.of st29 ?_
  refine Ends.of (F' := T29.setTop (mkF m 37 #[.val (.ref a1), .val (.ref a2), .val (.ref a2)] [(.ref a1)])) (fun _ kt => ?_) ?_
  · show Steps p.tables e below (T29.setTop (mkF m 33 #[.val (.ref a1), .val (.ref a2), .val (.ref a2)] [(.int (0 : Int32)), (.int (0 : Int32))])) _
    refine XS.icmpNo X29.here hx rfl (hb hby d36_33) rfl (teq rfl).2 ?_
    show Steps p.tables e below (T29.setTop (mkF m 36 #[.val (.ref a1), .val (.ref a2), .val (.ref a2)] [])) _
    refine XS.aloadN X29.here hx rfl (hb hby d36_36) rfl rfl ?_
    exact kt
  obtain ⟨T30, X30, e30, st30⟩ := getF X29 hx hZ hown (host := "") (Or.inl (hw _ (List.mem_of_getElem? (i := 22) rfl))) Via.refl e29 St1.2.2.1 (g := (mkF m 37 #[.val (.ref a1), .val (.ref a2), .val (.ref a2)] [(.ref a1)])) rfl rfl (hb hby d36_37)
  refine Ends.of st30 ?_
  refine Ends.of (F' := T30.setTop (mkF m 41 #[.val (.ref a1), .val (.ref a2), .val (.ref a2)] [(.ref a2), (.ref b1)])) (fun _ kt => ?_) ?_
  · show Steps p.tables e below (T30.setTop (mkF m 40 #[.val (.ref a1), .val (.ref a2), .val (.ref a2)] [(.ref b1)])) _
    refine XS.aloadN X30.here hx rfl (hb hby d36_40) rfl rfl ?_
    exact kt
  obtain ⟨T31, X31, e31, st31⟩ := getF X30 hx hZ hown (host := "") (Or.inl (hw _ (List.mem_of_getElem? (i := 22) rfl))) Via.refl e30 St2.2.2.1 (g := (mkF m 41 #[.val (.ref a1), .val (.ref a2), .val (.ref a2)] [(.ref a2), (.ref b1)])) rfl rfl (hb hby d36_41)
  refine Ends.of st31 ?_
  obtain ⟨_, _, ⟨T32, L32, k32, n32⟩, -, X32, ⟨Lc32, hQ32, l32, y32, z32⟩, st32⟩ := Jvm.LawKit.callS X31 hx (y := (⟨"java/lang/StringLatin1", "equals", "([B[B)Z"⟩ : MethodName)) hown (mvT hZ (hw _ (List.mem_of_getElem? (i := 190) rfl))) (mvT hZ (hw _ (List.mem_of_getElem? (i := 191) rfl))) (mvT hZ (hw _ (List.mem_of_getElem? (i := 7) rfl))) (mvT hZ (hw _ (List.mem_of_getElem? (i := 192) rfl))) (by decide) (backOf (W := 0) (lat_equals l Z a0 hw [] b1 b2 n k f g h0 n0 Z0 St1.2.2.2 St2.2.2.2) hZ (hw _ (List.mem_of_getElem? (i := 192) rfl)) (hw _ (List.mem_of_getElem? (i := 7) rfl)) (by decide) (by decide)) (g := (mkF m 44 #[.val (.ref a1), .val (.ref a2), .val (.ref a2)] [(.ref b2), (.ref b1)])) rfl (by rw [hml]; rfl) (argsL := [(.ref b1), (.ref b2)]) (rest := []) (lenOf pd_30 rfl) rfl (by show 2 * 0 + _ ≤ _; exact Nat.le_of_eq rfl) (hb hby d36_44) (fun _ _ => ⟨rfl, e31, (by decide : 0 + 0 ≤ _), (by decide : 0 + 0 ≤ _)⟩)
  dsimp only [Pt.U, Pt.locs, Pt.cells, Pt.slots] at X32 l32 y32 z32 st32 hQ32
  subst l32 y32 z32
  obtain ⟨rfl, N32q, e32⟩ := hQ32
  have N32 := Fr.app N0 N32q
  refine Ends.of st32 ?_
  by_cases hE : (n = k ∧ ∀ i, i < n → f i = g i)
  · refine Ends.of (F' := T32.setTop (mkF m 55 #[.val (.ref a1), .val (.ref a2), .val (.ref a2)] [(.int (1 : Int32))])) (fun _ kt => ?_) ?_
    · show Steps p.tables e below (T32.setTop (mkF m 47 #[.val (.ref a1), .val (.ref a2), .val (.ref a2)] [(.int (if (n = k ∧ ∀ i, i < n → f i = g i) then (1 : Int32) else (0 : Int32)))])) _
      refine XS.ifNo X32.here hx rfl (hb hby d36_47) rfl ((if0 _ _).trans (feq (by rw [if_pos hE]; decide)).1) ?_
      show Steps p.tables e below (T32.setTop (mkF m 50 #[.val (.ref a1), .val (.ref a2), .val (.ref a2)] [])) _
      refine XS.iconst X32.here hx rfl (hb hby d36_50) ?_
      show Steps p.tables e below (T32.setTop (mkF m 51 #[.val (.ref a1), .val (.ref a2), .val (.ref a2)] [(.int (1 : Int32))])) _
      refine XS.goto X32.here hx rfl (pc0 := 51) (pc' := 55) rfl (hb hby d36_51) (by decide) (by decide) ?_
      exact kt
    obtain ⟨fs, hr, hrun, hended, hW, hsame⟩ := X32.leave (v := some (.int (1 : Int32))) (fun h => by rw [Bd.returns] at h; cases h)
    exact ⟨_, _, retN X32 hx (t := .boolean) Bd.returns (by simp) (hb hby d36_55) hr, hrun, hended, _, _, rfl, ⟨by rw [if_pos hE], N32, e32⟩, ⟨_, rfl⟩, hW, hsame.mono (by decide) (by decide)⟩
  · refine Ends.of (F' := T32.setTop (mkF m 55 #[.val (.ref a1), .val (.ref a2), .val (.ref a2)] [(.int (0 : Int32))])) (fun _ kt => ?_) ?_
    · show Steps p.tables e below (T32.setTop (mkF m 47 #[.val (.ref a1), .val (.ref a2), .val (.ref a2)] [(.int (if (n = k ∧ ∀ i, i < n → f i = g i) then (1 : Int32) else (0 : Int32)))])) _
      refine XS.ifYes X32.here hx rfl (pc0 := 47) (pc' := 54) rfl (hb hby d36_47) rfl ((if0 _ _).trans (teq (if_neg hE)).1) (by decide) (by decide) ?_
      show Steps p.tables e below (T32.setTop (mkF m 54 #[.val (.ref a1), .val (.ref a2), .val (.ref a2)] [])) _
      refine XS.iconst X32.here hx rfl (hb hby d36_54) ?_
      exact kt
    obtain ⟨fs, hr, hrun, hended, hW, hsame⟩ := X32.leave (v := some (.int (0 : Int32))) (fun h => by rw [Bd.returns] at h; cases h)
    exact ⟨_, _, retN X32 hx (t := .boolean) Bd.returns (by simp) (hb hby d36_55) hr, hrun, hended, _, _, rfl, ⟨by rw [if_neg hE], N32, e32⟩, ⟨_, rfl⟩, hW, hsame.mono (by decide) (by decide)⟩
theorem d31_0 : decode jdk_68_method_68_code 0 = .ok (.getstatic 18, 3) := by decide +kernel
theorem d31_3 : decode jdk_68_method_68_code 3 = .ok (.ifCond .eq 14, 3) := by decide +kernel
theorem d31_6 : decode jdk_68_method_68_code 6 = .ok (.aload_n 0, 1) := by decide +kernel
theorem d31_7 : decode jdk_68_method_68_code 7 = .ok (.getfield 22, 3) := by decide +kernel
theorem d31_10 : decode jdk_68_method_68_code 10 = .ok (.ifCond .ne 7, 3) := by decide +kernel
theorem d31_13 : decode jdk_68_method_68_code 13 = .ok (.iconst 1, 1) := by decide +kernel
theorem d31_14 : decode jdk_68_method_68_code 14 = .ok (.goto 4, 3) := by decide +kernel
theorem d31_17 : decode jdk_68_method_68_code 17 = .ok (.iconst 0, 1) := by decide +kernel
theorem d31_18 : decode jdk_68_method_68_code 18 = .ok (.ireturn, 1) := by decide +kernel
theorem pn_3 : plainName "java/lang/AbstractStringBuilder" = true := by first | (simp [plainName, overriddenIn]; done) | decide +kernel
def Q_asb_lat (Z : State) (a1 : Addr) (cs : Int32) (h0 : Heap) (n0 : Nat) (v : Option Value) (h : Heap) (L : List Loc) : Prop := v = some (.int (1 : Int32)) ∧ Fr n0 L ∧ h = h0
set_option maxRecDepth 65536 in
set_option maxHeartbeats 40000000 in
theorem asb_lat (l : Launch) (Z : State) (a0 : Array Value) (hw : ∀ d ∈ tables_1, d.before a0 Z = true) (ws : List Jvm.Cond) (a1 : Addr) (cs : Int32) (h0 : Heap) (n0 : Nat) (Z0 : n0 ≤ h0.size) (S0 : Sta Z Z.heap "java/lang/String" "COMPACT_STRINGS" "Z" (.int cs)) (hcs : ¬ cs = (0 : Int32)) (O : Oll Z n0 h0) (F_c : Fld Z h0 a1 "java/lang/AbstractStringBuilder" "coder" "B" (.int (0 : Int32))) :
    MetFree l (⟨"java/lang/AbstractStringBuilder", "isLatin1", "()Z"⟩ : MethodName) (head1 (Jvm.Cond.code (⟨"java/lang/AbstractStringBuilder", "isLatin1", "()Z"⟩ : MethodName) jdk_68_method_68_code 1 (some .boolean) :: ws) ({ frames := 0, cells := 0, slots := 0, locals := 0 } : Room)) (fun a U => a = #[(.ref a1)] ∧ Z.Warmed39 U.vm ∧ U.heap = h0) (fun _ _ _ _ _ => True) (fun _ U o U' => ∃ v L, o = .returned v ∧ Q_asb_lat Z a1 cs h0 n0 v U'.heap L ∧ FrameEnd U o U' L ({ frames := 0, cells := 0, slots := 0, locals := 0 } : Room).cells ({ frames := 0, cells := 0, slots := 0, locals := 0 } : Room).slots) := by
  refine MetFree.of_bodySF (plainFor_of_name pn_3) hisR ?_
  intro p e s m args below meth c s₁ Bd hml0 hP hK
  obtain ⟨rfl, hZ, hh⟩ := hP
  have hx := Bd.exec
  have hby := Bd.bytes
  have hml : c.maxLocals = 1 := hml0
  have hown : s.vm.findClass "java/lang/AbstractStringBuilder" = some m.cls := findClass_of_methodNamed Bd.named
  have hnm := (name_of_methodNamed Bd.named Bd.method).1
  have X0 : Stand p l e ({ frames := 0, cells := 0, slots := 0, locals := 0 } : Room) s m #[(.ref a1)] below meth c s₁ [] 0 0 := Stand.of_body Bd
  have e0 : s₁.heap = h0 := by rw [← hh, Bd.state]; rfl
  have N0 := Fr.nil n0
  have eF : entryFrame m #[(.ref a1)] 1 = mkF m 0 #[.val (.ref a1)] [] := by first | (simp [entryFrame, mkF, argsToLocals, Value.category]; done) | rfl
  show Ends p e below s ({ frames := 0, cells := 0, slots := 0, locals := 0 } : Room) (Q_asb_lat Z a1 cs h0 n0) (s₁.setTop (entryFrame m #[(.ref a1)] 1))
  rw [eF]
  obtain ⟨T33, X33, e33, st33⟩ := getS2 X0 hx hZ hown (host := "") (Or.inl (hw _ (List.mem_of_getElem? (i := 129) rfl))) Via.refl e0 (S0.ext O.2) (g := (mkF m 0 #[.val (.ref a1)] [])) rfl (hb hby d31_0)
  refine Ends.of st33 ?_
  refine Ends.of (F' := T33.setTop (mkF m 7 #[.val (.ref a1)] [(.ref a1)])) (fun _ kt => ?_) ?_
  · show Steps p.tables e below (T33.setTop (mkF m 3 #[.val (.ref a1)] [(.int cs)])) _
    refine XS.ifNo X33.here hx rfl (hb hby d31_3) rfl ((if0 _ _).trans (feq hcs).1) ?_
    show Steps p.tables e below (T33.setTop (mkF m 6 #[.val (.ref a1)] [])) _
    refine XS.aloadN X33.here hx rfl (hb hby d31_6) rfl rfl ?_
    exact kt
  obtain ⟨T34, X34, e34, st34⟩ := getF X33 hx hZ hown (host := "") (Or.inl (hw _ (List.mem_of_getElem? (i := 94) rfl))) Via.refl e33 F_c (g := (mkF m 7 #[.val (.ref a1)] [(.ref a1)])) rfl rfl (hb hby d31_7)
  refine Ends.of st34 ?_
  refine Ends.of (F' := T34.setTop (mkF m 18 #[.val (.ref a1)] [(.int (1 : Int32))])) (fun _ kt => ?_) ?_
  · show Steps p.tables e below (T34.setTop (mkF m 10 #[.val (.ref a1)] [(.int (0 : Int32))])) _
    refine XS.ifNo X34.here hx rfl (hb hby d31_10) rfl ((if0 _ _).trans (teq rfl).2) ?_
    show Steps p.tables e below (T34.setTop (mkF m 13 #[.val (.ref a1)] [])) _
    refine XS.iconst X34.here hx rfl (hb hby d31_13) ?_
    show Steps p.tables e below (T34.setTop (mkF m 14 #[.val (.ref a1)] [(.int (1 : Int32))])) _
    refine XS.goto X34.here hx rfl (pc0 := 14) (pc' := 18) rfl (hb hby d31_14) (by decide) (by decide) ?_
    exact kt
  obtain ⟨fs, hr, hrun, hended, hW, hsame⟩ := X34.leave (v := some (.int (1 : Int32))) (fun h => by rw [Bd.returns] at h; cases h)
  exact ⟨_, _, retN X34 hx (t := .boolean) Bd.returns (by simp) (hb hby d31_18) hr, hrun, hended, _, _, rfl, ⟨rfl, N0, e34⟩, ⟨_, rfl⟩, hW, hsame.mono (by decide) (by decide)⟩
theorem d21_0 : decode jdk_68_method_9_code 0 = .ok (.aload_n 0, 1) := by decide +kernel
theorem d21_1 : decode jdk_68_method_9_code 1 = .ok (.getfield 15, 3) := by decide +kernel
theorem d21_4 : decode jdk_68_method_9_code 4 = .ok (.arraylength, 1) := by decide +kernel
theorem d21_5 : decode jdk_68_method_9_code 5 = .ok (.aload_n 0, 1) := by decide +kernel
theorem d21_6 : decode jdk_68_method_9_code 6 = .ok (.getfield 22, 3) := by decide +kernel
theorem d21_9 : decode jdk_68_method_9_code 9 = .ok (.ishr, 1) := by decide +kernel
theorem d21_10 : decode jdk_68_method_9_code 10 = .ok (.istore_n 2, 1) := by decide +kernel
theorem d21_11 : decode jdk_68_method_9_code 11 = .ok (.iload_n 1, 1) := by decide +kernel
theorem d21_12 : decode jdk_68_method_9_code 12 = .ok (.iload_n 2, 1) := by decide +kernel
theorem d21_13 : decode jdk_68_method_9_code 13 = .ok (.isub, 1) := by decide +kernel
theorem d21_14 : decode jdk_68_method_9_code 14 = .ok (.ifCond .le 24, 3) := by decide +kernel
theorem d21_17 : decode jdk_68_method_9_code 17 = .ok (.aload_n 0, 1) := by decide +kernel
theorem d21_18 : decode jdk_68_method_9_code 18 = .ok (.aload_n 0, 1) := by decide +kernel
theorem d21_19 : decode jdk_68_method_9_code 19 = .ok (.getfield 15, 3) := by decide +kernel
theorem d21_22 : decode jdk_68_method_9_code 22 = .ok (.aload_n 0, 1) := by decide +kernel
theorem d21_23 : decode jdk_68_method_9_code 23 = .ok (.iload_n 1, 1) := by decide +kernel
theorem d21_24 : decode jdk_68_method_9_code 24 = .ok (.invokevirtual 104, 3) := by decide +kernel
theorem d21_27 : decode jdk_68_method_9_code 27 = .ok (.aload_n 0, 1) := by decide +kernel
theorem d21_28 : decode jdk_68_method_9_code 28 = .ok (.getfield 22, 3) := by decide +kernel
theorem d21_31 : decode jdk_68_method_9_code 31 = .ok (.ishl, 1) := by decide +kernel
theorem d21_32 : decode jdk_68_method_9_code 32 = .ok (.invokestatic 108, 3) := by decide +kernel
theorem d21_35 : decode jdk_68_method_9_code 35 = .ok (.putfield 15, 3) := by decide +kernel
theorem d21_38 : decode jdk_68_method_9_code 38 = .ok (.return_, 1) := by decide +kernel
def Q_asb_ens (Z : State) (a1 : Addr) (b : Addr) (cap : Nat) (n : Nat) (f : Nat → Int32) (k : Nat) (h0 : Heap) (n0 : Nat) (v : Option Value) (h : Heap) (L : List Loc) : Prop := v = none ∧ Fr n0 L ∧ h = h0
set_option maxRecDepth 65536 in
set_option maxHeartbeats 40000000 in
theorem asb_ens (l : Launch) (Z : State) (a0 : Array Value) (hw : ∀ d ∈ tables_1, d.before a0 Z = true) (ws : List Jvm.Cond) (a1 : Addr) (b : Addr) (cap : Nat) (n : Nat) (f : Nat → Int32) (k : Nat) (h0 : Heap) (n0 : Nat) (Z0 : n0 ≤ h0.size) (F : SBd Z h0 a1 b cap n f) (hk : k ≤ cap) :
    MetFree l (⟨"java/lang/AbstractStringBuilder", "ensureCapacityInternal", "(I)V"⟩ : MethodName) (head1 (Jvm.Cond.code (⟨"java/lang/AbstractStringBuilder", "ensureCapacityInternal", "(I)V"⟩ : MethodName) jdk_68_method_9_code 3 none :: ws) ({ frames := 0, cells := 0, slots := 0, locals := 0 } : Room)) (fun a U => a = #[(.ref a1), (.int (Int32.ofNat k))] ∧ Z.Warmed39 U.vm ∧ U.heap = h0) (fun _ _ _ _ _ => True) (fun _ U o U' => ∃ v L, o = .returned v ∧ Q_asb_ens Z a1 b cap n f k h0 n0 v U'.heap L ∧ FrameEnd U o U' L ({ frames := 0, cells := 0, slots := 0, locals := 0 } : Room).cells ({ frames := 0, cells := 0, slots := 0, locals := 0 } : Room).slots) := by
  refine MetFree.of_bodySF (plainFor_of_name pn_3) hisR ?_
  intro p e s m args below meth c s₁ Bd hml0 hP hK
  obtain ⟨rfl, hZ, hh⟩ := hP
  have hx := Bd.exec
  have hby := Bd.bytes
  have hml : c.maxLocals = 3 := hml0
  have hown : s.vm.findClass "java/lang/AbstractStringBuilder" = some m.cls := findClass_of_methodNamed Bd.named
  have hnm := (name_of_methodNamed Bd.named Bd.method).1
  have X0 : Stand p l e ({ frames := 0, cells := 0, slots := 0, locals := 0 } : Room) s m #[(.ref a1), (.int (Int32.ofNat k))] below meth c s₁ [] 0 0 := Stand.of_body Bd
  have e0 : s₁.heap = h0 := by rw [← hh, Bd.state]; rfl
  have N0 := Fr.nil n0
  have eF : entryFrame m #[(.ref a1), (.int (Int32.ofNat k))] 3 = mkF m 0 #[.val (.ref a1), .val (.int (Int32.ofNat k)), .unset] [] := by first | (simp [entryFrame, mkF, argsToLocals, Value.category]; done) | rfl
  show Ends p e below s ({ frames := 0, cells := 0, slots := 0, locals := 0 } : Room) (Q_asb_ens Z a1 b cap n f k h0 n0) (s₁.setTop (entryFrame m #[(.ref a1), (.int (Int32.ofNat k))] 3))
  rw [eF]
  obtain ⟨Ex, Fc, Fn, Fv, Va, hcap⟩ := F
  obtain ⟨cb, Ab, Sb, Hb, -⟩ := Va.op
  have hc1 := Va.1
  refine Ends.of (F' := s₁.setTop (mkF m 1 #[.val (.ref a1), .val (.int (Int32.ofNat k)), .unset] [(.ref a1)])) (fun _ kt => ?_) ?_
  · show Steps p.tables e below (s₁.setTop (mkF m 0 #[.val (.ref a1), .val (.int (Int32.ofNat k)), .unset] [])) _
    refine XS.aloadN X0.here hx rfl (hb hby d21_0) rfl rfl ?_
    exact kt
  obtain ⟨T35, X35, e35, st35⟩ := getF X0 hx hZ hown (host := "") (Or.inl (hw _ (List.mem_of_getElem? (i := 96) rfl))) Via.refl e0 Fv (g := (mkF m 1 #[.val (.ref a1), .val (.int (Int32.ofNat k)), .unset] [(.ref a1)])) rfl rfl (hb hby d21_1)
  refine Ends.of st35 ?_
  refine Ends.of (F' := T35.setTop (mkF m 6 #[.val (.ref a1), .val (.int (Int32.ofNat k)), .unset] [(.ref a1), (.int (Int32.ofNat cap))])) (fun _ kt => ?_) ?_
  · show Steps p.tables e below (T35.setTop (mkF m 4 #[.val (.ref a1), .val (.int (Int32.ofNat k)), .unset] [(.ref b)])) _
    refine X35.arraylength hx (by rw [e35]; exact Ab.1) (State.isArrayOf_alike hZ.alike Ab.2.1) (g := (mkF m 4 #[.val (.ref a1), .val (.int (Int32.ofNat k)), .unset] [(.ref b)])) rfl rfl (hb hby d21_4) _ ?_
    rw [Sb]
    show Steps p.tables e below (T35.setTop (mkF m 5 #[.val (.ref a1), .val (.int (Int32.ofNat k)), .unset] [(.int (Int32.ofNat cap))])) _
    refine XS.aloadN X35.here hx rfl (hb hby d21_5) rfl rfl ?_
    exact kt
  obtain ⟨T36, X36, e36, st36⟩ := getF X35 hx hZ hown (host := "") (Or.inl (hw _ (List.mem_of_getElem? (i := 94) rfl))) Via.refl e35 Fc (g := (mkF m 6 #[.val (.ref a1), .val (.int (Int32.ofNat k)), .unset] [(.ref a1), (.int (Int32.ofNat cap))])) rfl rfl (hb hby d21_6)
  refine Ends.of st36 ?_
  refine Ends.of (F' := T36.setTop (mkF m 38 #[.val (.ref a1), .val (.int (Int32.ofNat k)), .val (.int ((Int32.ofNat cap) >>> ((0 : Int32) &&& 31)))] [])) (fun _ kt => ?_) ?_
  · show Steps p.tables e below (T36.setTop (mkF m 9 #[.val (.ref a1), .val (.int (Int32.ofNat k)), .unset] [(.int (0 : Int32)), (.int (Int32.ofNat cap))])) _
    refine XS.ishr X36.here hx rfl (hb hby d21_9) rfl ?_
    show Steps p.tables e below (T36.setTop (mkF m 10 #[.val (.ref a1), .val (.int (Int32.ofNat k)), .unset] [(.int ((Int32.ofNat cap) >>> ((0 : Int32) &&& 31)))])) _
    refine XS.istoreN X36.here hx rfl (hb hby d21_10) rfl (l' := #[.val (.ref a1), .val (.int (Int32.ofNat k)), .val (.int ((Int32.ofNat cap) >>> ((0 : Int32) &&& 31)))]) rfl ?_
    show Steps p.tables e below (T36.setTop (mkF m 11 #[.val (.ref a1), .val (.int (Int32.ofNat k)), .val (.int ((Int32.ofNat cap) >>> ((0 : Int32) &&& 31)))] [])) _
    refine XS.iloadN X36.here hx rfl (hb hby d21_11) rfl ?_
    show Steps p.tables e below (T36.setTop (mkF m 12 #[.val (.ref a1), .val (.int (Int32.ofNat k)), .val (.int ((Int32.ofNat cap) >>> ((0 : Int32) &&& 31)))] [(.int (Int32.ofNat k))])) _
    refine XS.iloadN X36.here hx rfl (hb hby d21_12) rfl ?_
    show Steps p.tables e below (T36.setTop (mkF m 13 #[.val (.ref a1), .val (.int (Int32.ofNat k)), .val (.int ((Int32.ofNat cap) >>> ((0 : Int32) &&& 31)))] [(.int ((Int32.ofNat cap) >>> ((0 : Int32) &&& 31))), (.int (Int32.ofNat k))])) _
    refine XS.isub X36.here hx rfl (hb hby d21_13) rfl ?_
    show Steps p.tables e below (T36.setTop (mkF m 14 #[.val (.ref a1), .val (.int (Int32.ofNat k)), .val (.int ((Int32.ofNat cap) >>> ((0 : Int32) &&& 31)))] [(.int ((Int32.ofNat k) - ((Int32.ofNat cap) >>> ((0 : Int32) &&& 31))))])) _
    refine XS.ifYes X36.here hx rfl (pc0 := 14) (pc' := 38) rfl (hb hby d21_14) rfl ((if0 _ _).trans (flt (own_cap k cap hk hc1)).2.2.2) (by decide) (by decide) ?_
    exact kt
  obtain ⟨fs, hr, hrun, hended, hW, hsame⟩ := X36.leave (v := none) (fun _ => rfl)
  exact ⟨_, _, X36.returnOut hx Bd.returns (hb hby d21_38) hr, hrun, hended, _, _, rfl, ⟨rfl, N0, e36⟩, ⟨_, rfl⟩, hW, hsame.mono (by decide) (by decide)⟩
theorem d28_0 : decode jdk_68_method_64_code 0 = .ok (.aload_n 0, 1) := by decide +kernel
theorem d28_1 : decode jdk_68_method_64_code 1 = .ok (.getfield 15, 3) := by decide +kernel
theorem d28_4 : decode jdk_68_method_64_code 4 = .ok (.areturn, 1) := by decide +kernel
def Q_asb_val (Z : State) (a1 : Addr) (b : Addr) (h0 : Heap) (n0 : Nat) (v : Option Value) (h : Heap) (L : List Loc) : Prop := v = some (.ref b) ∧ Fr n0 L ∧ h = h0
set_option maxRecDepth 65536 in
set_option maxHeartbeats 40000000 in
theorem asb_val (l : Launch) (Z : State) (a0 : Array Value) (hw : ∀ d ∈ tables_1, d.before a0 Z = true) (ws : List Jvm.Cond) (a1 : Addr) (b : Addr) (h0 : Heap) (n0 : Nat) (Z0 : n0 ≤ h0.size) (F_v : Fld Z h0 a1 "java/lang/AbstractStringBuilder" "value" "[B" (.ref b)) :
    MetFree l (⟨"java/lang/AbstractStringBuilder", "getValue", "()[B"⟩ : MethodName) (head1 (Jvm.Cond.code (⟨"java/lang/AbstractStringBuilder", "getValue", "()[B"⟩ : MethodName) jdk_68_method_64_code 1 (some (.array .byte)) :: ws) ({ frames := 0, cells := 0, slots := 0, locals := 0 } : Room)) (fun a U => a = #[(.ref a1)] ∧ Z.Warmed39 U.vm ∧ U.heap = h0) (fun _ _ _ _ _ => True) (fun _ U o U' => ∃ v L, o = .returned v ∧ Q_asb_val Z a1 b h0 n0 v U'.heap L ∧ FrameEnd U o U' L ({ frames := 0, cells := 0, slots := 0, locals := 0 } : Room).cells ({ frames := 0, cells := 0, slots := 0, locals := 0 } : Room).slots) := by
  refine MetFree.of_bodySF (plainFor_of_name pn_3) hisR ?_
  intro p e s m args below meth c s₁ Bd hml0 hP hK
  obtain ⟨rfl, hZ, hh⟩ := hP
  have hx := Bd.exec
  have hby := Bd.bytes
  have hml : c.maxLocals = 1 := hml0
  have hown : s.vm.findClass "java/lang/AbstractStringBuilder" = some m.cls := findClass_of_methodNamed Bd.named
  have hnm := (name_of_methodNamed Bd.named Bd.method).1
  have X0 : Stand p l e ({ frames := 0, cells := 0, slots := 0, locals := 0 } : Room) s m #[(.ref a1)] below meth c s₁ [] 0 0 := Stand.of_body Bd
  have e0 : s₁.heap = h0 := by rw [← hh, Bd.state]; rfl
  have N0 := Fr.nil n0
  have eF : entryFrame m #[(.ref a1)] 1 = mkF m 0 #[.val (.ref a1)] [] := by first | (simp [entryFrame, mkF, argsToLocals, Value.category]; done) | rfl
  show Ends p e below s ({ frames := 0, cells := 0, slots := 0, locals := 0 } : Room) (Q_asb_val Z a1 b h0 n0) (s₁.setTop (entryFrame m #[(.ref a1)] 1))
  rw [eF]
  refine Ends.of (F' := s₁.setTop (mkF m 1 #[.val (.ref a1)] [(.ref a1)])) (fun _ kt => ?_) ?_
  · show Steps p.tables e below (s₁.setTop (mkF m 0 #[.val (.ref a1)] [])) _
    refine XS.aloadN X0.here hx rfl (hb hby d28_0) rfl rfl ?_
    exact kt
  obtain ⟨T37, X37, e37, st37⟩ := getF X0 hx hZ hown (host := "") (Or.inl (hw _ (List.mem_of_getElem? (i := 96) rfl))) Via.refl e0 F_v (g := (mkF m 1 #[.val (.ref a1)] [(.ref a1)])) rfl rfl (hb hby d28_1)
  refine Ends.of st37 ?_
  obtain ⟨fs, hr, hrun, hended, hW, hsame⟩ := X37.leave (v := some (.ref b)) (fun h => by rw [Bd.returns] at h; cases h)
  refine ⟨_, _, ?_, hrun, hended, _, _, rfl, ⟨rfl, N0, e37⟩, ⟨_, rfl⟩, hW, hsame.mono (by decide) (by decide)⟩
  show Steps p.tables e below (T37.setTop (mkF m 4 #[.val (.ref a1)] [(.ref b)])) _
  jvm_step X37.here [X37.here.top, hx, (hb hby d28_4), X37.method', Bd.returns, Value.isRef, FieldType.isReference]
  first | (intro acts; rw [hr _ acts rfl rfl rfl]) | rw [hr _ _ rfl rfl rfl]
  exact Steps.refl _
theorem d30_0 : decode jdk_68_method_6_code 0 = .ok (.aload_n 0, 1) := by decide +kernel
theorem d30_1 : decode jdk_68_method_6_code 1 = .ok (.getfield 79, 3) := by decide +kernel
theorem d30_4 : decode jdk_68_method_6_code 4 = .ok (.ireturn, 1) := by decide +kernel
def Q_asb_len (Z : State) (a1 : Addr) (n : Nat) (h0 : Heap) (n0 : Nat) (v : Option Value) (h : Heap) (L : List Loc) : Prop := v = some (.int (Int32.ofNat n)) ∧ Fr n0 L ∧ h = h0
set_option maxRecDepth 65536 in
set_option maxHeartbeats 40000000 in
theorem asb_len (l : Launch) (Z : State) (a0 : Array Value) (hw : ∀ d ∈ tables_1, d.before a0 Z = true) (ws : List Jvm.Cond) (a1 : Addr) (n : Nat) (h0 : Heap) (n0 : Nat) (Z0 : n0 ≤ h0.size) (F_n : Fld Z h0 a1 "java/lang/AbstractStringBuilder" "count" "I" (.int (Int32.ofNat n))) :
    MetFree l (⟨"java/lang/AbstractStringBuilder", "length", "()I"⟩ : MethodName) (head1 (Jvm.Cond.code (⟨"java/lang/AbstractStringBuilder", "length", "()I"⟩ : MethodName) jdk_68_method_6_code 1 (some .int) :: ws) ({ frames := 0, cells := 0, slots := 0, locals := 0 } : Room)) (fun a U => a = #[(.ref a1)] ∧ Z.Warmed39 U.vm ∧ U.heap = h0) (fun _ _ _ _ _ => True) (fun _ U o U' => ∃ v L, o = .returned v ∧ Q_asb_len Z a1 n h0 n0 v U'.heap L ∧ FrameEnd U o U' L ({ frames := 0, cells := 0, slots := 0, locals := 0 } : Room).cells ({ frames := 0, cells := 0, slots := 0, locals := 0 } : Room).slots) := by
  refine MetFree.of_bodySF (plainFor_of_name pn_3) hisR ?_
  intro p e s m args below meth c s₁ Bd hml0 hP hK
  obtain ⟨rfl, hZ, hh⟩ := hP
  have hx := Bd.exec
  have hby := Bd.bytes
  have hml : c.maxLocals = 1 := hml0
  have hown : s.vm.findClass "java/lang/AbstractStringBuilder" = some m.cls := findClass_of_methodNamed Bd.named
  have hnm := (name_of_methodNamed Bd.named Bd.method).1
  have X0 : Stand p l e ({ frames := 0, cells := 0, slots := 0, locals := 0 } : Room) s m #[(.ref a1)] below meth c s₁ [] 0 0 := Stand.of_body Bd
  have e0 : s₁.heap = h0 := by rw [← hh, Bd.state]; rfl
  have N0 := Fr.nil n0
  have eF : entryFrame m #[(.ref a1)] 1 = mkF m 0 #[.val (.ref a1)] [] := by first | (simp [entryFrame, mkF, argsToLocals, Value.category]; done) | rfl
  show Ends p e below s ({ frames := 0, cells := 0, slots := 0, locals := 0 } : Room) (Q_asb_len Z a1 n h0 n0) (s₁.setTop (entryFrame m #[(.ref a1)] 1))
  rw [eF]
  refine Ends.of (F' := s₁.setTop (mkF m 1 #[.val (.ref a1)] [(.ref a1)])) (fun _ kt => ?_) ?_
  · show Steps p.tables e below (s₁.setTop (mkF m 0 #[.val (.ref a1)] [])) _
    refine XS.aloadN X0.here hx rfl (hb hby d30_0) rfl rfl ?_
    exact kt
  obtain ⟨T38, X38, e38, st38⟩ := getF X0 hx hZ hown (host := "") (Or.inl (hw _ (List.mem_of_getElem? (i := 112) rfl))) Via.refl e0 F_n (g := (mkF m 1 #[.val (.ref a1)] [(.ref a1)])) rfl rfl (hb hby d30_1)
  refine Ends.of st38 ?_
  obtain ⟨fs, hr, hrun, hended, hW, hsame⟩ := X38.leave (v := some (.int (Int32.ofNat n))) (fun h => by rw [Bd.returns] at h; cases h)
  exact ⟨_, _, retI X38 hx Bd.returns (hb hby d30_4) hr, hrun, hended, _, _, rfl, ⟨rfl, N0, e38⟩, ⟨_, rfl⟩, hW, hsame.mono (by decide) (by decide)⟩
theorem d29_0 : decode jdk_67_method_93_code 0 = .ok (.aload_n 0, 1) := by decide +kernel
theorem d29_1 : decode jdk_67_method_93_code 1 = .ok (.invokespecial 343, 3) := by decide +kernel
theorem d29_4 : decode jdk_67_method_93_code 4 = .ok (.ireturn, 1) := by decide +kernel
theorem pn_4 : plainName "java/lang/StringBuilder" = true := by first | (simp [plainName, overriddenIn]; done) | decide +kernel
def Q_sb_len (Z : State) (a1 : Addr) (n : Nat) (h0 : Heap) (n0 : Nat) (v : Option Value) (h : Heap) (L : List Loc) : Prop := v = some (.int (Int32.ofNat n)) ∧ Fr n0 L ∧ h = h0
set_option maxRecDepth 65536 in
set_option maxHeartbeats 40000000 in
theorem sb_len (l : Launch) (Z : State) (a0 : Array Value) (hw : ∀ d ∈ tables_1, d.before a0 Z = true) (ws : List Jvm.Cond) (a1 : Addr) (n : Nat) (h0 : Heap) (n0 : Nat) (Z0 : n0 ≤ h0.size) (F_n : Fld Z h0 a1 "java/lang/AbstractStringBuilder" "count" "I" (.int (Int32.ofNat n))) (E_a : Exa Z h0 a1 "java/lang/StringBuilder") :
    MetFree l (⟨"java/lang/StringBuilder", "length", "()I"⟩ : MethodName) (head1 (Jvm.Cond.code (⟨"java/lang/StringBuilder", "length", "()I"⟩ : MethodName) jdk_67_method_93_code 1 (some .int) :: ws) ({ frames := 1, cells := 0, slots := 0, locals := 12 } : Room)) (fun a U => a = #[(.ref a1)] ∧ Z.Warmed39 U.vm ∧ U.heap = h0) (fun _ _ _ _ _ => True) (fun _ U o U' => ∃ v L, o = .returned v ∧ Q_sb_len Z a1 n h0 n0 v U'.heap L ∧ FrameEnd U o U' L ({ frames := 1, cells := 0, slots := 0, locals := 12 } : Room).cells ({ frames := 1, cells := 0, slots := 0, locals := 12 } : Room).slots) := by
  refine MetFree.of_bodySF (plainFor_of_name pn_4) hisR ?_
  intro p e s m args below meth c s₁ Bd hml0 hP hK
  obtain ⟨rfl, hZ, hh⟩ := hP
  have hx := Bd.exec
  have hby := Bd.bytes
  have hml : c.maxLocals = 1 := hml0
  have hown : s.vm.findClass "java/lang/StringBuilder" = some m.cls := findClass_of_methodNamed Bd.named
  have hnm := (name_of_methodNamed Bd.named Bd.method).1
  have X0 : Stand p l e ({ frames := 1, cells := 0, slots := 0, locals := 12 } : Room) s m #[(.ref a1)] below meth c s₁ [] 0 0 := Stand.of_body Bd
  have e0 : s₁.heap = h0 := by rw [← hh, Bd.state]; rfl
  have N0 := Fr.nil n0
  have eF : entryFrame m #[(.ref a1)] 1 = mkF m 0 #[.val (.ref a1)] [] := by first | (simp [entryFrame, mkF, argsToLocals, Value.category]; done) | rfl
  show Ends p e below s ({ frames := 1, cells := 0, slots := 0, locals := 12 } : Room) (Q_sb_len Z a1 n h0 n0) (s₁.setTop (entryFrame m #[(.ref a1)] 1))
  rw [eF]
  refine Ends.of (F' := s₁.setTop (mkF m 1 #[.val (.ref a1)] [(.ref a1)])) (fun _ kt => ?_) ?_
  · show Steps p.tables e below (s₁.setTop (mkF m 0 #[.val (.ref a1)] [])) _
    refine XS.aloadN X0.here hx rfl (hb hby d29_0) rfl rfl ?_
    exact kt
  obtain ⟨_, _, ⟨T39, L39, k39, n39⟩, -, X39, ⟨Lc39, hQ39, l39, y39, z39⟩, st39⟩ := superBack X0 hx hZ (y := (⟨"java/lang/AbstractStringBuilder", "length", "()I"⟩ : MethodName)) hown (hw _ (List.mem_of_getElem? (i := 163) rfl)) (own_same (y := (⟨"java/lang/AbstractStringBuilder", "length", "()I"⟩ : MethodName)) (z := (⟨"java/lang/AbstractStringBuilder", "ensureCapacityInternal", "(I)V"⟩ : MethodName)) rfl (by decide) (hw _ (List.mem_of_getElem? (i := 159) rfl)) (hw _ (List.mem_of_getElem? (i := 117) rfl))) (hw _ (List.mem_of_getElem? (i := 159) rfl)) (hw _ (List.mem_of_getElem? (i := 110) rfl)) (by decide) (backOf (W := 0) (asb_len l Z a0 hw [] a1 n h0 n0 Z0 F_n) hZ (hw _ (List.mem_of_getElem? (i := 164) rfl)) (hw _ (List.mem_of_getElem? (i := 79) rfl)) (by decide) (by decide)) e0 (Ins.self E_a) (g := (mkF m 1 #[.val (.ref a1)] [(.ref a1)])) rfl (by rw [hml]; rfl) (hw _ (List.mem_of_getElem? (i := 164) rfl)) (argsL := []) (rest := []) (lenOf pd_13 rfl) rfl (by show 2 * 0 + _ ≤ _; exact Nat.le_of_eq rfl) (hb hby d29_1) (fun _ _ => ⟨rfl, e0, (by decide : 0 + 0 ≤ _), (by decide : 0 + 0 ≤ _)⟩)
  dsimp only [Pt.U, Pt.locs, Pt.cells, Pt.slots] at X39 l39 y39 z39 st39 hQ39
  subst l39 y39 z39
  obtain ⟨rfl, N39q, e39⟩ := hQ39
  have N39 := Fr.app N0 N39q
  refine Ends.st st39 ?_
  obtain ⟨fs, hr, hrun, hended, hW, hsame⟩ := X39.leave (v := some (.int (Int32.ofNat n))) (fun h => by rw [Bd.returns] at h; cases h)
  exact ⟨_, _, retI X39 hx Bd.returns (hb hby d29_4) hr, hrun, hended, _, _, rfl, ⟨rfl, N39, e39⟩, ⟨_, rfl⟩, hW, hsame.mono (by decide) (by decide)⟩
theorem d34_0 : decode jdk_65_method_131_code 0 = .ok (.iload_n 1, 1) := by decide +kernel
theorem d34_1 : decode jdk_65_method_131_code 1 = .ok (.iload_n 0, 1) := by decide +kernel
theorem d34_2 : decode jdk_65_method_131_code 2 = .ok (.if_icmp .ge 35, 3) := by decide +kernel
theorem d34_5 : decode jdk_65_method_131_code 5 = .ok (.new 43, 3) := by decide +kernel
theorem d34_8 : decode jdk_65_method_131_code 8 = .ok (.dup, 1) := by decide +kernel
theorem d34_9 : decode jdk_65_method_131_code 9 = .ok (.new 45, 3) := by decide +kernel
theorem d34_12 : decode jdk_65_method_131_code 12 = .ok (.dup, 1) := by decide +kernel
theorem d34_13 : decode jdk_65_method_131_code 13 = .ok (.invokespecial 47, 3) := by decide +kernel
theorem d34_16 : decode jdk_65_method_131_code 16 = .ok (.iload_n 0, 1) := by decide +kernel
theorem d34_17 : decode jdk_65_method_131_code 17 = .ok (.invokevirtual 54, 3) := by decide +kernel
theorem d34_20 : decode jdk_65_method_131_code 20 = .ok (.ldc_w 337, 3) := by decide +kernel
theorem d34_23 : decode jdk_65_method_131_code 23 = .ok (.invokevirtual 50, 3) := by decide +kernel
theorem d34_26 : decode jdk_65_method_131_code 26 = .ok (.iload_n 1, 1) := by decide +kernel
theorem d34_27 : decode jdk_65_method_131_code 27 = .ok (.invokevirtual 54, 3) := by decide +kernel
theorem d34_30 : decode jdk_65_method_131_code 30 = .ok (.invokevirtual 61, 3) := by decide +kernel
theorem d34_33 : decode jdk_65_method_131_code 33 = .ok (.invokespecial 65, 3) := by decide +kernel
theorem d34_36 : decode jdk_65_method_131_code 36 = .ok (.athrow, 1) := by decide +kernel
theorem d34_37 : decode jdk_65_method_131_code 37 = .ok (.return_, 1) := by decide +kernel
theorem pn_5 : plainName "java/util/Arrays" = true := by first | (simp [plainName, overriddenIn]; done) | decide +kernel
def Q_ar_chk (Z : State) (n : Nat) (h0 : Heap) (n0 : Nat) (v : Option Value) (h : Heap) (L : List Loc) : Prop := v = none ∧ Fr n0 L ∧ h = h0
set_option maxRecDepth 65536 in
set_option maxHeartbeats 40000000 in
theorem ar_chk (l : Launch) (Z : State) (a0 : Array Value) (hw : ∀ d ∈ tables_1, d.before a0 Z = true) (ws : List Jvm.Cond) (n : Nat) (h0 : Heap) (n0 : Nat) (Z0 : n0 ≤ h0.size) (hn : n ≤ 100000) :
    MetFree l (⟨"java/util/Arrays", "checkLength", "(II)V"⟩ : MethodName) (head1 (Jvm.Cond.code (⟨"java/util/Arrays", "checkLength", "(II)V"⟩ : MethodName) jdk_65_method_131_code 2 none :: ws) ({ frames := 0, cells := 0, slots := 0, locals := 0 } : Room)) (fun a U => a = #[(.int (0 : Int32)), (.int (Int32.ofNat n))] ∧ Z.Warmed39 U.vm ∧ U.heap = h0) (fun _ _ _ _ _ => True) (fun _ U o U' => ∃ v L, o = .returned v ∧ Q_ar_chk Z n h0 n0 v U'.heap L ∧ FrameEnd U o U' L ({ frames := 0, cells := 0, slots := 0, locals := 0 } : Room).cells ({ frames := 0, cells := 0, slots := 0, locals := 0 } : Room).slots) := by
  refine MetFree.of_bodySF (plainFor_of_name pn_5) hisR ?_
  intro p e s m args below meth c s₁ Bd hml0 hP hK
  obtain ⟨rfl, hZ, hh⟩ := hP
  have hx := Bd.exec
  have hby := Bd.bytes
  have hml : c.maxLocals = 2 := hml0
  have hown : s.vm.findClass "java/util/Arrays" = some m.cls := findClass_of_methodNamed Bd.named
  have hnm := (name_of_methodNamed Bd.named Bd.method).1
  have X0 : Stand p l e ({ frames := 0, cells := 0, slots := 0, locals := 0 } : Room) s m #[(.int (0 : Int32)), (.int (Int32.ofNat n))] below meth c s₁ [] 0 0 := Stand.of_body Bd
  have e0 : s₁.heap = h0 := by rw [← hh, Bd.state]; rfl
  have N0 := Fr.nil n0
  have eF : entryFrame m #[(.int (0 : Int32)), (.int (Int32.ofNat n))] 2 = mkF m 0 #[.val (.int (0 : Int32)), .val (.int (Int32.ofNat n))] [] := by first | (simp [entryFrame, mkF, argsToLocals, Value.category]; done) | rfl
  show Ends p e below s ({ frames := 0, cells := 0, slots := 0, locals := 0 } : Room) (Q_ar_chk Z n h0 n0) (s₁.setTop (entryFrame m #[(.int (0 : Int32)), (.int (Int32.ofNat n))] 2))
  rw [eF]
  refine Ends.of (F' := s₁.setTop (mkF m 37 #[.val (.int (0 : Int32)), .val (.int (Int32.ofNat n))] [])) (fun _ kt => ?_) ?_
  · show Steps p.tables e below (s₁.setTop (mkF m 0 #[.val (.int (0 : Int32)), .val (.int (Int32.ofNat n))] [])) _
    refine XS.iloadN X0.here hx rfl (hb hby d34_0) rfl ?_
    show Steps p.tables e below (s₁.setTop (mkF m 1 #[.val (.int (0 : Int32)), .val (.int (Int32.ofNat n))] [(.int (Int32.ofNat n))])) _
    refine XS.iloadN X0.here hx rfl (hb hby d34_1) rfl ?_
    show Steps p.tables e below (s₁.setTop (mkF m 2 #[.val (.int (0 : Int32)), .val (.int (Int32.ofNat n))] [(.int (0 : Int32)), (.int (Int32.ofNat n))])) _
    refine XS.icmpYes X0.here hx rfl (pc0 := 2) (pc' := 37) rfl (hb hby d34_2) rfl (flt (own_nn hn)).2.1 (by decide) (by decide) ?_
    exact kt
  obtain ⟨fs, hr, hrun, hended, hW, hsame⟩ := X0.leave (v := none) (fun _ => rfl)
  exact ⟨_, _, X0.returnOut hx Bd.returns (hb hby d34_37) hr, hrun, hended, _, _, rfl, ⟨rfl, N0, e0⟩, ⟨_, rfl⟩, hW, hsame.mono (by decide) (by decide)⟩
theorem d35_0 : decode jdk_29_method_69_code 0 = .ok (.iload_n 0, 1) := by decide +kernel
theorem d35_1 : decode jdk_29_method_69_code 1 = .ok (.iload_n 1, 1) := by decide +kernel
theorem d35_2 : decode jdk_29_method_69_code 2 = .ok (.if_icmp .gt 7, 3) := by decide +kernel
theorem d35_5 : decode jdk_29_method_69_code 5 = .ok (.iload_n 0, 1) := by decide +kernel
theorem d35_6 : decode jdk_29_method_69_code 6 = .ok (.goto 4, 3) := by decide +kernel
theorem d35_9 : decode jdk_29_method_69_code 9 = .ok (.iload_n 1, 1) := by decide +kernel
theorem d35_10 : decode jdk_29_method_69_code 10 = .ok (.ireturn, 1) := by decide +kernel
def Q_math_min (Z : State) (p1 : Int32) (p2 : Int32) (h0 : Heap) (n0 : Nat) (v : Option Value) (h : Heap) (L : List Loc) : Prop := v = some (.int (if p2 < p1 then p2 else p1)) ∧ Fr n0 L ∧ h = h0
set_option maxRecDepth 65536 in
set_option maxHeartbeats 40000000 in
theorem math_min (l : Launch) (Z : State) (a0 : Array Value) (hw : ∀ d ∈ tables_1, d.before a0 Z = true) (ws : List Jvm.Cond) (p1 : Int32) (p2 : Int32) (h0 : Heap) (n0 : Nat) (Z0 : n0 ≤ h0.size) :
    MetFree l (⟨"java/lang/Math", "min", "(II)I"⟩ : MethodName) (head1 (Jvm.Cond.code (⟨"java/lang/Math", "min", "(II)I"⟩ : MethodName) jdk_29_method_69_code 2 (some .int) :: ws) ({ frames := 0, cells := 0, slots := 0, locals := 0 } : Room)) (fun a U => a = #[(.int p1), (.int p2)] ∧ Z.Warmed39 U.vm ∧ U.heap = h0) (fun _ _ _ _ _ => True) (fun _ U o U' => ∃ v L, o = .returned v ∧ Q_math_min Z p1 p2 h0 n0 v U'.heap L ∧ FrameEnd U o U' L ({ frames := 0, cells := 0, slots := 0, locals := 0 } : Room).cells ({ frames := 0, cells := 0, slots := 0, locals := 0 } : Room).slots) := by
  refine MetFree.of_bodySF (Jvm.Free.JP.mathPlain rfl (by decide +kernel)) hisR ?_
  intro p e s m args below meth c s₁ Bd hml0 hP hK
  obtain ⟨rfl, hZ, hh⟩ := hP
  have hx := Bd.exec
  have hby := Bd.bytes
  have hml : c.maxLocals = 2 := hml0
  have hown : s.vm.findClass "java/lang/Math" = some m.cls := findClass_of_methodNamed Bd.named
  have hnm := (name_of_methodNamed Bd.named Bd.method).1
  have X0 : Stand p l e ({ frames := 0, cells := 0, slots := 0, locals := 0 } : Room) s m #[(.int p1), (.int p2)] below meth c s₁ [] 0 0 := Stand.of_body Bd
  have e0 : s₁.heap = h0 := by rw [← hh, Bd.state]; rfl
  have N0 := Fr.nil n0
  have eF : entryFrame m #[(.int p1), (.int p2)] 2 = mkF m 0 #[.val (.int p1), .val (.int p2)] [] := by first | (simp [entryFrame, mkF, argsToLocals, Value.category]; done) | rfl
  show Ends p e below s ({ frames := 0, cells := 0, slots := 0, locals := 0 } : Room) (Q_math_min Z p1 p2 h0 n0) (s₁.setTop (entryFrame m #[(.int p1), (.int p2)] 2))
  rw [eF]
  refine Ends.of (F' := s₁.setTop (mkF m 2 #[.val (.int p1), .val (.int p2)] [(.int p2), (.int p1)])) (fun _ kt => ?_) ?_
  · show Steps p.tables e below (s₁.setTop (mkF m 0 #[.val (.int p1), .val (.int p2)] [])) _
    refine XS.iloadN X0.here hx rfl (hb hby d35_0) rfl ?_
    show Steps p.tables e below (s₁.setTop (mkF m 1 #[.val (.int p1), .val (.int p2)] [(.int p1)])) _
    refine XS.iloadN X0.here hx rfl (hb hby d35_1) rfl ?_
    exact kt
  by_cases hc2 : p2 < p1
  · refine Ends.of (F' := s₁.setTop (mkF m 10 #[.val (.int p1), .val (.int p2)] [(.int p2)])) (fun _ kt => ?_) ?_
    · show Steps p.tables e below (s₁.setTop (mkF m 2 #[.val (.int p1), .val (.int p2)] [(.int p2), (.int p1)])) _
      refine XS.icmpYes X0.here hx rfl (pc0 := 2) (pc' := 9) rfl (hb hby d35_2) rfl (tlt hc2).2.2.1 (by decide) (by decide) ?_
      show Steps p.tables e below (s₁.setTop (mkF m 9 #[.val (.int p1), .val (.int p2)] [])) _
      refine XS.iloadN X0.here hx rfl (hb hby d35_9) rfl ?_
      exact kt
    obtain ⟨fs, hr, hrun, hended, hW, hsame⟩ := X0.leave (v := some (.int p2)) (fun h => by rw [Bd.returns] at h; cases h)
    exact ⟨_, _, retI X0 hx Bd.returns (hb hby d35_10) hr, hrun, hended, _, _, rfl, ⟨by rw [if_pos hc2], N0, e0⟩, ⟨_, rfl⟩, hW, hsame.mono (by decide) (by decide)⟩
  · refine Ends.of (F' := s₁.setTop (mkF m 10 #[.val (.int p1), .val (.int p2)] [(.int p1)])) (fun _ kt => ?_) ?_
    · show Steps p.tables e below (s₁.setTop (mkF m 2 #[.val (.int p1), .val (.int p2)] [(.int p2), (.int p1)])) _
      refine XS.icmpNo X0.here hx rfl (hb hby d35_2) rfl (flt hc2).2.2.1 ?_
      show Steps p.tables e below (s₁.setTop (mkF m 5 #[.val (.int p1), .val (.int p2)] [])) _
      refine XS.iloadN X0.here hx rfl (hb hby d35_5) rfl ?_
      show Steps p.tables e below (s₁.setTop (mkF m 6 #[.val (.int p1), .val (.int p2)] [(.int p1)])) _
      refine XS.goto X0.here hx rfl (pc0 := 6) (pc' := 10) rfl (hb hby d35_6) (by decide) (by decide) ?_
      exact kt
    obtain ⟨fs, hr, hrun, hended, hW, hsame⟩ := X0.leave (v := some (.int p1)) (fun h => by rw [Bd.returns] at h; cases h)
    exact ⟨_, _, retI X0 hx Bd.returns (hb hby d35_10) hr, hrun, hended, _, _, rfl, ⟨by rw [if_neg hc2], N0, e0⟩, ⟨_, rfl⟩, hW, hsame.mono (by decide) (by decide)⟩
theorem d33_0 : decode jdk_65_method_133_code 0 = .ok (.iload_n 1, 1) := by decide +kernel
theorem d33_1 : decode jdk_65_method_133_code 1 = .ok (.iload_n 2, 1) := by decide +kernel
theorem d33_2 : decode jdk_65_method_133_code 2 = .ok (.invokestatic 343, 3) := by decide +kernel
theorem d33_5 : decode jdk_65_method_133_code 5 = .ok (.iload_n 2, 1) := by decide +kernel
theorem d33_6 : decode jdk_65_method_133_code 6 = .ok (.iload_n 1, 1) := by decide +kernel
theorem d33_7 : decode jdk_65_method_133_code 7 = .ok (.isub, 1) := by decide +kernel
theorem d33_8 : decode jdk_65_method_133_code 8 = .ok (.istore_n 3, 1) := by decide +kernel
theorem d33_9 : decode jdk_65_method_133_code 9 = .ok (.iload_n 3, 1) := by decide +kernel
theorem d33_10 : decode jdk_65_method_133_code 10 = .ok (.newarray .byte, 2) := by decide +kernel
theorem d33_12 : decode jdk_65_method_133_code 12 = .ok (.astore 4, 2) := by decide +kernel
theorem d33_14 : decode jdk_65_method_133_code 14 = .ok (.aload_n 0, 1) := by decide +kernel
theorem d33_15 : decode jdk_65_method_133_code 15 = .ok (.iload_n 1, 1) := by decide +kernel
theorem d33_16 : decode jdk_65_method_133_code 16 = .ok (.aload 4, 2) := by decide +kernel
theorem d33_18 : decode jdk_65_method_133_code 18 = .ok (.iconst 0, 1) := by decide +kernel
theorem d33_19 : decode jdk_65_method_133_code 19 = .ok (.aload_n 0, 1) := by decide +kernel
theorem d33_20 : decode jdk_65_method_133_code 20 = .ok (.arraylength, 1) := by decide +kernel
theorem d33_21 : decode jdk_65_method_133_code 21 = .ok (.iload_n 1, 1) := by decide +kernel
theorem d33_22 : decode jdk_65_method_133_code 22 = .ok (.isub, 1) := by decide +kernel
theorem d33_23 : decode jdk_65_method_133_code 23 = .ok (.iload_n 3, 1) := by decide +kernel
theorem d33_24 : decode jdk_65_method_133_code 24 = .ok (.invokestatic 304, 3) := by decide +kernel
theorem d33_27 : decode jdk_65_method_133_code 27 = .ok (.invokestatic 150, 3) := by decide +kernel
theorem d33_30 : decode jdk_65_method_133_code 30 = .ok (.aload 4, 2) := by decide +kernel
theorem d33_32 : decode jdk_65_method_133_code 32 = .ok (.areturn, 1) := by decide +kernel
def Q_ar_cpb (Z : State) (a1 : Addr) (cap : Nat) (n : Nat) (f : Nat → Int32) (h0 : Heap) (n0 : Nat) (v : Option Value) (h : Heap) (L : List Loc) : Prop := v = some (.ref h0.size) ∧ Fr n0 L ∧ Keep h0 h [] ∧ Ary .byte Z h h0.size n f
set_option maxRecDepth 65536 in
set_option maxHeartbeats 40000000 in
theorem ar_cpb (l : Launch) (Z : State) (a0 : Array Value) (hw : ∀ d ∈ tables_1, d.before a0 Z = true) (ws : List Jvm.Cond) (a1 : Addr) (cap : Nat) (n : Nat) (f : Nat → Int32) (h0 : Heap) (n0 : Nat) (Z0 : n0 ≤ h0.size) (D : Ary .byte Z h0 a1 cap f) (hn : n < cap) (ht : n ≤ 16) :
    MetFree l (⟨"java/util/Arrays", "copyOfRangeByte", "([BII)[B"⟩ : MethodName) (head1 (Jvm.Cond.code (⟨"java/util/Arrays", "copyOfRangeByte", "([BII)[B"⟩ : MethodName) jdk_65_method_133_code 5 (some (.array .byte)) :: ws) ({ frames := 1, cells := 1, slots := 16, locals := 64 } : Room)) (fun a U => a = #[(.ref a1), (.int (0 : Int32)), (.int (Int32.ofNat n))] ∧ Z.Warmed39 U.vm ∧ U.heap = h0) (fun _ _ _ _ _ => True) (fun _ U o U' => ∃ v L, o = .returned v ∧ Q_ar_cpb Z a1 cap n f h0 n0 v U'.heap L ∧ FrameEnd U o U' L ({ frames := 1, cells := 1, slots := 16, locals := 64 } : Room).cells ({ frames := 1, cells := 1, slots := 16, locals := 64 } : Room).slots) := by
  refine MetFree.of_bodySF (plainFor_of_name pn_5) hisR ?_
  intro p e s m args below meth c s₁ Bd hml0 hP hK
  obtain ⟨rfl, hZ, hh⟩ := hP
  have hx := Bd.exec
  have hby := Bd.bytes
  have hml : c.maxLocals = 5 := hml0
  have hown : s.vm.findClass "java/util/Arrays" = some m.cls := findClass_of_methodNamed Bd.named
  have hnm := (name_of_methodNamed Bd.named Bd.method).1
  have X0 : Stand p l e ({ frames := 1, cells := 1, slots := 16, locals := 64 } : Room) s m #[(.ref a1), (.int (0 : Int32)), (.int (Int32.ofNat n))] below meth c s₁ [] 0 0 := Stand.of_body Bd
  have e0 : s₁.heap = h0 := by rw [← hh, Bd.state]; rfl
  have N0 := Fr.nil n0
  have eF : entryFrame m #[(.ref a1), (.int (0 : Int32)), (.int (Int32.ofNat n))] 5 = mkF m 0 #[.val (.ref a1), .val (.int (0 : Int32)), .val (.int (Int32.ofNat n)), .unset, .unset] [] := by first | (simp [entryFrame, mkF, argsToLocals, Value.category]; done) | rfl
  show Ends p e below s ({ frames := 1, cells := 1, slots := 16, locals := 64 } : Room) (Q_ar_cpb Z a1 cap n f h0 n0) (s₁.setTop (entryFrame m #[(.ref a1), (.int (0 : Int32)), (.int (Int32.ofNat n))] 5))
  rw [eF]
  have hc1 := D.1
  refine Ends.of (F' := s₁.setTop (mkF m 2 #[.val (.ref a1), .val (.int (0 : Int32)), .val (.int (Int32.ofNat n)), .unset, .unset] [(.int (Int32.ofNat n)), (.int (0 : Int32))])) (fun _ kt => ?_) ?_
  · show Steps p.tables e below (s₁.setTop (mkF m 0 #[.val (.ref a1), .val (.int (0 : Int32)), .val (.int (Int32.ofNat n)), .unset, .unset] [])) _
    refine XS.iloadN X0.here hx rfl (hb hby d33_0) rfl ?_
    show Steps p.tables e below (s₁.setTop (mkF m 1 #[.val (.ref a1), .val (.int (0 : Int32)), .val (.int (Int32.ofNat n)), .unset, .unset] [(.int (0 : Int32))])) _
    refine XS.iloadN X0.here hx rfl (hb hby d33_1) rfl ?_
    exact kt
  obtain ⟨_, _, ⟨T40, L40, k40, n40⟩, -, X40, ⟨Lc40, hQ40, l40, y40, z40⟩, st40⟩ := Jvm.LawKit.callS X0 hx (y := (⟨"java/util/Arrays", "checkLength", "(II)V"⟩ : MethodName)) hown (mvT hZ (hw _ (List.mem_of_getElem? (i := 177) rfl))) (mvT hZ (hw _ (List.mem_of_getElem? (i := 178) rfl))) (mvT hZ (hw _ (List.mem_of_getElem? (i := 172) rfl))) (mvT hZ (hw _ (List.mem_of_getElem? (i := 179) rfl))) (by decide) (backOf (W := 0) (ar_chk l Z a0 hw [] n h0 n0 Z0 (by omega)) hZ (hw _ (List.mem_of_getElem? (i := 179) rfl)) (hw _ (List.mem_of_getElem? (i := 172) rfl)) (by decide) (by decide)) (g := (mkF m 2 #[.val (.ref a1), .val (.int (0 : Int32)), .val (.int (Int32.ofNat n)), .unset, .unset] [(.int (Int32.ofNat n)), (.int (0 : Int32))])) rfl (by rw [hml]; rfl) (argsL := [(.int (0 : Int32)), (.int (Int32.ofNat n))]) (rest := []) (lenOf pd_27 rfl) rfl (by show 2 * 0 + _ ≤ _; exact Nat.le_of_eq rfl) (hb hby d33_2) (fun _ _ => ⟨rfl, e0, (by decide : 0 + 0 ≤ _), (by decide : 0 + 0 ≤ _)⟩)
  dsimp only [Pt.U, Pt.locs, Pt.cells, Pt.slots] at X40 l40 y40 z40 st40 hQ40
  subst l40 y40 z40
  obtain ⟨rfl, N40q, e40⟩ := hQ40
  have N40 := Fr.app N0 N40q
  refine Ends.of st40 ?_
  refine Ends.of (F' := T40.setTop (mkF m 8 #[.val (.ref a1), .val (.int (0 : Int32)), .val (.int (Int32.ofNat n)), .unset, .unset] [(.int ((Int32.ofNat n) - (0 : Int32)))])) (fun _ kt => ?_) ?_
  · show Steps p.tables e below (T40.setTop (mkF m 5 #[.val (.ref a1), .val (.int (0 : Int32)), .val (.int (Int32.ofNat n)), .unset, .unset] [])) _
    refine XS.iloadN X40.here hx rfl (hb hby d33_5) rfl ?_
    show Steps p.tables e below (T40.setTop (mkF m 6 #[.val (.ref a1), .val (.int (0 : Int32)), .val (.int (Int32.ofNat n)), .unset, .unset] [(.int (Int32.ofNat n))])) _
    refine XS.iloadN X40.here hx rfl (hb hby d33_6) rfl ?_
    show Steps p.tables e below (T40.setTop (mkF m 7 #[.val (.ref a1), .val (.int (0 : Int32)), .val (.int (Int32.ofNat n)), .unset, .unset] [(.int (0 : Int32)), (.int (Int32.ofNat n))])) _
    refine XS.isub X40.here hx rfl (hb hby d33_7) rfl ?_
    exact kt
  rw [Int32.sub_zero]
  refine Ends.of (F' := T40.setTop (mkF m 10 #[.val (.ref a1), .val (.int (0 : Int32)), .val (.int (Int32.ofNat n)), .val (.int (Int32.ofNat n)), .unset] [(.int (Int32.ofNat n))])) (fun _ kt => ?_) ?_
  · show Steps p.tables e below (T40.setTop (mkF m 8 #[.val (.ref a1), .val (.int (0 : Int32)), .val (.int (Int32.ofNat n)), .unset, .unset] [(.int (Int32.ofNat n))])) _
    refine XS.istoreN X40.here hx rfl (hb hby d33_8) rfl (l' := #[.val (.ref a1), .val (.int (0 : Int32)), .val (.int (Int32.ofNat n)), .val (.int (Int32.ofNat n)), .unset]) rfl ?_
    show Steps p.tables e below (T40.setTop (mkF m 9 #[.val (.ref a1), .val (.int (0 : Int32)), .val (.int (Int32.ofNat n)), .val (.int (Int32.ofNat n)), .unset] [])) _
    refine XS.iloadN X40.here hx rfl (hb hby d33_9) rfl ?_
    exact kt
  obtain ⟨T41, h41, k41, X41, e41, E41, A41, st41⟩ := newP X40 hx hZ (hw _ (List.mem_of_getElem? (i := 14) rfl)) e40 (g := (mkF m 10 #[.val (.ref a1), .val (.int (0 : Int32)), .val (.int (Int32.ofNat n)), .val (.int (Int32.ofNat n)), .unset] [(.int (Int32.ofNat n))])) rfl (hb hby d33_10) rfl (own_nn (by omega)) (cap := 16) (by rw [own_clamp (by omega)]; omega) (by decide) (by decide) (by decide)
  obtain ⟨b41, g41⟩ : ∃ z, z = h0.size := ⟨_, rfl⟩
  rw [← g41] at A41 st41
  refine Ends.of st41 ?_
  have V0 : Ary .byte Z h41 b41 n (fun _ => 0) := Ary.new A41 (by omega) rfl
  have gb : n0 ≤ b41 := Nat.le_trans Z0 (Nat.le_of_eq g41.symm)
  have Z1 : n0 ≤ h41.size := Nat.le_trans Z0 E41.1
  have D1 := D.ext E41
  obtain ⟨cd, Ad, Sd, -, -⟩ := D1.op
  refine Ends.of (F' := T41.setTop (mkF m 24 #[.val (.ref a1), .val (.int (0 : Int32)), .val (.int (Int32.ofNat n)), .val (.int (Int32.ofNat n)), .val (.ref b41)] [(.int (Int32.ofNat n)), (.int ((Int32.ofNat cap) - (0 : Int32))), (.int (0 : Int32)), (.ref b41), (.int (0 : Int32)), (.ref a1)])) (fun _ kt => ?_) ?_
  · show Steps p.tables e below (T41.setTop (mkF m 12 #[.val (.ref a1), .val (.int (0 : Int32)), .val (.int (Int32.ofNat n)), .val (.int (Int32.ofNat n)), .unset] [(.ref b41)])) _
    refine XS.astore X41.here hx rfl (hb hby d33_12) rfl rfl (l' := #[.val (.ref a1), .val (.int (0 : Int32)), .val (.int (Int32.ofNat n)), .val (.int (Int32.ofNat n)), .val (.ref b41)]) rfl ?_
    show Steps p.tables e below (T41.setTop (mkF m 14 #[.val (.ref a1), .val (.int (0 : Int32)), .val (.int (Int32.ofNat n)), .val (.int (Int32.ofNat n)), .val (.ref b41)] [])) _
    refine XS.aloadN X41.here hx rfl (hb hby d33_14) rfl rfl ?_
    show Steps p.tables e below (T41.setTop (mkF m 15 #[.val (.ref a1), .val (.int (0 : Int32)), .val (.int (Int32.ofNat n)), .val (.int (Int32.ofNat n)), .val (.ref b41)] [(.ref a1)])) _
    refine XS.iloadN X41.here hx rfl (hb hby d33_15) rfl ?_
    show Steps p.tables e below (T41.setTop (mkF m 16 #[.val (.ref a1), .val (.int (0 : Int32)), .val (.int (Int32.ofNat n)), .val (.int (Int32.ofNat n)), .val (.ref b41)] [(.int (0 : Int32)), (.ref a1)])) _
    refine XS.aload X41.here hx rfl (hb hby d33_16) rfl rfl ?_
    show Steps p.tables e below (T41.setTop (mkF m 18 #[.val (.ref a1), .val (.int (0 : Int32)), .val (.int (Int32.ofNat n)), .val (.int (Int32.ofNat n)), .val (.ref b41)] [(.ref b41), (.int (0 : Int32)), (.ref a1)])) _
    refine XS.iconst X41.here hx rfl (hb hby d33_18) ?_
    show Steps p.tables e below (T41.setTop (mkF m 19 #[.val (.ref a1), .val (.int (0 : Int32)), .val (.int (Int32.ofNat n)), .val (.int (Int32.ofNat n)), .val (.ref b41)] [(.int (0 : Int32)), (.ref b41), (.int (0 : Int32)), (.ref a1)])) _
    refine XS.aloadN X41.here hx rfl (hb hby d33_19) rfl rfl ?_
    show Steps p.tables e below (T41.setTop (mkF m 20 #[.val (.ref a1), .val (.int (0 : Int32)), .val (.int (Int32.ofNat n)), .val (.int (Int32.ofNat n)), .val (.ref b41)] [(.ref a1), (.int (0 : Int32)), (.ref b41), (.int (0 : Int32)), (.ref a1)])) _
    refine X41.arraylength hx (by rw [e41]; exact Ad.1) (State.isArrayOf_alike hZ.alike Ad.2.1) (g := (mkF m 20 #[.val (.ref a1), .val (.int (0 : Int32)), .val (.int (Int32.ofNat n)), .val (.int (Int32.ofNat n)), .val (.ref b41)] [(.ref a1), (.int (0 : Int32)), (.ref b41), (.int (0 : Int32)), (.ref a1)])) rfl rfl (hb hby d33_20) _ ?_
    rw [Sd]
    show Steps p.tables e below (T41.setTop (mkF m 21 #[.val (.ref a1), .val (.int (0 : Int32)), .val (.int (Int32.ofNat n)), .val (.int (Int32.ofNat n)), .val (.ref b41)] [(.int (Int32.ofNat cap)), (.int (0 : Int32)), (.ref b41), (.int (0 : Int32)), (.ref a1)])) _
    refine XS.iloadN X41.here hx rfl (hb hby d33_21) rfl ?_
    show Steps p.tables e below (T41.setTop (mkF m 22 #[.val (.ref a1), .val (.int (0 : Int32)), .val (.int (Int32.ofNat n)), .val (.int (Int32.ofNat n)), .val (.ref b41)] [(.int (0 : Int32)), (.int (Int32.ofNat cap)), (.int (0 : Int32)), (.ref b41), (.int (0 : Int32)), (.ref a1)])) _
    refine XS.isub X41.here hx rfl (hb hby d33_22) rfl ?_
    show Steps p.tables e below (T41.setTop (mkF m 23 #[.val (.ref a1), .val (.int (0 : Int32)), .val (.int (Int32.ofNat n)), .val (.int (Int32.ofNat n)), .val (.ref b41)] [(.int ((Int32.ofNat cap) - (0 : Int32))), (.int (0 : Int32)), (.ref b41), (.int (0 : Int32)), (.ref a1)])) _
    refine XS.iloadN X41.here hx rfl (hb hby d33_23) rfl ?_
    exact kt
  rw [Int32.sub_zero]
  obtain ⟨_, _, ⟨T42, L42, k42, n42⟩, -, X42, ⟨Lc42, hQ42, l42, y42, z42⟩, st42⟩ := Jvm.LawKit.callS X41 hx (y := (⟨"java/lang/Math", "min", "(II)I"⟩ : MethodName)) hown (mvT hZ (hw _ (List.mem_of_getElem? (i := 180) rfl))) (mvT hZ (hw _ (List.mem_of_getElem? (i := 181) rfl))) (mvT hZ (hw _ (List.mem_of_getElem? (i := 182) rfl))) (mvT hZ (hw _ (List.mem_of_getElem? (i := 183) rfl))) (by decide) (backOf (W := 4) (math_min l Z a0 hw [] (Int32.ofNat cap) (Int32.ofNat n) h41 n0 Z1) hZ (hw _ (List.mem_of_getElem? (i := 183) rfl)) (hw _ (List.mem_of_getElem? (i := 182) rfl)) (by decide) (by decide)) (g := (mkF m 24 #[.val (.ref a1), .val (.int (0 : Int32)), .val (.int (Int32.ofNat n)), .val (.int (Int32.ofNat n)), .val (.ref b41)] [(.int (Int32.ofNat n)), (.int (Int32.ofNat cap)), (.int (0 : Int32)), (.ref b41), (.int (0 : Int32)), (.ref a1)])) rfl (by rw [hml]; rfl) (argsL := [(.int (Int32.ofNat cap)), (.int (Int32.ofNat n))]) (rest := [(.int (0 : Int32)), (.ref b41), (.int (0 : Int32)), (.ref a1)]) (lenOf pd_28 rfl) rfl (by show 2 * 0 + _ ≤ _; exact Nat.le_of_eq rfl) (hb hby d33_24) (fun _ _ => ⟨rfl, e41, (by decide : 1 + 0 ≤ _), (by decide : 16 + 0 ≤ _)⟩)
  dsimp only [Pt.U, Pt.locs, Pt.cells, Pt.slots] at X42 l42 y42 z42 st42 hQ42
  subst l42 y42 z42
  obtain ⟨rfl, N42q, e42⟩ := hQ42
  have N42 := Fr.app N40 N42q
  refine Ends.of st42 ?_
  rw [if_pos ((own_ltN n cap (by omega) (by omega)).mpr hn)]
  obtain ⟨hA43, kA43, VA43⟩ := id D1
  obtain ⟨hB43, kB43, VB43⟩ := id V0
  obtain ⟨T43, h43, L43, X43, e43, N43, K43, V43, st43⟩ := cpA X42 hx hZ hown (hw _ (List.mem_of_getElem? (i := 184) rfl)) (hw _ (List.mem_of_getElem? (i := 138) rfl)) (hw _ (List.mem_of_getElem? (i := 136) rfl)) (hw _ (List.mem_of_getElem? (i := 137) rfl)) e42 (sp := Int32.ofNat 0) (dp := Int32.ofNat 0) (nn := Int32.ofNat n) VA43 VB43 (Or.inl ⟨rfl, rfl⟩) (own_nn (by omega)) (own_nn (by omega)) (own_nn (by omega)) (by have q1 := own_clamp (by omega : 0 ≤ 100000); have q2 := own_clamp (by omega : n ≤ 100000); have q3 := own_clamp (by omega : cap ≤ 100000); omega) (by have q1 := own_clamp (by omega : 0 ≤ 100000); have q2 := own_clamp (by omega : n ≤ 100000); have q3 := own_clamp (by omega : n ≤ 100000); omega) rfl (by rw [own_clamp (by omega : 0 ≤ 100000), own_clamp (by omega : n ≤ 100000)]; simp <;> omega) N42 gb (g := (mkF m 27 #[.val (.ref a1), .val (.int (0 : Int32)), .val (.int (Int32.ofNat n)), .val (.int (Int32.ofNat n)), .val (.ref b41)] [(.int (Int32.ofNat n)), (.int (0 : Int32)), (.ref b41), (.int (0 : Int32)), (.ref a1)])) rfl (by rw [hml]; rfl) rfl (hb hby d33_27) (by decide) (W := 0) (by show 2 * 0 + _ ≤ _; exact Nat.le_of_eq rfl) (by decide)
  have F43 := Ary.cpd V43 (by omega) (by omega : 0 + n ≤ cap) (by omega) (by omega)
  refine Ends.of st43 ?_
  have V1 := F43.congr (g := f) (fun i hi => by rw [if_pos (by omega)]; congr 1; omega)
  have K1 : Keep h0 h43 [] := ((Keep.refl h0 []).ext E41).trans K43 (allS (Or.inr (Nat.le_of_eq g41.symm)) all0)
  refine Ends.of (F' := T43.setTop (mkF m 32 #[.val (.ref a1), .val (.int (0 : Int32)), .val (.int (Int32.ofNat n)), .val (.int (Int32.ofNat n)), .val (.ref b41)] [(.ref b41)])) (fun _ kt => ?_) ?_
  · show Steps p.tables e below (T43.setTop (mkF m 30 #[.val (.ref a1), .val (.int (0 : Int32)), .val (.int (Int32.ofNat n)), .val (.int (Int32.ofNat n)), .val (.ref b41)] [])) _
    refine XS.aload X43.here hx rfl (hb hby d33_30) rfl rfl ?_
    exact kt
  rw [← e43] at V1 K1
  subst g41
  obtain ⟨fs, hr, hrun, hended, hW, hsame⟩ := X43.leave (v := some (.ref h0.size)) (fun h => by rw [Bd.returns] at h; cases h)
  refine ⟨_, _, ?_, hrun, hended, _, _, rfl, ⟨rfl, N43, K1, V1⟩, ⟨_, rfl⟩, hW, hsame.mono (by decide) (by decide)⟩
  show Steps p.tables e below (T43.setTop (mkF m 32 #[.val (.ref a1), .val (.int (0 : Int32)), .val (.int (Int32.ofNat n)), .val (.int (Int32.ofNat n)), .val (.ref h0.size)] [(.ref h0.size)])) _
  jvm_step X43.here [X43.here.top, hx, (hb hby d33_32), X43.method', Bd.returns, Value.isRef, FieldType.isReference]
  first | (intro acts; rw [hr _ acts rfl rfl rfl]) | rw [hr _ _ rfl rfl rfl]
  exact Steps.refl _
theorem d32_0 : decode jdk_65_method_132_code 0 = .ok (.iload_n 1, 1) := by decide +kernel
theorem d32_1 : decode jdk_65_method_132_code 1 = .ok (.ifCond .ne 9, 3) := by decide +kernel
theorem d32_4 : decode jdk_65_method_132_code 4 = .ok (.iload_n 2, 1) := by decide +kernel
theorem d32_5 : decode jdk_65_method_132_code 5 = .ok (.aload_n 0, 1) := by decide +kernel
theorem d32_6 : decode jdk_65_method_132_code 6 = .ok (.arraylength, 1) := by decide +kernel
theorem d32_7 : decode jdk_65_method_132_code 7 = .ok (.if_icmp .eq 10, 3) := by decide +kernel
theorem d32_10 : decode jdk_65_method_132_code 10 = .ok (.aload_n 0, 1) := by decide +kernel
theorem d32_11 : decode jdk_65_method_132_code 11 = .ok (.iload_n 1, 1) := by decide +kernel
theorem d32_12 : decode jdk_65_method_132_code 12 = .ok (.iload_n 2, 1) := by decide +kernel
theorem d32_13 : decode jdk_65_method_132_code 13 = .ok (.invokestatic 339, 3) := by decide +kernel
theorem d32_16 : decode jdk_65_method_132_code 16 = .ok (.areturn, 1) := by decide +kernel
theorem d32_17 : decode jdk_65_method_132_code 17 = .ok (.aload_n 0, 1) := by decide +kernel
theorem d32_18 : decode jdk_65_method_132_code 18 = .ok (.invokevirtual 310, 3) := by decide +kernel
theorem d32_21 : decode jdk_65_method_132_code 21 = .ok (.checkcast 311, 3) := by decide +kernel
theorem d32_24 : decode jdk_65_method_132_code 24 = .ok (.areturn, 1) := by decide +kernel
def Q_ar_cpr (Z : State) (a1 : Addr) (cap : Nat) (n : Nat) (f : Nat → Int32) (h0 : Heap) (n0 : Nat) (v : Option Value) (h : Heap) (L : List Loc) : Prop := v = some (.ref h0.size) ∧ Fr n0 L ∧ Keep h0 h [] ∧ Ary .byte Z h h0.size n f
set_option maxRecDepth 65536 in
set_option maxHeartbeats 40000000 in
theorem ar_cpr (l : Launch) (Z : State) (a0 : Array Value) (hw : ∀ d ∈ tables_1, d.before a0 Z = true) (ws : List Jvm.Cond) (a1 : Addr) (cap : Nat) (n : Nat) (f : Nat → Int32) (h0 : Heap) (n0 : Nat) (Z0 : n0 ≤ h0.size) (D : Ary .byte Z h0 a1 cap f) (hn : n < cap) (ht : n ≤ 16) :
    MetFree l (⟨"java/util/Arrays", "copyOfRange", "([BII)[B"⟩ : MethodName) (head1 (Jvm.Cond.code (⟨"java/util/Arrays", "copyOfRange", "([BII)[B"⟩ : MethodName) jdk_65_method_132_code 3 (some (.array .byte)) :: ws) ({ frames := 2, cells := 1, slots := 16, locals := 80 } : Room)) (fun a U => a = #[(.ref a1), (.int (0 : Int32)), (.int (Int32.ofNat n))] ∧ Z.Warmed39 U.vm ∧ U.heap = h0) (fun _ _ _ _ _ => True) (fun _ U o U' => ∃ v L, o = .returned v ∧ Q_ar_cpr Z a1 cap n f h0 n0 v U'.heap L ∧ FrameEnd U o U' L ({ frames := 2, cells := 1, slots := 16, locals := 80 } : Room).cells ({ frames := 2, cells := 1, slots := 16, locals := 80 } : Room).slots) := by
  refine MetFree.of_bodySF (plainFor_of_name pn_5) hisR ?_
  intro p e s m args below meth c s₁ Bd hml0 hP hK
  obtain ⟨rfl, hZ, hh⟩ := hP
  have hx := Bd.exec
  have hby := Bd.bytes
  have hml : c.maxLocals = 3 := hml0
  have hown : s.vm.findClass "java/util/Arrays" = some m.cls := findClass_of_methodNamed Bd.named
  have hnm := (name_of_methodNamed Bd.named Bd.method).1
  have X0 : Stand p l e ({ frames := 2, cells := 1, slots := 16, locals := 80 } : Room) s m #[(.ref a1), (.int (0 : Int32)), (.int (Int32.ofNat n))] below meth c s₁ [] 0 0 := Stand.of_body Bd
  have e0 : s₁.heap = h0 := by rw [← hh, Bd.state]; rfl
  have N0 := Fr.nil n0
  have eF : entryFrame m #[(.ref a1), (.int (0 : Int32)), (.int (Int32.ofNat n))] 3 = mkF m 0 #[.val (.ref a1), .val (.int (0 : Int32)), .val (.int (Int32.ofNat n))] [] := by first | (simp [entryFrame, mkF, argsToLocals, Value.category]; done) | rfl
  show Ends p e below s ({ frames := 2, cells := 1, slots := 16, locals := 80 } : Room) (Q_ar_cpr Z a1 cap n f h0 n0) (s₁.setTop (entryFrame m #[(.ref a1), (.int (0 : Int32)), (.int (Int32.ofNat n))] 3))
  rw [eF]
  have hc1 := D.1
  obtain ⟨cd, Ad, Sd, -, -⟩ := D.op
  refine Ends.of (F' := s₁.setTop (mkF m 13 #[.val (.ref a1), .val (.int (0 : Int32)), .val (.int (Int32.ofNat n))] [(.int (Int32.ofNat n)), (.int (0 : Int32)), (.ref a1)])) (fun _ kt => ?_) ?_
  · show Steps p.tables e below (s₁.setTop (mkF m 0 #[.val (.ref a1), .val (.int (0 : Int32)), .val (.int (Int32.ofNat n))] [])) _
    refine XS.iloadN X0.here hx rfl (hb hby d32_0) rfl ?_
    show Steps p.tables e below (s₁.setTop (mkF m 1 #[.val (.ref a1), .val (.int (0 : Int32)), .val (.int (Int32.ofNat n))] [(.int (0 : Int32))])) _
    refine XS.ifNo X0.here hx rfl (hb hby d32_1) rfl ((if0 _ _).trans (teq rfl).2) ?_
    show Steps p.tables e below (s₁.setTop (mkF m 4 #[.val (.ref a1), .val (.int (0 : Int32)), .val (.int (Int32.ofNat n))] [])) _
    refine XS.iloadN X0.here hx rfl (hb hby d32_4) rfl ?_
    show Steps p.tables e below (s₁.setTop (mkF m 5 #[.val (.ref a1), .val (.int (0 : Int32)), .val (.int (Int32.ofNat n))] [(.int (Int32.ofNat n))])) _
    refine XS.aloadN X0.here hx rfl (hb hby d32_5) rfl rfl ?_
    show Steps p.tables e below (s₁.setTop (mkF m 6 #[.val (.ref a1), .val (.int (0 : Int32)), .val (.int (Int32.ofNat n))] [(.ref a1), (.int (Int32.ofNat n))])) _
    refine X0.arraylength hx (by rw [e0]; exact Ad.1) (State.isArrayOf_alike hZ.alike Ad.2.1) (g := (mkF m 6 #[.val (.ref a1), .val (.int (0 : Int32)), .val (.int (Int32.ofNat n))] [(.ref a1), (.int (Int32.ofNat n))])) rfl rfl (hb hby d32_6) _ ?_
    rw [Sd]
    show Steps p.tables e below (s₁.setTop (mkF m 7 #[.val (.ref a1), .val (.int (0 : Int32)), .val (.int (Int32.ofNat n))] [(.int (Int32.ofNat cap)), (.int (Int32.ofNat n))])) _
    refine XS.icmpNo X0.here hx rfl (hb hby d32_7) rfl (feq (fun q => by have := (own_eqN n cap (by omega) (by omega)).mp q; omega)).1 ?_
    show Steps p.tables e below (s₁.setTop (mkF m 10 #[.val (.ref a1), .val (.int (0 : Int32)), .val (.int (Int32.ofNat n))] [])) _
    refine XS.aloadN X0.here hx rfl (hb hby d32_10) rfl rfl ?_
    show Steps p.tables e below (s₁.setTop (mkF m 11 #[.val (.ref a1), .val (.int (0 : Int32)), .val (.int (Int32.ofNat n))] [(.ref a1)])) _
    refine XS.iloadN X0.here hx rfl (hb hby d32_11) rfl ?_
    show Steps p.tables e below (s₁.setTop (mkF m 12 #[.val (.ref a1), .val (.int (0 : Int32)), .val (.int (Int32.ofNat n))] [(.int (0 : Int32)), (.ref a1)])) _
    refine XS.iloadN X0.here hx rfl (hb hby d32_12) rfl ?_
    exact kt
  obtain ⟨_, _, ⟨T44, L44, k44, n44⟩, -, X44, ⟨Lc44, hQ44, l44, y44, z44⟩, st44⟩ := Jvm.LawKit.callS X0 hx (y := (⟨"java/util/Arrays", "copyOfRangeByte", "([BII)[B"⟩ : MethodName)) hown (mvT hZ (hw _ (List.mem_of_getElem? (i := 174) rfl))) (mvT hZ (hw _ (List.mem_of_getElem? (i := 175) rfl))) (mvT hZ (hw _ (List.mem_of_getElem? (i := 172) rfl))) (mvT hZ (hw _ (List.mem_of_getElem? (i := 176) rfl))) (by decide) (backOf (W := 0) (ar_cpb l Z a0 hw [] a1 cap n f h0 n0 Z0 D hn ht) hZ (hw _ (List.mem_of_getElem? (i := 176) rfl)) (hw _ (List.mem_of_getElem? (i := 172) rfl)) (by decide) (by decide)) (g := (mkF m 13 #[.val (.ref a1), .val (.int (0 : Int32)), .val (.int (Int32.ofNat n))] [(.int (Int32.ofNat n)), (.int (0 : Int32)), (.ref a1)])) rfl (by rw [hml]; rfl) (argsL := [(.ref a1), (.int (0 : Int32)), (.int (Int32.ofNat n))]) (rest := []) (lenOf pd_26 rfl) rfl (by show 2 * 0 + _ ≤ _; exact Nat.le_of_eq rfl) (hb hby d32_13) (fun _ _ => ⟨rfl, e0, (by decide : 0 + 1 ≤ _), (by decide : 0 + 16 ≤ _)⟩)
  dsimp only [Pt.U, Pt.locs, Pt.cells, Pt.slots] at X44 l44 y44 z44 st44 hQ44
  subst l44 y44 z44
  obtain ⟨rfl, N44q, K44, V44⟩ := hQ44
  have N44 := Fr.app N0 N44q
  refine Ends.of st44 ?_
  obtain ⟨fs, hr, hrun, hended, hW, hsame⟩ := X44.leave (v := some (.ref h0.size)) (fun h => by rw [Bd.returns] at h; cases h)
  refine ⟨_, _, ?_, hrun, hended, _, _, rfl, ⟨rfl, N44, K44, V44⟩, ⟨_, rfl⟩, hW, hsame.mono (by decide) (by decide)⟩
  show Steps p.tables e below (T44.setTop (mkF m 16 #[.val (.ref a1), .val (.int (0 : Int32)), .val (.int (Int32.ofNat n))] [(.ref h0.size)])) _
  jvm_step X44.here [X44.here.top, hx, (hb hby d32_16), X44.method', Bd.returns, Value.isRef, FieldType.isReference]
  first | (intro acts; rw [hr _ acts rfl rfl rfl]) | rw [hr _ _ rfl rfl rfl]
  exact Steps.refl _
theorem d27_0 : decode jdk_42_method_150_code 0 = .ok (.aload_n 0, 1) := by decide +kernel
theorem d27_1 : decode jdk_42_method_150_code 1 = .ok (.invokespecial 1, 3) := by decide +kernel
theorem d27_4 : decode jdk_42_method_150_code 4 = .ok (.aload_n 1, 1) := by decide +kernel
theorem d27_5 : decode jdk_42_method_150_code 5 = .ok (.invokevirtual 552, 3) := by decide +kernel
theorem d27_8 : decode jdk_42_method_150_code 8 = .ok (.astore_n 3, 1) := by decide +kernel
theorem d27_9 : decode jdk_42_method_150_code 9 = .ok (.aload_n 1, 1) := by decide +kernel
theorem d27_10 : decode jdk_42_method_150_code 10 = .ok (.invokevirtual 549, 3) := by decide +kernel
theorem d27_13 : decode jdk_42_method_150_code 13 = .ok (.istore 4, 2) := by decide +kernel
theorem d27_15 : decode jdk_42_method_150_code 15 = .ok (.aload_n 1, 1) := by decide +kernel
theorem d27_16 : decode jdk_42_method_150_code 16 = .ok (.invokevirtual 1047, 3) := by decide +kernel
theorem d27_19 : decode jdk_42_method_150_code 19 = .ok (.ifCond .eq 22, 3) := by decide +kernel
theorem d27_22 : decode jdk_42_method_150_code 22 = .ok (.aload_n 0, 1) := by decide +kernel
theorem d27_23 : decode jdk_42_method_150_code 23 = .ok (.iconst 0, 1) := by decide +kernel
theorem d27_24 : decode jdk_42_method_150_code 24 = .ok (.putfield 15, 3) := by decide +kernel
theorem d27_27 : decode jdk_42_method_150_code 27 = .ok (.aload_n 0, 1) := by decide +kernel
theorem d27_28 : decode jdk_42_method_150_code 28 = .ok (.aload_n 3, 1) := by decide +kernel
theorem d27_29 : decode jdk_42_method_150_code 29 = .ok (.iconst 0, 1) := by decide +kernel
theorem d27_30 : decode jdk_42_method_150_code 30 = .ok (.iload 4, 2) := by decide +kernel
theorem d27_32 : decode jdk_42_method_150_code 32 = .ok (.invokestatic 54, 3) := by decide +kernel
theorem d27_35 : decode jdk_42_method_150_code 35 = .ok (.putfield 9, 3) := by decide +kernel
theorem d27_38 : decode jdk_42_method_150_code 38 = .ok (.goto 59, 3) := by decide +kernel
theorem d27_41 : decode jdk_42_method_150_code 41 = .ok (.getstatic 38, 3) := by decide +kernel
theorem d27_44 : decode jdk_42_method_150_code 44 = .ok (.ifCond .eq 35, 3) := by decide +kernel
theorem d27_47 : decode jdk_42_method_150_code 47 = .ok (.aload_n 1, 1) := by decide +kernel
theorem d27_48 : decode jdk_42_method_150_code 48 = .ok (.getfield 1048, 3) := by decide +kernel
theorem d27_51 : decode jdk_42_method_150_code 51 = .ok (.ifCond .eq 28, 3) := by decide +kernel
theorem d27_54 : decode jdk_42_method_150_code 54 = .ok (.aload_n 0, 1) := by decide +kernel
theorem d27_55 : decode jdk_42_method_150_code 55 = .ok (.aload_n 3, 1) := by decide +kernel
theorem d27_56 : decode jdk_42_method_150_code 56 = .ok (.iconst 0, 1) := by decide +kernel
theorem d27_57 : decode jdk_42_method_150_code 57 = .ok (.iload 4, 2) := by decide +kernel
theorem d27_59 : decode jdk_42_method_150_code 59 = .ok (.invokestatic 1051, 3) := by decide +kernel
theorem d27_62 : decode jdk_42_method_150_code 62 = .ok (.putfield 9, 3) := by decide +kernel
theorem d27_65 : decode jdk_42_method_150_code 65 = .ok (.aload_n 0, 1) := by decide +kernel
theorem d27_66 : decode jdk_42_method_150_code 66 = .ok (.aload_n 0, 1) := by decide +kernel
theorem d27_67 : decode jdk_42_method_150_code 67 = .ok (.getfield 9, 3) := by decide +kernel
theorem d27_70 : decode jdk_42_method_150_code 70 = .ok (.iload 4, 2) := by decide +kernel
theorem d27_72 : decode jdk_42_method_150_code 72 = .ok (.invokestatic 47, 3) := by decide +kernel
theorem d27_75 : decode jdk_42_method_150_code 75 = .ok (.putfield 15, 3) := by decide +kernel
theorem d27_78 : decode jdk_42_method_150_code 78 = .ok (.return_, 1) := by decide +kernel
theorem d27_79 : decode jdk_42_method_150_code 79 = .ok (.aload_n 0, 1) := by decide +kernel
theorem d27_80 : decode jdk_42_method_150_code 80 = .ok (.iconst 1, 1) := by decide +kernel
theorem d27_81 : decode jdk_42_method_150_code 81 = .ok (.putfield 15, 3) := by decide +kernel
theorem d27_84 : decode jdk_42_method_150_code 84 = .ok (.aload_n 0, 1) := by decide +kernel
theorem d27_85 : decode jdk_42_method_150_code 85 = .ok (.aload_n 3, 1) := by decide +kernel
theorem d27_86 : decode jdk_42_method_150_code 86 = .ok (.iconst 0, 1) := by decide +kernel
theorem d27_87 : decode jdk_42_method_150_code 87 = .ok (.iload 4, 2) := by decide +kernel
theorem d27_89 : decode jdk_42_method_150_code 89 = .ok (.iconst 1, 1) := by decide +kernel
theorem d27_90 : decode jdk_42_method_150_code 90 = .ok (.ishl, 1) := by decide +kernel
theorem d27_91 : decode jdk_42_method_150_code 91 = .ok (.invokestatic 54, 3) := by decide +kernel
theorem d27_94 : decode jdk_42_method_150_code 94 = .ok (.putfield 9, 3) := by decide +kernel
theorem d27_97 : decode jdk_42_method_150_code 97 = .ok (.return_, 1) := by decide +kernel
def Q_str_initASB (Z : State) (a1 : Addr) (a2 : Addr) (b : Addr) (cap : Nat) (n : Nat) (f : Nat → Int32) (cs : Int32) (h0 : Heap) (n0 : Nat) (v : Option Value) (h : Heap) (L : List Loc) : Prop := v = none ∧ Fr n0 L ∧ Keep h0 h [a1] ∧ ∃ d : Addr, Str Z h a1 d n f ∧ h0.size ≤ d
set_option maxRecDepth 65536 in
set_option maxHeartbeats 40000000 in
theorem str_initASB (l : Launch) (Z : State) (a0 : Array Value) (hw : ∀ d ∈ tables_1, d.before a0 Z = true) (ws : List Jvm.Cond) (a1 : Addr) (a2 : Addr) (b : Addr) (cap : Nat) (n : Nat) (f : Nat → Int32) (cs : Int32) (h0 : Heap) (n0 : Nat) (Z0 : n0 ≤ h0.size) (S0 : Sta Z Z.heap "java/lang/String" "COMPACT_STRINGS" "Z" (.int cs)) (hcs : ¬ cs = (0 : Int32)) (O : Oll Z n0 h0) (E_a : Exa Z h0 a1 "java/lang/String") (F_v : Fld Z h0 a1 "java/lang/String" "value" "[B" .null) (F_c : Fld Z h0 a1 "java/lang/String" "coder" "B" (.int (0 : Int32))) (F : SBd Z h0 a2 b cap n f) (hn : n < cap) (ht : n ≤ 16) (g_a : n0 ≤ a1) :
    MetFree l (⟨"java/lang/String", "<init>", "(Ljava/lang/AbstractStringBuilder;Ljava/lang/Void;)V"⟩ : MethodName) (head1 (Jvm.Cond.code (⟨"java/lang/String", "<init>", "(Ljava/lang/AbstractStringBuilder;Ljava/lang/Void;)V"⟩ : MethodName) jdk_42_method_150_code 5 none :: ws) ({ frames := 3, cells := 1, slots := 16, locals := 95 } : Room)) (fun a U => a = #[(.ref a1), (.ref a2), .null] ∧ Z.Warmed39 U.vm ∧ U.heap = h0) (fun _ _ _ _ _ => True) (fun _ U o U' => ∃ v L, o = .returned v ∧ Q_str_initASB Z a1 a2 b cap n f cs h0 n0 v U'.heap L ∧ FrameEnd U o U' L ({ frames := 3, cells := 1, slots := 16, locals := 95 } : Room).cells ({ frames := 3, cells := 1, slots := 16, locals := 95 } : Room).slots) := by
  refine MetFree.of_bodySF (plainFor_of_name pn_0) hisR ?_
  intro p e s m args below meth c s₁ Bd hml0 hP hK
  obtain ⟨rfl, hZ, hh⟩ := hP
  have hx := Bd.exec
  have hby := Bd.bytes
  have hml : c.maxLocals = 5 := hml0
  have hown : s.vm.findClass "java/lang/String" = some m.cls := findClass_of_methodNamed Bd.named
  have hnm := (name_of_methodNamed Bd.named Bd.method).1
  have X0 : Stand p l e ({ frames := 3, cells := 1, slots := 16, locals := 95 } : Room) s m #[(.ref a1), (.ref a2), .null] below meth c s₁ [] 0 0 := Stand.of_body Bd
  have e0 : s₁.heap = h0 := by rw [← hh, Bd.state]; rfl
  have N0 := Fr.nil n0
  have eF : entryFrame m #[(.ref a1), (.ref a2), .null] 5 = mkF m 0 #[.val (.ref a1), .val (.ref a2), .val .null, .unset, .unset] [] := by first | (simp [entryFrame, mkF, argsToLocals, Value.category]; done) | rfl
  show Ends p e below s ({ frames := 3, cells := 1, slots := 16, locals := 95 } : Room) (Q_str_initASB Z a1 a2 b cap n f cs h0 n0) (s₁.setTop (entryFrame m #[(.ref a1), (.ref a2), .null] 5))
  rw [eF]
  obtain ⟨Ex, Fc, Fn, Fv, Va, hcap⟩ := id F
  refine Ends.of (F' := s₁.setTop (mkF m 1 #[.val (.ref a1), .val (.ref a2), .val .null, .unset, .unset] [(.ref a1)])) (fun _ kt => ?_) ?_
  · show Steps p.tables e below (s₁.setTop (mkF m 0 #[.val (.ref a1), .val (.ref a2), .val .null, .unset, .unset] [])) _
    refine XS.aloadN X0.here hx rfl (hb hby d27_0) rfl rfl ?_
    exact kt
  obtain ⟨T45, X45, e45, st45⟩ := initO X0 hx hZ hown (hw _ (List.mem_of_getElem? (i := 19) rfl)) (hw _ (List.mem_of_getElem? (i := 20) rfl)) (hw _ (List.mem_of_getElem? (i := 21) rfl)) e0 (g := (mkF m 1 #[.val (.ref a1), .val (.ref a2), .val .null, .unset, .unset] [(.ref a1)])) rfl (by rw [hml]; rfl) rfl (hb hby d27_1) (by decide) (W := 0) (by show 2 * 0 + _ ≤ _; exact Nat.le_of_eq rfl) (by decide)
  refine Ends.of st45 ?_
  refine Ends.of (F' := T45.setTop (mkF m 5 #[.val (.ref a1), .val (.ref a2), .val .null, .unset, .unset] [(.ref a2)])) (fun _ kt => ?_) ?_
  · show Steps p.tables e below (T45.setTop (mkF m 4 #[.val (.ref a1), .val (.ref a2), .val .null, .unset, .unset] [])) _
    refine XS.aloadN X45.here hx rfl (hb hby d27_4) rfl rfl ?_
    exact kt
  obtain ⟨cq46, kq46, q46a, q46b, q46c⟩ := isOf hZ e45 Ex
  obtain ⟨_, _, ⟨T46, L46, k46, n46⟩, -, X46, ⟨Lc46, hQ46, l46, y46, z46⟩, st46⟩ := X45.virtualBack hx (y := (⟨"java/lang/AbstractStringBuilder", "getValue", "()[B"⟩ : MethodName)) (z := (⟨"java/lang/AbstractStringBuilder", "getValue", "()[B"⟩ : MethodName)) hown (mvT hZ (hw _ (List.mem_of_getElem? (i := 152) rfl))) (mvT hZ (hw _ (List.mem_of_getElem? (i := 153) rfl))) (notFace_of_selects (args := #[]) (mvT hZ (hw _ (List.mem_of_getElem? (i := 155) rfl)))) (mvT hZ (hw _ (List.mem_of_getElem? (i := 155) rfl))) (mvT hZ (hw _ (List.mem_of_getElem? (i := 154) rfl))) (by decide) (backOf (W := 0) (asb_val l Z a0 hw [] a2 b h0 n0 Z0 Fv) hZ (hw _ (List.mem_of_getElem? (i := 156) rfl)) (hw _ (List.mem_of_getElem? (i := 79) rfl)) (by decide) (by decide)) q46a q46c (g := (mkF m 5 #[.val (.ref a1), .val (.ref a2), .val .null, .unset, .unset] [(.ref a2)])) rfl (by rw [hml]; rfl) (Steps.refl _) (argsL := []) (rest := []) (lenOf pd_24 rfl) rfl (by show 2 * 0 + _ ≤ _; exact Nat.le_of_eq rfl) (hb hby d27_5) (fun _ _ => ⟨rfl, e45, (by decide : 0 + 0 ≤ _), (by decide : 0 + 0 ≤ _)⟩)
  dsimp only [Pt.U, Pt.locs, Pt.cells, Pt.slots] at X46 l46 y46 z46 st46 hQ46
  subst l46 y46 z46
  obtain ⟨rfl, N46q, e46⟩ := hQ46
  have N46 := Fr.app N0 N46q
  refine Ends.st st46 ?_
  refine Ends.of (F' := T46.setTop (mkF m 10 #[.val (.ref a1), .val (.ref a2), .val .null, .val (.ref b), .unset] [(.ref a2)])) (fun _ kt => ?_) ?_
  · show Steps p.tables e below (T46.setTop (mkF m 8 #[.val (.ref a1), .val (.ref a2), .val .null, .unset, .unset] [(.ref b)])) _
    refine XS.astoreN X46.here hx rfl (hb hby d27_8) rfl rfl (l' := #[.val (.ref a1), .val (.ref a2), .val .null, .val (.ref b), .unset]) rfl ?_
    show Steps p.tables e below (T46.setTop (mkF m 9 #[.val (.ref a1), .val (.ref a2), .val .null, .val (.ref b), .unset] [])) _
    refine XS.aloadN X46.here hx rfl (hb hby d27_9) rfl rfl ?_
    exact kt
  obtain ⟨cq47, kq47, q47a, q47b, q47c⟩ := isOf hZ e46 Ex
  obtain ⟨_, _, ⟨T47, L47, k47, n47⟩, -, X47, ⟨Lc47, hQ47, l47, y47, z47⟩, st47⟩ := X46.virtualBack hx (y := (⟨"java/lang/AbstractStringBuilder", "length", "()I"⟩ : MethodName)) (z := (⟨"java/lang/StringBuilder", "length", "()I"⟩ : MethodName)) hown (mvT hZ (hw _ (List.mem_of_getElem? (i := 157) rfl))) (mvT hZ (hw _ (List.mem_of_getElem? (i := 158) rfl))) (own_nf (args := #[]) (z := (⟨"java/lang/AbstractStringBuilder", "ensureCapacityInternal", "(I)V"⟩ : MethodName)) rfl (mvT hZ (hw _ (List.mem_of_getElem? (i := 117) rfl)))) (mvT hZ (hw _ (List.mem_of_getElem? (i := 160) rfl))) (mvT hZ (hw _ (List.mem_of_getElem? (i := 161) rfl))) (by decide) (backOf (W := 0) (sb_len l Z a0 hw [] a2 n h0 n0 Z0 Fn Ex) hZ (hw _ (List.mem_of_getElem? (i := 162) rfl)) (hw _ (List.mem_of_getElem? (i := 71) rfl)) (by decide) (by decide)) q47a q47c (g := (mkF m 10 #[.val (.ref a1), .val (.ref a2), .val .null, .val (.ref b), .unset] [(.ref a2)])) rfl (by rw [hml]; rfl) (Steps.refl _) (argsL := []) (rest := []) (lenOf pd_13 rfl) rfl (by show 2 * 0 + _ ≤ _; exact Nat.le_of_eq rfl) (hb hby d27_10) (fun _ _ => ⟨rfl, e46, (by decide : 0 + 0 ≤ _), (by decide : 0 + 0 ≤ _)⟩)
  dsimp only [Pt.U, Pt.locs, Pt.cells, Pt.slots] at X47 l47 y47 z47 st47 hQ47
  subst l47 y47 z47
  obtain ⟨rfl, N47q, e47⟩ := hQ47
  have N47 := Fr.app N46 N47q
  refine Ends.st st47 ?_
  refine Ends.of (F' := T47.setTop (mkF m 16 #[.val (.ref a1), .val (.ref a2), .val .null, .val (.ref b), .val (.int (Int32.ofNat n))] [(.ref a2)])) (fun _ kt => ?_) ?_
  · show Steps p.tables e below (T47.setTop (mkF m 13 #[.val (.ref a1), .val (.ref a2), .val .null, .val (.ref b), .unset] [(.int (Int32.ofNat n))])) _
    refine XS.istore X47.here hx rfl (hb hby d27_13) rfl (l' := #[.val (.ref a1), .val (.ref a2), .val .null, .val (.ref b), .val (.int (Int32.ofNat n))]) rfl ?_
    show Steps p.tables e below (T47.setTop (mkF m 15 #[.val (.ref a1), .val (.ref a2), .val .null, .val (.ref b), .val (.int (Int32.ofNat n))] [])) _
    refine XS.aloadN X47.here hx rfl (hb hby d27_15) rfl rfl ?_
    exact kt
  obtain ⟨cq48, kq48, q48a, q48b, q48c⟩ := isOf hZ e47 F.1
  obtain ⟨_, _, ⟨T48, L48, k48, n48⟩, -, X48, ⟨Lc48, hQ48, l48, y48, z48⟩, st48⟩ := X47.virtualBack hx (y := (⟨"java/lang/AbstractStringBuilder", "isLatin1", "()Z"⟩ : MethodName)) (z := (⟨"java/lang/AbstractStringBuilder", "isLatin1", "()Z"⟩ : MethodName)) hown (mvT hZ (hw _ (List.mem_of_getElem? (i := 165) rfl))) (mvT hZ (hw _ (List.mem_of_getElem? (i := 166) rfl))) (notFace_of_selects (args := #[]) (mvT hZ (hw _ (List.mem_of_getElem? (i := 168) rfl)))) (mvT hZ (hw _ (List.mem_of_getElem? (i := 168) rfl))) (mvT hZ (hw _ (List.mem_of_getElem? (i := 167) rfl))) (by decide) (backOf (W := 0) (asb_lat l Z a0 hw [] a2 cs h0 n0 Z0 S0 hcs O F.2.1) hZ (hw _ (List.mem_of_getElem? (i := 169) rfl)) (hw _ (List.mem_of_getElem? (i := 79) rfl)) (by decide) (by decide)) q48a q48c (g := (mkF m 16 #[.val (.ref a1), .val (.ref a2), .val .null, .val (.ref b), .val (.int (Int32.ofNat n))] [(.ref a2)])) rfl (by rw [hml]; rfl) (Steps.refl _) (argsL := []) (rest := []) (lenOf pd_25 rfl) rfl (by show 2 * 0 + _ ≤ _; exact Nat.le_of_eq rfl) (hb hby d27_16) (fun _ _ => ⟨rfl, e47, (by decide : 0 + 0 ≤ _), (by decide : 0 + 0 ≤ _)⟩)
  dsimp only [Pt.U, Pt.locs, Pt.cells, Pt.slots] at X48 l48 y48 z48 st48 hQ48
  subst l48 y48 z48
  obtain ⟨rfl, N48q, e48⟩ := hQ48
  have N48 := Fr.app N47 N48q
  refine Ends.st st48 ?_
  obtain ⟨cb0, Ab0, -, -, -⟩ := Va.op
  have nab : a1 ≠ b := ne_arr E_a (hw _ (List.mem_of_getElem? (i := 10) rfl)) Ab0
  refine Ends.of (F' := T48.setTop (mkF m 24 #[.val (.ref a1), .val (.ref a2), .val .null, .val (.ref b), .val (.int (Int32.ofNat n))] [(.int (0 : Int32)), (.ref a1)])) (fun _ kt => ?_) ?_
  · show Steps p.tables e below (T48.setTop (mkF m 19 #[.val (.ref a1), .val (.ref a2), .val .null, .val (.ref b), .val (.int (Int32.ofNat n))] [(.int (1 : Int32))])) _
    refine XS.ifNo X48.here hx rfl (hb hby d27_19) rfl ((if0 _ _).trans (feq (by decide)).1) ?_
    show Steps p.tables e below (T48.setTop (mkF m 22 #[.val (.ref a1), .val (.ref a2), .val .null, .val (.ref b), .val (.int (Int32.ofNat n))] [])) _
    refine XS.aloadN X48.here hx rfl (hb hby d27_22) rfl rfl ?_
    show Steps p.tables e below (T48.setTop (mkF m 23 #[.val (.ref a1), .val (.ref a2), .val .null, .val (.ref b), .val (.int (Int32.ofNat n))] [(.ref a1)])) _
    refine XS.iconst X48.here hx rfl (hb hby d27_23) ?_
    exact kt
  obtain ⟨T49, h49, X49, e49, W49, st49⟩ := putFN X48 hx hZ hown (hw _ (List.mem_of_getElem? (i := 24) rfl)) Via.refl e48 F_c E_a (Or.inr ⟨(hw _ (List.mem_of_getElem? (i := 25) rfl)), rfl, hnm⟩) (hw _ (List.mem_of_getElem? (i := 10) rfl)) (ty := .byte) (v' := (.int (0 : Int32))) (by decide) rfl rfl (g := (mkF m 24 #[.val (.ref a1), .val (.ref a2), .val .null, .val (.ref b), .val (.int (Int32.ofNat n))] [(.int (0 : Int32)), (.ref a1)])) rfl rfl (hb hby d27_24)
  refine Ends.of st49 ?_
  have N49 := Fr.snoc X49 N48 g_a
  have F_c1 := F_c.same W49
  have F_v1 := F_v.other W49 (Or.inr (slot_ne (Or.inr (hw _ (List.mem_of_getElem? (i := 23) rfl))) (Or.inr (hw _ (List.mem_of_getElem? (i := 25) rfl))) (by decide) (t := (.array .byte)) (t' := .byte) (by decide) (by decide)))
  have E_1 := E_a.wr W49
  have Va1 := Va.other W49 (Ne.symm nab)
  have K1 : Keep h0 h49 [a1] := (Keep.refl _ _).wr W49 (Or.inl (List.mem_of_getElem? (i := 0) rfl))
  have Z1 : n0 ≤ h49.size := Nat.le_trans Z0 K1.1
  refine Ends.of (F' := T49.setTop (mkF m 32 #[.val (.ref a1), .val (.ref a2), .val .null, .val (.ref b), .val (.int (Int32.ofNat n))] [(.int (Int32.ofNat n)), (.int (0 : Int32)), (.ref b), (.ref a1)])) (fun _ kt => ?_) ?_
  · show Steps p.tables e below (T49.setTop (mkF m 27 #[.val (.ref a1), .val (.ref a2), .val .null, .val (.ref b), .val (.int (Int32.ofNat n))] [])) _
    refine XS.aloadN X49.here hx rfl (hb hby d27_27) rfl rfl ?_
    show Steps p.tables e below (T49.setTop (mkF m 28 #[.val (.ref a1), .val (.ref a2), .val .null, .val (.ref b), .val (.int (Int32.ofNat n))] [(.ref a1)])) _
    refine XS.aloadN X49.here hx rfl (hb hby d27_28) rfl rfl ?_
    show Steps p.tables e below (T49.setTop (mkF m 29 #[.val (.ref a1), .val (.ref a2), .val .null, .val (.ref b), .val (.int (Int32.ofNat n))] [(.ref b), (.ref a1)])) _
    refine XS.iconst X49.here hx rfl (hb hby d27_29) ?_
    show Steps p.tables e below (T49.setTop (mkF m 30 #[.val (.ref a1), .val (.ref a2), .val .null, .val (.ref b), .val (.int (Int32.ofNat n))] [(.int (0 : Int32)), (.ref b), (.ref a1)])) _
    refine XS.iload X49.here hx rfl (hb hby d27_30) rfl ?_
    exact kt
  obtain ⟨_, _, ⟨T50, L50, k50, n50⟩, -, X50, ⟨Lc50, hQ50, l50, y50, z50⟩, st50⟩ := Jvm.LawKit.callS X49 hx (y := (⟨"java/util/Arrays", "copyOfRange", "([BII)[B"⟩ : MethodName)) hown (mvT hZ (hw _ (List.mem_of_getElem? (i := 170) rfl))) (mvT hZ (hw _ (List.mem_of_getElem? (i := 171) rfl))) (mvT hZ (hw _ (List.mem_of_getElem? (i := 172) rfl))) (mvT hZ (hw _ (List.mem_of_getElem? (i := 173) rfl))) (by decide) (backOf (W := 1) (ar_cpr l Z a0 hw [] b cap n f h49 n0 Z1 Va1 hn ht) hZ (hw _ (List.mem_of_getElem? (i := 173) rfl)) (hw _ (List.mem_of_getElem? (i := 172) rfl)) (by decide) (by decide)) (g := (mkF m 32 #[.val (.ref a1), .val (.ref a2), .val .null, .val (.ref b), .val (.int (Int32.ofNat n))] [(.int (Int32.ofNat n)), (.int (0 : Int32)), (.ref b), (.ref a1)])) rfl (by rw [hml]; rfl) (argsL := [(.ref b), (.int (0 : Int32)), (.int (Int32.ofNat n))]) (rest := [(.ref a1)]) (lenOf pd_26 rfl) rfl (by show 2 * 0 + _ ≤ _; exact Nat.le_of_eq rfl) (hb hby d27_32) (fun _ _ => ⟨rfl, e49, (by decide : 0 + 1 ≤ _), (by decide : 0 + 16 ≤ _)⟩)
  dsimp only [Pt.U, Pt.locs, Pt.cells, Pt.slots] at X50 l50 y50 z50 st50 hQ50
  subst l50 y50 z50
  obtain ⟨rfl, N50q, K50, V50⟩ := hQ50
  have N50 := Fr.app N49 N50q
  refine Ends.of st50 ?_
  have E_2 := E_1.keep K50
  have F_v2 := F_v1.keep K50 nin0
  have F_c2 := F_c1.keep K50 nin0
  have nsz : h49.size ≠ a1 := Ne.symm (Nat.ne_of_lt E_1.lt)
  obtain ⟨T51, h51, X51, e51, W51, st51⟩ := putF X50 hx hZ hown (host := "") (Or.inl (hw _ (List.mem_of_getElem? (i := 22) rfl))) Via.refl rfl F_v2 E_2 (Or.inr ⟨(hw _ (List.mem_of_getElem? (i := 23) rfl)), rfl, hnm⟩) (hw _ (List.mem_of_getElem? (i := 10) rfl)) (ty := (.array .byte)) (by decide) rfl rfl (g := (mkF m 35 #[.val (.ref a1), .val (.ref a2), .val .null, .val (.ref b), .val (.int (Int32.ofNat n))] [(.ref h49.size), (.ref a1)])) rfl rfl (hb hby d27_35)
  refine Ends.of st51 ?_
  have N51 := Fr.snoc X51 N50 g_a
  have F_v3 := F_v2.same W51
  have F_c3 := F_c2.other W51 (Or.inr (slot_ne (Or.inr (hw _ (List.mem_of_getElem? (i := 25) rfl))) (Or.inr (hw _ (List.mem_of_getElem? (i := 23) rfl))) (by decide) (t := .byte) (t' := (.array .byte)) (by decide) (by decide)))
  have E_3 := E_2.wr W51
  have V3 := V50.other W51 nsz
  have K3 : Keep h0 h51 [a1] := (K1.trans K50 all0).wr W51 (Or.inl (List.mem_of_getElem? (i := 0) rfl))
  refine Ends.of (F' := T51.setTop (mkF m 97 #[.val (.ref a1), .val (.ref a2), .val .null, .val (.ref b), .val (.int (Int32.ofNat n))] [])) (fun _ kt => ?_) ?_
  · show Steps p.tables e below (T51.setTop (mkF m 38 #[.val (.ref a1), .val (.ref a2), .val .null, .val (.ref b), .val (.int (Int32.ofNat n))] [])) _
    refine XS.goto X51.here hx rfl (pc0 := 38) (pc' := 97) rfl (hb hby d27_38) (by decide) (by decide) ?_
    exact kt
  rw [← e51] at F_v3 F_c3 E_3 V3 K3
  obtain ⟨fs, hr, hrun, hended, hW, hsame⟩ := X51.leave (v := none) (fun _ => rfl)
  exact ⟨_, _, X51.returnOut hx Bd.returns (hb hby d27_97) hr, hrun, hended, _, _, rfl, ⟨rfl, N51, K3, _, ⟨E_3, F_c3, F_v3, V3⟩, K1.1⟩, ⟨_, rfl⟩, hW, hsame.mono (by decide) (by decide)⟩
theorem d26_0 : decode jdk_42_method_53_code 0 = .ok (.aload_n 0, 1) := by decide +kernel
theorem d26_1 : decode jdk_42_method_53_code 1 = .ok (.aload_n 1, 1) := by decide +kernel
theorem d26_2 : decode jdk_42_method_53_code 2 = .ok (.aconst_null, 1) := by decide +kernel
theorem d26_3 : decode jdk_42_method_53_code 3 = .ok (.invokespecial 489, 3) := by decide +kernel
theorem d26_6 : decode jdk_42_method_53_code 6 = .ok (.return_, 1) := by decide +kernel
def Q_str_initSB (Z : State) (a1 : Addr) (a2 : Addr) (b : Addr) (cap : Nat) (n : Nat) (f : Nat → Int32) (cs : Int32) (h0 : Heap) (n0 : Nat) (v : Option Value) (h : Heap) (L : List Loc) : Prop := v = none ∧ Fr n0 L ∧ Keep h0 h [a1] ∧ ∃ d : Addr, Str Z h a1 d n f ∧ h0.size ≤ d
set_option maxRecDepth 65536 in
set_option maxHeartbeats 40000000 in
theorem str_initSB (l : Launch) (Z : State) (a0 : Array Value) (hw : ∀ d ∈ tables_1, d.before a0 Z = true) (ws : List Jvm.Cond) (a1 : Addr) (a2 : Addr) (b : Addr) (cap : Nat) (n : Nat) (f : Nat → Int32) (cs : Int32) (h0 : Heap) (n0 : Nat) (Z0 : n0 ≤ h0.size) (S0 : Sta Z Z.heap "java/lang/String" "COMPACT_STRINGS" "Z" (.int cs)) (hcs : ¬ cs = (0 : Int32)) (O : Oll Z n0 h0) (E_a : Exa Z h0 a1 "java/lang/String") (F_v : Fld Z h0 a1 "java/lang/String" "value" "[B" .null) (F_c : Fld Z h0 a1 "java/lang/String" "coder" "B" (.int (0 : Int32))) (F : SBd Z h0 a2 b cap n f) (hn : n < cap) (ht : n ≤ 16) (g_a : n0 ≤ a1) :
    MetFree l (⟨"java/lang/String", "<init>", "(Ljava/lang/StringBuilder;)V"⟩ : MethodName) (head1 (Jvm.Cond.code (⟨"java/lang/String", "<init>", "(Ljava/lang/StringBuilder;)V"⟩ : MethodName) jdk_42_method_53_code 2 none :: ws) ({ frames := 4, cells := 1, slots := 16, locals := 111 } : Room)) (fun a U => a = #[(.ref a1), (.ref a2)] ∧ Z.Warmed39 U.vm ∧ U.heap = h0) (fun _ _ _ _ _ => True) (fun _ U o U' => ∃ v L, o = .returned v ∧ Q_str_initSB Z a1 a2 b cap n f cs h0 n0 v U'.heap L ∧ FrameEnd U o U' L ({ frames := 4, cells := 1, slots := 16, locals := 111 } : Room).cells ({ frames := 4, cells := 1, slots := 16, locals := 111 } : Room).slots) := by
  refine MetFree.of_bodySF (plainFor_of_name pn_0) hisR ?_
  intro p e s m args below meth c s₁ Bd hml0 hP hK
  obtain ⟨rfl, hZ, hh⟩ := hP
  have hx := Bd.exec
  have hby := Bd.bytes
  have hml : c.maxLocals = 2 := hml0
  have hown : s.vm.findClass "java/lang/String" = some m.cls := findClass_of_methodNamed Bd.named
  have hnm := (name_of_methodNamed Bd.named Bd.method).1
  have X0 : Stand p l e ({ frames := 4, cells := 1, slots := 16, locals := 111 } : Room) s m #[(.ref a1), (.ref a2)] below meth c s₁ [] 0 0 := Stand.of_body Bd
  have e0 : s₁.heap = h0 := by rw [← hh, Bd.state]; rfl
  have N0 := Fr.nil n0
  have eF : entryFrame m #[(.ref a1), (.ref a2)] 2 = mkF m 0 #[.val (.ref a1), .val (.ref a2)] [] := by first | (simp [entryFrame, mkF, argsToLocals, Value.category]; done) | rfl
  show Ends p e below s ({ frames := 4, cells := 1, slots := 16, locals := 111 } : Room) (Q_str_initSB Z a1 a2 b cap n f cs h0 n0) (s₁.setTop (entryFrame m #[(.ref a1), (.ref a2)] 2))
  rw [eF]
  refine Ends.of (F' := s₁.setTop (mkF m 3 #[.val (.ref a1), .val (.ref a2)] [.null, (.ref a2), (.ref a1)])) (fun _ kt => ?_) ?_
  · show Steps p.tables e below (s₁.setTop (mkF m 0 #[.val (.ref a1), .val (.ref a2)] [])) _
    refine XS.aloadN X0.here hx rfl (hb hby d26_0) rfl rfl ?_
    show Steps p.tables e below (s₁.setTop (mkF m 1 #[.val (.ref a1), .val (.ref a2)] [(.ref a1)])) _
    refine XS.aloadN X0.here hx rfl (hb hby d26_1) rfl rfl ?_
    show Steps p.tables e below (s₁.setTop (mkF m 2 #[.val (.ref a1), .val (.ref a2)] [(.ref a2), (.ref a1)])) _
    refine XS.aconstNull X0.here hx rfl (hb hby d26_2) ?_
    exact kt
  obtain ⟨_, _, ⟨T52, L52, k52, n52⟩, -, X52, ⟨Lc52, hQ52, l52, y52, z52⟩, st52⟩ := X0.specialBack hx (y := (⟨"java/lang/String", "<init>", "(Ljava/lang/AbstractStringBuilder;Ljava/lang/Void;)V"⟩ : MethodName)) rfl hown (mvT hZ (hw _ (List.mem_of_getElem? (i := 149) rfl))) (mvT hZ (hw _ (List.mem_of_getElem? (i := 150) rfl))) (mvT hZ (hw _ (List.mem_of_getElem? (i := 151) rfl))) (by decide) (backOf (W := 0) (str_initASB l Z a0 hw [] a1 a2 b cap n f cs h0 n0 Z0 S0 hcs O E_a F_v F_c F hn ht g_a) hZ (hw _ (List.mem_of_getElem? (i := 151) rfl)) (hw _ (List.mem_of_getElem? (i := 2) rfl)) (by decide) (by decide)) (g := (mkF m 3 #[.val (.ref a1), .val (.ref a2)] [.null, (.ref a2), (.ref a1)])) rfl (by rw [hml]; rfl) (Steps.refl _) (a := a1) (argsL := [(.ref a2), .null]) (rest := []) (lenOf pd_23 rfl) rfl (by show 2 * 0 + _ ≤ _; exact Nat.le_of_eq rfl) (hb hby d26_3) (fun _ _ => ⟨rfl, e0, (by decide : 0 + 1 ≤ _), (by decide : 0 + 16 ≤ _)⟩)
  dsimp only [Pt.U, Pt.locs, Pt.cells, Pt.slots] at X52 l52 y52 z52 st52 hQ52
  subst l52 y52 z52
  obtain ⟨rfl, N52q, K52, d52, St52, gd52⟩ := hQ52
  have N52 := Fr.app N0 N52q
  refine Ends.st st52 ?_
  obtain ⟨fs, hr, hrun, hended, hW, hsame⟩ := X52.leave (v := none) (fun _ => rfl)
  exact ⟨_, _, X52.returnOut hx Bd.returns (hb hby d26_6) hr, hrun, hended, _, _, rfl, ⟨rfl, N52, K52, d52, St52, gd52⟩, ⟨_, rfl⟩, hW, hsame.mono (by decide) (by decide)⟩
theorem d25_0 : decode jdk_67_method_42_code 0 = .ok (.new 18, 3) := by decide +kernel
theorem d25_3 : decode jdk_67_method_42_code 3 = .ok (.dup, 1) := by decide +kernel
theorem d25_4 : decode jdk_67_method_42_code 4 = .ok (.aload_n 0, 1) := by decide +kernel
theorem d25_5 : decode jdk_67_method_42_code 5 = .ok (.invokespecial 137, 3) := by decide +kernel
theorem d25_8 : decode jdk_67_method_42_code 8 = .ok (.areturn, 1) := by decide +kernel
def Q_sb_str (Z : State) (a1 : Addr) (b : Addr) (cap : Nat) (n : Nat) (f : Nat → Int32) (cs : Int32) (h0 : Heap) (n0 : Nat) (v : Option Value) (h : Heap) (L : List Loc) : Prop := ∃ d : Addr, v = some (.ref h0.size) ∧ Fr n0 L ∧ Keep h0 h [] ∧ Str Z h h0.size d n f ∧ h0.size < d
set_option maxRecDepth 65536 in
set_option maxHeartbeats 40000000 in
theorem sb_str (l : Launch) (Z : State) (a0 : Array Value) (hw : ∀ d ∈ tables_1, d.before a0 Z = true) (ws : List Jvm.Cond) (a1 : Addr) (b : Addr) (cap : Nat) (n : Nat) (f : Nat → Int32) (cs : Int32) (h0 : Heap) (n0 : Nat) (Z0 : n0 ≤ h0.size) (S0 : Sta Z Z.heap "java/lang/String" "COMPACT_STRINGS" "Z" (.int cs)) (hcs : ¬ cs = (0 : Int32)) (O : Oll Z n0 h0) (F : SBd Z h0 a1 b cap n f) (hn : n < cap) (ht : n ≤ 16) :
    MetFree l (⟨"java/lang/StringBuilder", "toString", "()Ljava/lang/String;"⟩ : MethodName) (head1 (Jvm.Cond.code (⟨"java/lang/StringBuilder", "toString", "()Ljava/lang/String;"⟩ : MethodName) jdk_67_method_42_code 1 (some (.object "java/lang/String")) :: ws) ({ frames := 5, cells := 2, slots := 20, locals := 125 } : Room)) (fun a U => a = #[(.ref a1)] ∧ Z.Warmed39 U.vm ∧ U.heap = h0) (fun _ _ _ _ _ => True) (fun _ U o U' => ∃ v L, o = .returned v ∧ Q_sb_str Z a1 b cap n f cs h0 n0 v U'.heap L ∧ FrameEnd U o U' L ({ frames := 5, cells := 2, slots := 20, locals := 125 } : Room).cells ({ frames := 5, cells := 2, slots := 20, locals := 125 } : Room).slots) := by
  refine MetFree.of_bodySF (plainFor_of_name pn_4) hisR ?_
  intro p e s m args below meth c s₁ Bd hml0 hP hK
  obtain ⟨rfl, hZ, hh⟩ := hP
  have hx := Bd.exec
  have hby := Bd.bytes
  have hml : c.maxLocals = 1 := hml0
  have hown : s.vm.findClass "java/lang/StringBuilder" = some m.cls := findClass_of_methodNamed Bd.named
  have hnm := (name_of_methodNamed Bd.named Bd.method).1
  have X0 : Stand p l e ({ frames := 5, cells := 2, slots := 20, locals := 125 } : Room) s m #[(.ref a1)] below meth c s₁ [] 0 0 := Stand.of_body Bd
  have e0 : s₁.heap = h0 := by rw [← hh, Bd.state]; rfl
  have N0 := Fr.nil n0
  have eF : entryFrame m #[(.ref a1)] 1 = mkF m 0 #[.val (.ref a1)] [] := by first | (simp [entryFrame, mkF, argsToLocals, Value.category]; done) | rfl
  show Ends p e below s ({ frames := 5, cells := 2, slots := 20, locals := 125 } : Room) (Q_sb_str Z a1 b cap n f cs h0 n0) (s₁.setTop (entryFrame m #[(.ref a1)] 1))
  rw [eF]
  obtain ⟨T53, h53, X53, e53, E53, A53, D53, -, st53⟩ := newO X0 hx hZ hown (hw _ (List.mem_of_getElem? (i := 145) rfl)) (hw _ (List.mem_of_getElem? (i := 10) rfl)) (hw _ (List.mem_of_getElem? (i := 2) rfl)) e0 (g := (mkF m 0 #[.val (.ref a1)] [])) rfl (hb hby d25_0) (by decide) (by decide)
  obtain ⟨b53, g53⟩ : ∃ z, z = h0.size := ⟨_, rfl⟩
  rw [← g53] at A53 D53 st53
  have F_value_b53 : Fld Z h53 b53 "java/lang/String" "value" "[B" .null := D53 (Or.inr (hw _ (List.mem_of_getElem? (i := 23) rfl))) (ty := (.array .byte)) (by decide)
  have F_coder_b53 : Fld Z h53 b53 "java/lang/String" "coder" "B" (.int (0 : Int32)) := D53 (Or.inr (hw _ (List.mem_of_getElem? (i := 25) rfl))) (ty := .byte) (by decide)
  refine Ends.of st53 ?_
  have Z1 : n0 ≤ h53.size := Nat.le_trans Z0 E53.1
  have gb : n0 ≤ b53 := Nat.le_trans Z0 (Nat.le_of_eq g53.symm)
  refine Ends.of (F' := T53.setTop (mkF m 5 #[.val (.ref a1)] [(.ref a1), (.ref b53), (.ref b53)])) (fun _ kt => ?_) ?_
  · show Steps p.tables e below (T53.setTop (mkF m 3 #[.val (.ref a1)] [(.ref b53)])) _
    refine XS.dup X53.here hx rfl (hb hby d25_3) rfl rfl ?_
    show Steps p.tables e below (T53.setTop (mkF m 4 #[.val (.ref a1)] [(.ref b53), (.ref b53)])) _
    refine XS.aloadN X53.here hx rfl (hb hby d25_4) rfl rfl ?_
    exact kt
  obtain ⟨_, _, ⟨T54, L54, k54, n54⟩, -, X54, ⟨Lc54, hQ54, l54, y54, z54⟩, st54⟩ := X53.specialBack hx (y := (⟨"java/lang/String", "<init>", "(Ljava/lang/StringBuilder;)V"⟩ : MethodName)) rfl hown (mvT hZ (hw _ (List.mem_of_getElem? (i := 146) rfl))) (mvT hZ (hw _ (List.mem_of_getElem? (i := 147) rfl))) (mvT hZ (hw _ (List.mem_of_getElem? (i := 148) rfl))) (by decide) (backOf (W := 1) (str_initSB l Z a0 hw [] b53 a1 b cap n f cs h53 n0 Z1 S0 hcs (O.ext E53) A53 F_value_b53 F_coder_b53 (F.ext E53) hn ht gb) hZ (hw _ (List.mem_of_getElem? (i := 148) rfl)) (hw _ (List.mem_of_getElem? (i := 2) rfl)) (by decide) (by decide)) (g := (mkF m 5 #[.val (.ref a1)] [(.ref a1), (.ref b53), (.ref b53)])) rfl (by rw [hml]; rfl) (Steps.refl _) (a := b53) (argsL := [(.ref a1)]) (rest := [(.ref b53)]) (lenOf pd_22 rfl) rfl (by show 2 * 0 + _ ≤ _; exact Nat.le_of_eq rfl) (hb hby d25_5) (fun _ _ => ⟨rfl, e53, (by decide : 1 + 1 ≤ _), (by decide : 4 + 16 ≤ _)⟩)
  dsimp only [Pt.U, Pt.locs, Pt.cells, Pt.slots] at X54 l54 y54 z54 st54 hQ54
  subst l54 y54 z54
  obtain ⟨rfl, N54q, K54, d54, St54, gd54⟩ := hQ54
  have N54 := Fr.app N0 N54q
  refine Ends.st st54 ?_
  have K9 : Keep h0 T54.heap [] := ((Keep.refl h0 []).ext E53).trans K54 (allS (Or.inr (Nat.le_of_eq g53.symm)) all0)
  have gl := A53.lt
  subst g53
  obtain ⟨fs, hr, hrun, hended, hW, hsame⟩ := X54.leave (v := some (.ref h0.size)) (fun h => by rw [Bd.returns] at h; cases h)
  refine ⟨_, _, ?_, hrun, hended, _, _, rfl, ⟨d54, rfl, N54, K9, St54, Nat.lt_of_lt_of_le gl gd54⟩, ⟨_, rfl⟩, hW, hsame.mono (by decide) (by decide)⟩
  show Steps p.tables e below (T54.setTop (mkF m 8 #[.val (.ref a1)] [(.ref h0.size)])) _
  jvm_step X54.here [X54.here.top, hx, (hb hby d25_8), X54.method', Bd.returns, Value.isRef, FieldType.isReference]
  first | (intro acts; rw [hr _ acts rfl rfl rfl]) | rw [hr _ _ rfl rfl rfl]
  exact Steps.refl _
theorem d24_0 : decode jdk_42_method_147_code 0 = .ok (.aload_n 0, 1) := by decide +kernel
theorem d24_1 : decode jdk_42_method_147_code 1 = .ok (.invokevirtual 335, 3) := by decide +kernel
theorem d24_4 : decode jdk_42_method_147_code 4 = .ok (.iload_n 3, 1) := by decide +kernel
theorem d24_5 : decode jdk_42_method_147_code 5 = .ok (.if_icmp .ne 23, 3) := by decide +kernel
theorem d24_8 : decode jdk_42_method_147_code 8 = .ok (.aload_n 0, 1) := by decide +kernel
theorem d24_9 : decode jdk_42_method_147_code 9 = .ok (.getfield 9, 3) := by decide +kernel
theorem d24_12 : decode jdk_42_method_147_code 12 = .ok (.iconst 0, 1) := by decide +kernel
theorem d24_13 : decode jdk_42_method_147_code 13 = .ok (.aload_n 1, 1) := by decide +kernel
theorem d24_14 : decode jdk_42_method_147_code 14 = .ok (.iload_n 2, 1) := by decide +kernel
theorem d24_15 : decode jdk_42_method_147_code 15 = .ok (.iload_n 3, 1) := by decide +kernel
theorem d24_16 : decode jdk_42_method_147_code 16 = .ok (.ishl, 1) := by decide +kernel
theorem d24_17 : decode jdk_42_method_147_code 17 = .ok (.aload_n 0, 1) := by decide +kernel
theorem d24_18 : decode jdk_42_method_147_code 18 = .ok (.getfield 9, 3) := by decide +kernel
theorem d24_21 : decode jdk_42_method_147_code 21 = .ok (.arraylength, 1) := by decide +kernel
theorem d24_22 : decode jdk_42_method_147_code 22 = .ok (.invokestatic 212, 3) := by decide +kernel
theorem d24_25 : decode jdk_42_method_147_code 25 = .ok (.goto 18, 3) := by decide +kernel
theorem d24_28 : decode jdk_42_method_147_code 28 = .ok (.aload_n 0, 1) := by decide +kernel
theorem d24_29 : decode jdk_42_method_147_code 29 = .ok (.getfield 9, 3) := by decide +kernel
theorem d24_32 : decode jdk_42_method_147_code 32 = .ok (.iconst 0, 1) := by decide +kernel
theorem d24_33 : decode jdk_42_method_147_code 33 = .ok (.aload_n 1, 1) := by decide +kernel
theorem d24_34 : decode jdk_42_method_147_code 34 = .ok (.iload_n 2, 1) := by decide +kernel
theorem d24_35 : decode jdk_42_method_147_code 35 = .ok (.aload_n 0, 1) := by decide +kernel
theorem d24_36 : decode jdk_42_method_147_code 36 = .ok (.getfield 9, 3) := by decide +kernel
theorem d24_39 : decode jdk_42_method_147_code 39 = .ok (.arraylength, 1) := by decide +kernel
theorem d24_40 : decode jdk_42_method_147_code 40 = .ok (.invokestatic 106, 3) := by decide +kernel
theorem d24_43 : decode jdk_42_method_147_code 43 = .ok (.return_, 1) := by decide +kernel
def Q_str_getB (Z : State) (a1 : Addr) (d : Addr) (n : Nat) (f : Nat → Int32) (a2 : Addr) (cap : Nat) (g : Nat → Int32) (q : Nat) (cs : Int32) (h0 : Heap) (n0 : Nat) (v : Option Value) (h : Heap) (L : List Loc) : Prop := v = none ∧ Fr n0 L ∧ Keep h0 h [a2] ∧ Ary .byte Z h a2 cap (fun x => if q ≤ x ∧ x < q + n then f (0 + (x - q)) else g x)
set_option maxRecDepth 65536 in
set_option maxHeartbeats 40000000 in
theorem str_getB (l : Launch) (Z : State) (a0 : Array Value) (hw : ∀ d ∈ tables_1, d.before a0 Z = true) (ws : List Jvm.Cond) (a1 : Addr) (d : Addr) (n : Nat) (f : Nat → Int32) (a2 : Addr) (cap : Nat) (g : Nat → Int32) (q : Nat) (cs : Int32) (h0 : Heap) (n0 : Nat) (Z0 : n0 ≤ h0.size) (S0 : Sta Z Z.heap "java/lang/String" "COMPACT_STRINGS" "Z" (.int cs)) (hcs : ¬ cs = (0 : Int32)) (O : Oll Z n0 h0) (F : Str Z h0 a1 d n f) (D : Ary .byte Z h0 a2 cap g) (hq : q + n ≤ cap) (g_2 : n0 ≤ a2) :
    MetFree l (⟨"java/lang/String", "getBytes", "([BIB)V"⟩ : MethodName) (head1 (Jvm.Cond.code (⟨"java/lang/String", "getBytes", "([BIB)V"⟩ : MethodName) jdk_42_method_147_code 4 none :: ws) ({ frames := 1, cells := 0, slots := 0, locals := 64 } : Room)) (fun a U => a = #[(.ref a1), (.ref a2), (.int (Int32.ofNat q)), (.int (0 : Int32))] ∧ Z.Warmed39 U.vm ∧ U.heap = h0) (fun _ _ _ _ _ => True) (fun _ U o U' => ∃ v L, o = .returned v ∧ Q_str_getB Z a1 d n f a2 cap g q cs h0 n0 v U'.heap L ∧ FrameEnd U o U' L ({ frames := 1, cells := 0, slots := 0, locals := 64 } : Room).cells ({ frames := 1, cells := 0, slots := 0, locals := 64 } : Room).slots) := by
  refine MetFree.of_bodySF (plainFor_of_name pn_0) hisR ?_
  intro p e s m args below meth c s₁ Bd hml0 hP hK
  obtain ⟨rfl, hZ, hh⟩ := hP
  have hx := Bd.exec
  have hby := Bd.bytes
  have hml : c.maxLocals = 4 := hml0
  have hown : s.vm.findClass "java/lang/String" = some m.cls := findClass_of_methodNamed Bd.named
  have hnm := (name_of_methodNamed Bd.named Bd.method).1
  have X0 : Stand p l e ({ frames := 1, cells := 0, slots := 0, locals := 64 } : Room) s m #[(.ref a1), (.ref a2), (.int (Int32.ofNat q)), (.int (0 : Int32))] below meth c s₁ [] 0 0 := Stand.of_body Bd
  have e0 : s₁.heap = h0 := by rw [← hh, Bd.state]; rfl
  have N0 := Fr.nil n0
  have eF : entryFrame m #[(.ref a1), (.ref a2), (.int (Int32.ofNat q)), (.int (0 : Int32))] 4 = mkF m 0 #[.val (.ref a1), .val (.ref a2), .val (.int (Int32.ofNat q)), .val (.int (0 : Int32))] [] := by first | (simp [entryFrame, mkF, argsToLocals, Value.category]; done) | rfl
  show Ends p e below s ({ frames := 1, cells := 0, slots := 0, locals := 64 } : Room) (Q_str_getB Z a1 d n f a2 cap g q cs h0 n0) (s₁.setTop (entryFrame m #[(.ref a1), (.ref a2), (.int (Int32.ofNat q)), (.int (0 : Int32))] 4))
  rw [eF]
  have hn := F.2.2.2.1
  have hc1 := D.1
  obtain ⟨cd, Ad, Sd, -, -⟩ := F.2.2.2.op
  refine Ends.of (F' := s₁.setTop (mkF m 1 #[.val (.ref a1), .val (.ref a2), .val (.int (Int32.ofNat q)), .val (.int (0 : Int32))] [(.ref a1)])) (fun _ kt => ?_) ?_
  · show Steps p.tables e below (s₁.setTop (mkF m 0 #[.val (.ref a1), .val (.ref a2), .val (.int (Int32.ofNat q)), .val (.int (0 : Int32))] [])) _
    refine XS.aloadN X0.here hx rfl (hb hby d24_0) rfl rfl ?_
    exact kt
  obtain ⟨cq55, kq55, q55a, q55b, q55c⟩ := isOf hZ e0 F.1
  obtain ⟨_, _, ⟨T55, L55, k55, n55⟩, -, X55, ⟨Lc55, hQ55, l55, y55, z55⟩, st55⟩ := X0.virtualBack hx (y := (⟨"java/lang/String", "coder", "()B"⟩ : MethodName)) (z := (⟨"java/lang/String", "coder", "()B"⟩ : MethodName)) hown (mvT hZ (hw _ (List.mem_of_getElem? (i := 87) rfl))) (mvT hZ (hw _ (List.mem_of_getElem? (i := 88) rfl))) (notFace_of_selects (args := #[]) (mvT hZ (hw _ (List.mem_of_getElem? (i := 90) rfl)))) (mvT hZ (hw _ (List.mem_of_getElem? (i := 90) rfl))) (mvT hZ (hw _ (List.mem_of_getElem? (i := 89) rfl))) (by decide) (backOf (W := 0) (str_coder l Z a0 hw [] a1 cs h0 n0 Z0 S0 hcs O F.2.1) hZ (hw _ (List.mem_of_getElem? (i := 91) rfl)) (hw _ (List.mem_of_getElem? (i := 2) rfl)) (by decide) (by decide)) q55a q55c (g := (mkF m 1 #[.val (.ref a1), .val (.ref a2), .val (.int (Int32.ofNat q)), .val (.int (0 : Int32))] [(.ref a1)])) rfl (by rw [hml]; rfl) (Steps.refl _) (argsL := []) (rest := []) (lenOf pd_14 rfl) rfl (by show 2 * 0 + _ ≤ _; exact Nat.le_of_eq rfl) (hb hby d24_1) (fun _ _ => ⟨rfl, e0, (by decide : 0 + 0 ≤ _), (by decide : 0 + 0 ≤ _)⟩)
  dsimp only [Pt.U, Pt.locs, Pt.cells, Pt.slots] at X55 l55 y55 z55 st55 hQ55
  subst l55 y55 z55
  obtain ⟨rfl, N55q, e55⟩ := hQ55
  have N55 := Fr.app N0 N55q
  refine Ends.st st55 ?_
  refine Ends.of (F' := T55.setTop (mkF m 9 #[.val (.ref a1), .val (.ref a2), .val (.int (Int32.ofNat q)), .val (.int (0 : Int32))] [(.ref a1)])) (fun _ kt => ?_) ?_
  · show Steps p.tables e below (T55.setTop (mkF m 4 #[.val (.ref a1), .val (.ref a2), .val (.int (Int32.ofNat q)), .val (.int (0 : Int32))] [(.int (0 : Int32))])) _
    refine XS.iloadN X55.here hx rfl (hb hby d24_4) rfl ?_
    show Steps p.tables e below (T55.setTop (mkF m 5 #[.val (.ref a1), .val (.ref a2), .val (.int (Int32.ofNat q)), .val (.int (0 : Int32))] [(.int (0 : Int32)), (.int (0 : Int32))])) _
    refine XS.icmpNo X55.here hx rfl (hb hby d24_5) rfl (teq rfl).2 ?_
    show Steps p.tables e below (T55.setTop (mkF m 8 #[.val (.ref a1), .val (.ref a2), .val (.int (Int32.ofNat q)), .val (.int (0 : Int32))] [])) _
    refine XS.aloadN X55.here hx rfl (hb hby d24_8) rfl rfl ?_
    exact kt
  obtain ⟨T56, X56, e56, st56⟩ := getF X55 hx hZ hown (host := "") (Or.inl (hw _ (List.mem_of_getElem? (i := 22) rfl))) Via.refl e55 F.2.2.1 (g := (mkF m 9 #[.val (.ref a1), .val (.ref a2), .val (.int (Int32.ofNat q)), .val (.int (0 : Int32))] [(.ref a1)])) rfl rfl (hb hby d24_9)
  refine Ends.of st56 ?_
  refine Ends.of (F' := T56.setTop (mkF m 18 #[.val (.ref a1), .val (.ref a2), .val (.int (Int32.ofNat q)), .val (.int (0 : Int32))] [(.ref a1), (.int ((Int32.ofNat q) <<< ((0 : Int32) &&& 31))), (.ref a2), (.int (0 : Int32)), (.ref d)])) (fun _ kt => ?_) ?_
  · show Steps p.tables e below (T56.setTop (mkF m 12 #[.val (.ref a1), .val (.ref a2), .val (.int (Int32.ofNat q)), .val (.int (0 : Int32))] [(.ref d)])) _
    refine XS.iconst X56.here hx rfl (hb hby d24_12) ?_
    show Steps p.tables e below (T56.setTop (mkF m 13 #[.val (.ref a1), .val (.ref a2), .val (.int (Int32.ofNat q)), .val (.int (0 : Int32))] [(.int (0 : Int32)), (.ref d)])) _
    refine XS.aloadN X56.here hx rfl (hb hby d24_13) rfl rfl ?_
    show Steps p.tables e below (T56.setTop (mkF m 14 #[.val (.ref a1), .val (.ref a2), .val (.int (Int32.ofNat q)), .val (.int (0 : Int32))] [(.ref a2), (.int (0 : Int32)), (.ref d)])) _
    refine XS.iloadN X56.here hx rfl (hb hby d24_14) rfl ?_
    show Steps p.tables e below (T56.setTop (mkF m 15 #[.val (.ref a1), .val (.ref a2), .val (.int (Int32.ofNat q)), .val (.int (0 : Int32))] [(.int (Int32.ofNat q)), (.ref a2), (.int (0 : Int32)), (.ref d)])) _
    refine XS.iloadN X56.here hx rfl (hb hby d24_15) rfl ?_
    show Steps p.tables e below (T56.setTop (mkF m 16 #[.val (.ref a1), .val (.ref a2), .val (.int (Int32.ofNat q)), .val (.int (0 : Int32))] [(.int (0 : Int32)), (.int (Int32.ofNat q)), (.ref a2), (.int (0 : Int32)), (.ref d)])) _
    refine XS.ishl X56.here hx rfl (hb hby d24_16) rfl ?_
    show Steps p.tables e below (T56.setTop (mkF m 17 #[.val (.ref a1), .val (.ref a2), .val (.int (Int32.ofNat q)), .val (.int (0 : Int32))] [(.int ((Int32.ofNat q) <<< ((0 : Int32) &&& 31))), (.ref a2), (.int (0 : Int32)), (.ref d)])) _
    refine XS.aloadN X56.here hx rfl (hb hby d24_17) rfl rfl ?_
    exact kt
  obtain ⟨T57, X57, e57, st57⟩ := getF X56 hx hZ hown (host := "") (Or.inl (hw _ (List.mem_of_getElem? (i := 22) rfl))) Via.refl e56 F.2.2.1 (g := (mkF m 18 #[.val (.ref a1), .val (.ref a2), .val (.int (Int32.ofNat q)), .val (.int (0 : Int32))] [(.ref a1), (.int ((Int32.ofNat q) <<< ((0 : Int32) &&& 31))), (.ref a2), (.int (0 : Int32)), (.ref d)])) rfl rfl (hb hby d24_18)
  refine Ends.of st57 ?_
  refine Ends.of (F' := T57.setTop (mkF m 22 #[.val (.ref a1), .val (.ref a2), .val (.int (Int32.ofNat q)), .val (.int (0 : Int32))] [(.int (Int32.ofNat n)), (.int ((Int32.ofNat q) <<< ((0 : Int32) &&& 31))), (.ref a2), (.int (0 : Int32)), (.ref d)])) (fun _ kt => ?_) ?_
  · show Steps p.tables e below (T57.setTop (mkF m 21 #[.val (.ref a1), .val (.ref a2), .val (.int (Int32.ofNat q)), .val (.int (0 : Int32))] [(.ref d), (.int ((Int32.ofNat q) <<< ((0 : Int32) &&& 31))), (.ref a2), (.int (0 : Int32)), (.ref d)])) _
    refine X57.arraylength hx (by rw [e57]; exact Ad.1) (State.isArrayOf_alike hZ.alike Ad.2.1) (g := (mkF m 21 #[.val (.ref a1), .val (.ref a2), .val (.int (Int32.ofNat q)), .val (.int (0 : Int32))] [(.ref d), (.int ((Int32.ofNat q) <<< ((0 : Int32) &&& 31))), (.ref a2), (.int (0 : Int32)), (.ref d)])) rfl rfl (hb hby d24_21) _ ?_
    rw [Sd]
    exact kt
  rw [own_shl0]
  obtain ⟨hA58, kA58, VA58⟩ := id F.2.2.2
  obtain ⟨hB58, kB58, VB58⟩ := id D
  obtain ⟨T58, h58, L58, X58, e58, N58, K58, V58, st58⟩ := cpA X57 hx hZ hown (hw _ (List.mem_of_getElem? (i := 135) rfl)) (hw _ (List.mem_of_getElem? (i := 138) rfl)) (hw _ (List.mem_of_getElem? (i := 136) rfl)) (hw _ (List.mem_of_getElem? (i := 137) rfl)) e57 (sp := Int32.ofNat 0) (dp := Int32.ofNat q) (nn := Int32.ofNat n) VA58 VB58 (Or.inl ⟨rfl, rfl⟩) (own_nn (by omega)) (own_nn (by omega)) (own_nn (by omega)) (by have q1 := own_clamp (by omega : 0 ≤ 100000); have q2 := own_clamp (by omega : n ≤ 100000); have q3 := own_clamp (by omega : n ≤ 100000); omega) (by have q1 := own_clamp (by omega : q ≤ 100000); have q2 := own_clamp (by omega : n ≤ 100000); have q3 := own_clamp (by omega : cap ≤ 100000); omega) rfl (by rw [own_clamp (by omega : q ≤ 100000), own_clamp (by omega : n ≤ 100000)]; simp <;> omega) N55 g_2 (g := (mkF m 22 #[.val (.ref a1), .val (.ref a2), .val (.int (Int32.ofNat q)), .val (.int (0 : Int32))] [(.int (Int32.ofNat n)), (.int (Int32.ofNat q)), (.ref a2), (.int (0 : Int32)), (.ref d)])) rfl (by rw [hml]; rfl) rfl (hb hby d24_22) (by decide) (W := 0) (by show 2 * 0 + _ ≤ _; exact Nat.le_of_eq rfl) (by decide)
  have F58 := Ary.cpd V58 (by omega) (by omega : 0 + n ≤ n) (by omega) (by omega)
  refine Ends.of st58 ?_
  refine Ends.of (F' := T58.setTop (mkF m 43 #[.val (.ref a1), .val (.ref a2), .val (.int (Int32.ofNat q)), .val (.int (0 : Int32))] [])) (fun _ kt => ?_) ?_
  · show Steps p.tables e below (T58.setTop (mkF m 25 #[.val (.ref a1), .val (.ref a2), .val (.int (Int32.ofNat q)), .val (.int (0 : Int32))] [])) _
    refine XS.goto X58.here hx rfl (pc0 := 25) (pc' := 43) rfl (hb hby d24_25) (by decide) (by decide) ?_
    exact kt
  rw [← e58] at K58 F58
  obtain ⟨fs, hr, hrun, hended, hW, hsame⟩ := X58.leave (v := none) (fun _ => rfl)
  exact ⟨_, _, X58.returnOut hx Bd.returns (hb hby d24_43) hr, hrun, hended, _, _, rfl, ⟨rfl, N58, K58, F58⟩, ⟨_, rfl⟩, hW, hsame.mono (by decide) (by decide)⟩
theorem d23_0 : decode jdk_68_method_71_code 0 = .ok (.getstatic 18, 3) := by decide +kernel
theorem d23_3 : decode jdk_68_method_71_code 3 = .ok (.ifCond .eq 18, 3) := by decide +kernel
theorem d23_6 : decode jdk_68_method_71_code 6 = .ok (.aload_n 0, 1) := by decide +kernel
theorem d23_7 : decode jdk_68_method_71_code 7 = .ok (.getfield 22, 3) := by decide +kernel
theorem d23_10 : decode jdk_68_method_71_code 10 = .ok (.aload_n 1, 1) := by decide +kernel
theorem d23_11 : decode jdk_68_method_71_code 11 = .ok (.invokevirtual 40, 3) := by decide +kernel
theorem d23_14 : decode jdk_68_method_71_code 14 = .ok (.if_icmp .eq 7, 3) := by decide +kernel
theorem d23_17 : decode jdk_68_method_71_code 17 = .ok (.aload_n 0, 1) := by decide +kernel
theorem d23_18 : decode jdk_68_method_71_code 18 = .ok (.invokevirtual 195, 3) := by decide +kernel
theorem d23_21 : decode jdk_68_method_71_code 21 = .ok (.return_, 1) := by decide +kernel
def Q_asb_inf (Z : State) (a1 : Addr) (a2 : Addr) (cs : Int32) (h0 : Heap) (n0 : Nat) (v : Option Value) (h : Heap) (L : List Loc) : Prop := v = none ∧ Fr n0 L ∧ h = h0
set_option maxRecDepth 65536 in
set_option maxHeartbeats 40000000 in
theorem asb_inf (l : Launch) (Z : State) (a0 : Array Value) (hw : ∀ d ∈ tables_1, d.before a0 Z = true) (ws : List Jvm.Cond) (a1 : Addr) (a2 : Addr) (cs : Int32) (h0 : Heap) (n0 : Nat) (Z0 : n0 ≤ h0.size) (S0 : Sta Z Z.heap "java/lang/String" "COMPACT_STRINGS" "Z" (.int cs)) (hcs : ¬ cs = (0 : Int32)) (O : Oll Z n0 h0) (F_c : Fld Z h0 a1 "java/lang/AbstractStringBuilder" "coder" "B" (.int (0 : Int32))) (E_2 : Exa Z h0 a2 "java/lang/String") (G_c : Fld Z h0 a2 "java/lang/String" "coder" "B" (.int (0 : Int32))) :
    MetFree l (⟨"java/lang/AbstractStringBuilder", "inflateIfNeededFor", "(Ljava/lang/String;)V"⟩ : MethodName) (head1 (Jvm.Cond.code (⟨"java/lang/AbstractStringBuilder", "inflateIfNeededFor", "(Ljava/lang/String;)V"⟩ : MethodName) jdk_68_method_71_code 2 none :: ws) ({ frames := 1, cells := 0, slots := 0, locals := 13 } : Room)) (fun a U => a = #[(.ref a1), (.ref a2)] ∧ Z.Warmed39 U.vm ∧ U.heap = h0) (fun _ _ _ _ _ => True) (fun _ U o U' => ∃ v L, o = .returned v ∧ Q_asb_inf Z a1 a2 cs h0 n0 v U'.heap L ∧ FrameEnd U o U' L ({ frames := 1, cells := 0, slots := 0, locals := 13 } : Room).cells ({ frames := 1, cells := 0, slots := 0, locals := 13 } : Room).slots) := by
  refine MetFree.of_bodySF (plainFor_of_name pn_3) hisR ?_
  intro p e s m args below meth c s₁ Bd hml0 hP hK
  obtain ⟨rfl, hZ, hh⟩ := hP
  have hx := Bd.exec
  have hby := Bd.bytes
  have hml : c.maxLocals = 2 := hml0
  have hown : s.vm.findClass "java/lang/AbstractStringBuilder" = some m.cls := findClass_of_methodNamed Bd.named
  have hnm := (name_of_methodNamed Bd.named Bd.method).1
  have X0 : Stand p l e ({ frames := 1, cells := 0, slots := 0, locals := 13 } : Room) s m #[(.ref a1), (.ref a2)] below meth c s₁ [] 0 0 := Stand.of_body Bd
  have e0 : s₁.heap = h0 := by rw [← hh, Bd.state]; rfl
  have N0 := Fr.nil n0
  have eF : entryFrame m #[(.ref a1), (.ref a2)] 2 = mkF m 0 #[.val (.ref a1), .val (.ref a2)] [] := by first | (simp [entryFrame, mkF, argsToLocals, Value.category]; done) | rfl
  show Ends p e below s ({ frames := 1, cells := 0, slots := 0, locals := 13 } : Room) (Q_asb_inf Z a1 a2 cs h0 n0) (s₁.setTop (entryFrame m #[(.ref a1), (.ref a2)] 2))
  rw [eF]
  obtain ⟨T59, X59, e59, st59⟩ := getS2 X0 hx hZ hown (host := "") (Or.inl (hw _ (List.mem_of_getElem? (i := 129) rfl))) Via.refl e0 (S0.ext O.2) (g := (mkF m 0 #[.val (.ref a1), .val (.ref a2)] [])) rfl (hb hby d23_0)
  refine Ends.of st59 ?_
  refine Ends.of (F' := T59.setTop (mkF m 7 #[.val (.ref a1), .val (.ref a2)] [(.ref a1)])) (fun _ kt => ?_) ?_
  · show Steps p.tables e below (T59.setTop (mkF m 3 #[.val (.ref a1), .val (.ref a2)] [(.int cs)])) _
    refine XS.ifNo X59.here hx rfl (hb hby d23_3) rfl ((if0 _ _).trans (feq hcs).1) ?_
    show Steps p.tables e below (T59.setTop (mkF m 6 #[.val (.ref a1), .val (.ref a2)] [])) _
    refine XS.aloadN X59.here hx rfl (hb hby d23_6) rfl rfl ?_
    exact kt
  obtain ⟨T60, X60, e60, st60⟩ := getF X59 hx hZ hown (host := "") (Or.inl (hw _ (List.mem_of_getElem? (i := 94) rfl))) Via.refl e59 F_c (g := (mkF m 7 #[.val (.ref a1), .val (.ref a2)] [(.ref a1)])) rfl rfl (hb hby d23_7)
  refine Ends.of st60 ?_
  refine Ends.of (F' := T60.setTop (mkF m 11 #[.val (.ref a1), .val (.ref a2)] [(.ref a2), (.int (0 : Int32))])) (fun _ kt => ?_) ?_
  · show Steps p.tables e below (T60.setTop (mkF m 10 #[.val (.ref a1), .val (.ref a2)] [(.int (0 : Int32))])) _
    refine XS.aloadN X60.here hx rfl (hb hby d23_10) rfl rfl ?_
    exact kt
  obtain ⟨cq61, kq61, q61a, q61b, q61c⟩ := isOf hZ e60 E_2
  obtain ⟨_, _, ⟨T61, L61, k61, n61⟩, -, X61, ⟨Lc61, hQ61, l61, y61, z61⟩, st61⟩ := X60.virtualBack hx (y := (⟨"java/lang/String", "coder", "()B"⟩ : MethodName)) (z := (⟨"java/lang/String", "coder", "()B"⟩ : MethodName)) hown (mvT hZ (hw _ (List.mem_of_getElem? (i := 93) rfl))) (mvT hZ (hw _ (List.mem_of_getElem? (i := 88) rfl))) (notFace_of_selects (args := #[]) (mvT hZ (hw _ (List.mem_of_getElem? (i := 90) rfl)))) (mvT hZ (hw _ (List.mem_of_getElem? (i := 90) rfl))) (mvT hZ (hw _ (List.mem_of_getElem? (i := 89) rfl))) (by decide) (backOf (W := 1) (str_coder l Z a0 hw [] a2 cs h0 n0 Z0 S0 hcs O G_c) hZ (hw _ (List.mem_of_getElem? (i := 91) rfl)) (hw _ (List.mem_of_getElem? (i := 2) rfl)) (by decide) (by decide)) q61a q61c (g := (mkF m 11 #[.val (.ref a1), .val (.ref a2)] [(.ref a2), (.int (0 : Int32))])) rfl (by rw [hml]; rfl) (Steps.refl _) (argsL := []) (rest := [(.int (0 : Int32))]) (lenOf pd_14 rfl) rfl (by show 2 * 0 + _ ≤ _; exact Nat.le_of_eq rfl) (hb hby d23_11) (fun _ _ => ⟨rfl, e60, (by decide : 0 + 0 ≤ _), (by decide : 0 + 0 ≤ _)⟩)
  dsimp only [Pt.U, Pt.locs, Pt.cells, Pt.slots] at X61 l61 y61 z61 st61 hQ61
  subst l61 y61 z61
  obtain ⟨rfl, N61q, e61⟩ := hQ61
  have N61 := Fr.app N0 N61q
  refine Ends.st st61 ?_
  refine Ends.of (F' := T61.setTop (mkF m 21 #[.val (.ref a1), .val (.ref a2)] [])) (fun _ kt => ?_) ?_
  · show Steps p.tables e below (T61.setTop (mkF m 14 #[.val (.ref a1), .val (.ref a2)] [(.int (0 : Int32)), (.int (0 : Int32))])) _
    refine XS.icmpYes X61.here hx rfl (pc0 := 14) (pc' := 21) rfl (hb hby d23_14) rfl (teq rfl).1 (by decide) (by decide) ?_
    exact kt
  obtain ⟨fs, hr, hrun, hended, hW, hsame⟩ := X61.leave (v := none) (fun _ => rfl)
  exact ⟨_, _, X61.returnOut hx Bd.returns (hb hby d23_21) hr, hrun, hended, _, _, rfl, ⟨rfl, N61, e61⟩, ⟨_, rfl⟩, hW, hsame.mono (by decide) (by decide)⟩
theorem d22_0 : decode jdk_68_method_73_code 0 = .ok (.aload_n 0, 1) := by decide +kernel
theorem d22_1 : decode jdk_68_method_73_code 1 = .ok (.aload_n 2, 1) := by decide +kernel
theorem d22_2 : decode jdk_68_method_73_code 2 = .ok (.invokevirtual 397, 3) := by decide +kernel
theorem d22_5 : decode jdk_68_method_73_code 5 = .ok (.aload_n 2, 1) := by decide +kernel
theorem d22_6 : decode jdk_68_method_73_code 6 = .ok (.aload_n 0, 1) := by decide +kernel
theorem d22_7 : decode jdk_68_method_73_code 7 = .ok (.getfield 15, 3) := by decide +kernel
theorem d22_10 : decode jdk_68_method_73_code 10 = .ok (.iload_n 1, 1) := by decide +kernel
theorem d22_11 : decode jdk_68_method_73_code 11 = .ok (.aload_n 0, 1) := by decide +kernel
theorem d22_12 : decode jdk_68_method_73_code 12 = .ok (.getfield 22, 3) := by decide +kernel
theorem d22_15 : decode jdk_68_method_73_code 15 = .ok (.invokevirtual 399, 3) := by decide +kernel
theorem d22_18 : decode jdk_68_method_73_code 18 = .ok (.return_, 1) := by decide +kernel
def Q_asb_putS (Z : State) (a1 : Addr) (b : Addr) (cap : Nat) (n : Nat) (f : Nat → Int32) (a2 : Addr) (d : Addr) (k : Nat) (g : Nat → Int32) (cs : Int32) (h0 : Heap) (n0 : Nat) (v : Option Value) (h : Heap) (L : List Loc) : Prop := v = none ∧ Fr n0 L ∧ Keep h0 h [b] ∧ Ary .byte Z h b cap (fun x => if n ≤ x ∧ x < n + k then g (0 + (x - n)) else f x)
set_option maxRecDepth 65536 in
set_option maxHeartbeats 40000000 in
theorem asb_putS (l : Launch) (Z : State) (a0 : Array Value) (hw : ∀ d ∈ tables_1, d.before a0 Z = true) (ws : List Jvm.Cond) (a1 : Addr) (b : Addr) (cap : Nat) (n : Nat) (f : Nat → Int32) (a2 : Addr) (d : Addr) (k : Nat) (g : Nat → Int32) (cs : Int32) (h0 : Heap) (n0 : Nat) (Z0 : n0 ≤ h0.size) (S0 : Sta Z Z.heap "java/lang/String" "COMPACT_STRINGS" "Z" (.int cs)) (hcs : ¬ cs = (0 : Int32)) (O : Oll Z n0 h0) (F : SBd Z h0 a1 b cap n f) (G : Str Z h0 a2 d k g) (hn : n + k ≤ cap) (g_a : n0 ≤ a1) (g_b : n0 ≤ b) :
    MetFree l (⟨"java/lang/AbstractStringBuilder", "putStringAt", "(ILjava/lang/String;)V"⟩ : MethodName) (head1 (Jvm.Cond.code (⟨"java/lang/AbstractStringBuilder", "putStringAt", "(ILjava/lang/String;)V"⟩ : MethodName) jdk_68_method_73_code 3 none :: ws) ({ frames := 2, cells := 0, slots := 0, locals := 79 } : Room)) (fun a U => a = #[(.ref a1), (.int (Int32.ofNat n)), (.ref a2)] ∧ Z.Warmed39 U.vm ∧ U.heap = h0) (fun _ _ _ _ _ => True) (fun _ U o U' => ∃ v L, o = .returned v ∧ Q_asb_putS Z a1 b cap n f a2 d k g cs h0 n0 v U'.heap L ∧ FrameEnd U o U' L ({ frames := 2, cells := 0, slots := 0, locals := 79 } : Room).cells ({ frames := 2, cells := 0, slots := 0, locals := 79 } : Room).slots) := by
  refine MetFree.of_bodySF (plainFor_of_name pn_3) hisR ?_
  intro p e s m args below meth c s₁ Bd hml0 hP hK
  obtain ⟨rfl, hZ, hh⟩ := hP
  have hx := Bd.exec
  have hby := Bd.bytes
  have hml : c.maxLocals = 3 := hml0
  have hown : s.vm.findClass "java/lang/AbstractStringBuilder" = some m.cls := findClass_of_methodNamed Bd.named
  have hnm := (name_of_methodNamed Bd.named Bd.method).1
  have X0 : Stand p l e ({ frames := 2, cells := 0, slots := 0, locals := 79 } : Room) s m #[(.ref a1), (.int (Int32.ofNat n)), (.ref a2)] below meth c s₁ [] 0 0 := Stand.of_body Bd
  have e0 : s₁.heap = h0 := by rw [← hh, Bd.state]; rfl
  have N0 := Fr.nil n0
  have eF : entryFrame m #[(.ref a1), (.int (Int32.ofNat n)), (.ref a2)] 3 = mkF m 0 #[.val (.ref a1), .val (.int (Int32.ofNat n)), .val (.ref a2)] [] := by first | (simp [entryFrame, mkF, argsToLocals, Value.category]; done) | rfl
  show Ends p e below s ({ frames := 2, cells := 0, slots := 0, locals := 79 } : Room) (Q_asb_putS Z a1 b cap n f a2 d k g cs h0 n0) (s₁.setTop (entryFrame m #[(.ref a1), (.int (Int32.ofNat n)), (.ref a2)] 3))
  rw [eF]
  obtain ⟨Ex, Fc, Fn, Fv, Va, hcap⟩ := id F
  refine Ends.of (F' := s₁.setTop (mkF m 2 #[.val (.ref a1), .val (.int (Int32.ofNat n)), .val (.ref a2)] [(.ref a2), (.ref a1)])) (fun _ kt => ?_) ?_
  · show Steps p.tables e below (s₁.setTop (mkF m 0 #[.val (.ref a1), .val (.int (Int32.ofNat n)), .val (.ref a2)] [])) _
    refine XS.aloadN X0.here hx rfl (hb hby d22_0) rfl rfl ?_
    show Steps p.tables e below (s₁.setTop (mkF m 1 #[.val (.ref a1), .val (.int (Int32.ofNat n)), .val (.ref a2)] [(.ref a1)])) _
    refine XS.aloadN X0.here hx rfl (hb hby d22_1) rfl rfl ?_
    exact kt
  obtain ⟨cq62, kq62, q62a, q62b, q62c⟩ := isOf hZ e0 Ex
  obtain ⟨_, _, ⟨T62, L62, k62, n62⟩, -, X62, ⟨Lc62, hQ62, l62, y62, z62⟩, st62⟩ := X0.virtualBack hx (y := (⟨"java/lang/AbstractStringBuilder", "inflateIfNeededFor", "(Ljava/lang/String;)V"⟩ : MethodName)) (z := (⟨"java/lang/AbstractStringBuilder", "inflateIfNeededFor", "(Ljava/lang/String;)V"⟩ : MethodName)) hown (mvT hZ (hw _ (List.mem_of_getElem? (i := 124) rfl))) (mvT hZ (own_decl (hw _ (List.mem_of_getElem? (i := 125) rfl)) (hw _ (List.mem_of_getElem? (i := 128) rfl)))) (notFace_of_selects (args := #[]) (mvT hZ (hw _ (List.mem_of_getElem? (i := 127) rfl)))) (mvT hZ (hw _ (List.mem_of_getElem? (i := 127) rfl))) (mvT hZ (hw _ (List.mem_of_getElem? (i := 125) rfl))) (by decide) (backOf (W := 0) (asb_inf l Z a0 hw [] a1 a2 cs h0 n0 Z0 S0 hcs O Fc G.1 G.2.1) hZ (hw _ (List.mem_of_getElem? (i := 128) rfl)) (hw _ (List.mem_of_getElem? (i := 79) rfl)) (by decide) (by decide)) q62a q62c (g := (mkF m 2 #[.val (.ref a1), .val (.int (Int32.ofNat n)), .val (.ref a2)] [(.ref a2), (.ref a1)])) rfl (by rw [hml]; rfl) (Steps.refl _) (argsL := [(.ref a2)]) (rest := []) (lenOf pd_12 rfl) rfl (by show 2 * 0 + _ ≤ _; exact Nat.le_of_eq rfl) (hb hby d22_2) (fun _ _ => ⟨rfl, e0, (by decide : 0 + 0 ≤ _), (by decide : 0 + 0 ≤ _)⟩)
  dsimp only [Pt.U, Pt.locs, Pt.cells, Pt.slots] at X62 l62 y62 z62 st62 hQ62
  subst l62 y62 z62
  obtain ⟨rfl, N62q, e62⟩ := hQ62
  have N62 := Fr.app N0 N62q
  refine Ends.st st62 ?_
  refine Ends.of (F' := T62.setTop (mkF m 7 #[.val (.ref a1), .val (.int (Int32.ofNat n)), .val (.ref a2)] [(.ref a1), (.ref a2)])) (fun _ kt => ?_) ?_
  · show Steps p.tables e below (T62.setTop (mkF m 5 #[.val (.ref a1), .val (.int (Int32.ofNat n)), .val (.ref a2)] [])) _
    refine XS.aloadN X62.here hx rfl (hb hby d22_5) rfl rfl ?_
    show Steps p.tables e below (T62.setTop (mkF m 6 #[.val (.ref a1), .val (.int (Int32.ofNat n)), .val (.ref a2)] [(.ref a2)])) _
    refine XS.aloadN X62.here hx rfl (hb hby d22_6) rfl rfl ?_
    exact kt
  obtain ⟨T63, X63, e63, st63⟩ := getF X62 hx hZ hown (host := "") (Or.inl (hw _ (List.mem_of_getElem? (i := 96) rfl))) Via.refl e62 Fv (g := (mkF m 7 #[.val (.ref a1), .val (.int (Int32.ofNat n)), .val (.ref a2)] [(.ref a1), (.ref a2)])) rfl rfl (hb hby d22_7)
  refine Ends.of st63 ?_
  refine Ends.of (F' := T63.setTop (mkF m 12 #[.val (.ref a1), .val (.int (Int32.ofNat n)), .val (.ref a2)] [(.ref a1), (.int (Int32.ofNat n)), (.ref b), (.ref a2)])) (fun _ kt => ?_) ?_
  · show Steps p.tables e below (T63.setTop (mkF m 10 #[.val (.ref a1), .val (.int (Int32.ofNat n)), .val (.ref a2)] [(.ref b), (.ref a2)])) _
    refine XS.iloadN X63.here hx rfl (hb hby d22_10) rfl ?_
    show Steps p.tables e below (T63.setTop (mkF m 11 #[.val (.ref a1), .val (.int (Int32.ofNat n)), .val (.ref a2)] [(.int (Int32.ofNat n)), (.ref b), (.ref a2)])) _
    refine XS.aloadN X63.here hx rfl (hb hby d22_11) rfl rfl ?_
    exact kt
  obtain ⟨T64, X64, e64, st64⟩ := getF X63 hx hZ hown (host := "") (Or.inl (hw _ (List.mem_of_getElem? (i := 94) rfl))) Via.refl e63 Fc (g := (mkF m 12 #[.val (.ref a1), .val (.int (Int32.ofNat n)), .val (.ref a2)] [(.ref a1), (.int (Int32.ofNat n)), (.ref b), (.ref a2)])) rfl rfl (hb hby d22_12)
  refine Ends.of st64 ?_
  obtain ⟨cq65, kq65, q65a, q65b, q65c⟩ := isOf hZ e64 G.1
  obtain ⟨_, _, ⟨T65, L65, k65, n65⟩, -, X65, ⟨Lc65, hQ65, l65, y65, z65⟩, st65⟩ := X64.virtualBack hx (y := (⟨"java/lang/String", "getBytes", "([BIB)V"⟩ : MethodName)) (z := (⟨"java/lang/String", "getBytes", "([BIB)V"⟩ : MethodName)) hown (mvT hZ (hw _ (List.mem_of_getElem? (i := 130) rfl))) (mvT hZ (hw _ (List.mem_of_getElem? (i := 131) rfl))) (notFace_of_selects (args := #[]) (mvT hZ (hw _ (List.mem_of_getElem? (i := 133) rfl)))) (mvT hZ (hw _ (List.mem_of_getElem? (i := 133) rfl))) (mvT hZ (hw _ (List.mem_of_getElem? (i := 132) rfl))) (by decide) (backOf (W := 0) (str_getB l Z a0 hw [] a2 d k g b cap f n cs h0 n0 Z0 S0 hcs O G Va hn g_b) hZ (hw _ (List.mem_of_getElem? (i := 134) rfl)) (hw _ (List.mem_of_getElem? (i := 2) rfl)) (by decide) (by decide)) q65a q65c (g := (mkF m 15 #[.val (.ref a1), .val (.int (Int32.ofNat n)), .val (.ref a2)] [(.int (0 : Int32)), (.int (Int32.ofNat n)), (.ref b), (.ref a2)])) rfl (by rw [hml]; rfl) (Steps.refl _) (argsL := [(.ref b), (.int (Int32.ofNat n)), (.int (0 : Int32))]) (rest := []) (lenOf pd_19 rfl) rfl (by show 2 * 0 + _ ≤ _; exact Nat.le_of_eq rfl) (hb hby d22_15) (fun _ _ => ⟨rfl, e64, (by decide : 0 + 0 ≤ _), (by decide : 0 + 0 ≤ _)⟩)
  dsimp only [Pt.U, Pt.locs, Pt.cells, Pt.slots] at X65 l65 y65 z65 st65 hQ65
  subst l65 y65 z65
  obtain ⟨rfl, N65q, K65, V65⟩ := hQ65
  have N65 := Fr.app N62 N65q
  refine Ends.st st65 ?_
  obtain ⟨fs, hr, hrun, hended, hW, hsame⟩ := X65.leave (v := none) (fun _ => rfl)
  exact ⟨_, _, X65.returnOut hx Bd.returns (hb hby d22_18) hr, hrun, hended, _, _, rfl, ⟨rfl, N65, K65, V65⟩, ⟨_, rfl⟩, hW, hsame.mono (by decide) (by decide)⟩
theorem d20_0 : decode jdk_68_method_22_code 0 = .ok (.aload_n 1, 1) := by decide +kernel
theorem d20_1 : decode jdk_68_method_22_code 1 = .ok (.ifnonnull 8, 3) := by decide +kernel
theorem d20_4 : decode jdk_68_method_22_code 4 = .ok (.aload_n 0, 1) := by decide +kernel
theorem d20_5 : decode jdk_68_method_22_code 5 = .ok (.invokevirtual 204, 3) := by decide +kernel
theorem d20_8 : decode jdk_68_method_22_code 8 = .ok (.areturn, 1) := by decide +kernel
theorem d20_9 : decode jdk_68_method_22_code 9 = .ok (.aload_n 1, 1) := by decide +kernel
theorem d20_10 : decode jdk_68_method_22_code 10 = .ok (.invokevirtual 32, 3) := by decide +kernel
theorem d20_13 : decode jdk_68_method_22_code 13 = .ok (.istore_n 2, 1) := by decide +kernel
theorem d20_14 : decode jdk_68_method_22_code 14 = .ok (.aload_n 0, 1) := by decide +kernel
theorem d20_15 : decode jdk_68_method_22_code 15 = .ok (.aload_n 0, 1) := by decide +kernel
theorem d20_16 : decode jdk_68_method_22_code 16 = .ok (.getfield 79, 3) := by decide +kernel
theorem d20_19 : decode jdk_68_method_22_code 19 = .ok (.iload_n 2, 1) := by decide +kernel
theorem d20_20 : decode jdk_68_method_22_code 20 = .ok (.iadd, 1) := by decide +kernel
theorem d20_21 : decode jdk_68_method_22_code 21 = .ok (.invokevirtual 100, 3) := by decide +kernel
theorem d20_24 : decode jdk_68_method_22_code 24 = .ok (.aload_n 0, 1) := by decide +kernel
theorem d20_25 : decode jdk_68_method_22_code 25 = .ok (.aload_n 0, 1) := by decide +kernel
theorem d20_26 : decode jdk_68_method_22_code 26 = .ok (.getfield 79, 3) := by decide +kernel
theorem d20_29 : decode jdk_68_method_22_code 29 = .ok (.aload_n 1, 1) := by decide +kernel
theorem d20_30 : decode jdk_68_method_22_code 30 = .ok (.invokevirtual 208, 3) := by decide +kernel
theorem d20_33 : decode jdk_68_method_22_code 33 = .ok (.aload_n 0, 1) := by decide +kernel
theorem d20_34 : decode jdk_68_method_22_code 34 = .ok (.dup, 1) := by decide +kernel
theorem d20_35 : decode jdk_68_method_22_code 35 = .ok (.getfield 79, 3) := by decide +kernel
theorem d20_38 : decode jdk_68_method_22_code 38 = .ok (.iload_n 2, 1) := by decide +kernel
theorem d20_39 : decode jdk_68_method_22_code 39 = .ok (.iadd, 1) := by decide +kernel
theorem d20_40 : decode jdk_68_method_22_code 40 = .ok (.putfield 79, 3) := by decide +kernel
theorem d20_43 : decode jdk_68_method_22_code 43 = .ok (.aload_n 0, 1) := by decide +kernel
theorem d20_44 : decode jdk_68_method_22_code 44 = .ok (.areturn, 1) := by decide +kernel
def Q_asb_appS (Z : State) (a1 : Addr) (b : Addr) (cap : Nat) (n : Nat) (f : Nat → Int32) (a2 : Addr) (d : Addr) (k : Nat) (g : Nat → Int32) (cs : Int32) (h0 : Heap) (n0 : Nat) (v : Option Value) (h : Heap) (L : List Loc) : Prop := v = some (.ref a1) ∧ Fr n0 L ∧ Keep h0 h [a1, b] ∧ SBd Z h a1 b cap (n + k) (fun x => if n ≤ x ∧ x < n + k then g (0 + (x - n)) else f x)
set_option maxRecDepth 65536 in
set_option maxHeartbeats 40000000 in
theorem asb_appS (l : Launch) (Z : State) (a0 : Array Value) (hw : ∀ d ∈ tables_1, d.before a0 Z = true) (ws : List Jvm.Cond) (a1 : Addr) (b : Addr) (cap : Nat) (n : Nat) (f : Nat → Int32) (a2 : Addr) (d : Addr) (k : Nat) (g : Nat → Int32) (cs : Int32) (h0 : Heap) (n0 : Nat) (Z0 : n0 ≤ h0.size) (S0 : Sta Z Z.heap "java/lang/String" "COMPACT_STRINGS" "Z" (.int cs)) (hcs : ¬ cs = (0 : Int32)) (O : Oll Z n0 h0) (F : SBd Z h0 a1 b cap n f) (G : Str Z h0 a2 d k g) (hn : n + k ≤ cap) (g_a : n0 ≤ a1) (g_b : n0 ≤ b) :
    MetFree l (⟨"java/lang/AbstractStringBuilder", "append", "(Ljava/lang/String;)Ljava/lang/AbstractStringBuilder;"⟩ : MethodName) (head1 (Jvm.Cond.code (⟨"java/lang/AbstractStringBuilder", "append", "(Ljava/lang/String;)Ljava/lang/AbstractStringBuilder;"⟩ : MethodName) jdk_68_method_22_code 3 (some (.object "java/lang/AbstractStringBuilder")) :: ws) ({ frames := 3, cells := 0, slots := 0, locals := 93 } : Room)) (fun a U => a = #[(.ref a1), (.ref a2)] ∧ Z.Warmed39 U.vm ∧ U.heap = h0) (fun _ _ _ _ _ => True) (fun _ U o U' => ∃ v L, o = .returned v ∧ Q_asb_appS Z a1 b cap n f a2 d k g cs h0 n0 v U'.heap L ∧ FrameEnd U o U' L ({ frames := 3, cells := 0, slots := 0, locals := 93 } : Room).cells ({ frames := 3, cells := 0, slots := 0, locals := 93 } : Room).slots) := by
  refine MetFree.of_bodySF (plainFor_of_name pn_3) hisR ?_
  intro p e s m args below meth c s₁ Bd hml0 hP hK
  obtain ⟨rfl, hZ, hh⟩ := hP
  have hx := Bd.exec
  have hby := Bd.bytes
  have hml : c.maxLocals = 3 := hml0
  have hown : s.vm.findClass "java/lang/AbstractStringBuilder" = some m.cls := findClass_of_methodNamed Bd.named
  have hnm := (name_of_methodNamed Bd.named Bd.method).1
  have X0 : Stand p l e ({ frames := 3, cells := 0, slots := 0, locals := 93 } : Room) s m #[(.ref a1), (.ref a2)] below meth c s₁ [] 0 0 := Stand.of_body Bd
  have e0 : s₁.heap = h0 := by rw [← hh, Bd.state]; rfl
  have N0 := Fr.nil n0
  have eF : entryFrame m #[(.ref a1), (.ref a2)] 3 = mkF m 0 #[.val (.ref a1), .val (.ref a2), .unset] [] := by first | (simp [entryFrame, mkF, argsToLocals, Value.category]; done) | rfl
  show Ends p e below s ({ frames := 3, cells := 0, slots := 0, locals := 93 } : Room) (Q_asb_appS Z a1 b cap n f a2 d k g cs h0 n0) (s₁.setTop (entryFrame m #[(.ref a1), (.ref a2)] 3))
  rw [eF]
  obtain ⟨Ex, Fc, Fn, Fv, Va, hcap⟩ := id F
  have hc1 := Va.1
  obtain ⟨cb0, Ab0, -, -, -⟩ := Va.op
  have nab : a1 ≠ b := ne_arr Ex (hw _ (List.mem_of_getElem? (i := 70) rfl)) Ab0
  refine Ends.of (F' := s₁.setTop (mkF m 10 #[.val (.ref a1), .val (.ref a2), .unset] [(.ref a2)])) (fun _ kt => ?_) ?_
  · show Steps p.tables e below (s₁.setTop (mkF m 0 #[.val (.ref a1), .val (.ref a2), .unset] [])) _
    refine XS.aloadN X0.here hx rfl (hb hby d20_0) rfl rfl ?_
    show Steps p.tables e below (s₁.setTop (mkF m 1 #[.val (.ref a1), .val (.ref a2), .unset] [(.ref a2)])) _
    refine XS.ifnonnullYes X0.here hx rfl (pc0 := 1) (pc' := 9) rfl (hb hby d20_1) rfl (by decide) (by decide) ?_
    show Steps p.tables e below (s₁.setTop (mkF m 9 #[.val (.ref a1), .val (.ref a2), .unset] [])) _
    refine XS.aloadN X0.here hx rfl (hb hby d20_9) rfl rfl ?_
    exact kt
  obtain ⟨cq66, kq66, q66a, q66b, q66c⟩ := isOf hZ e0 G.1
  obtain ⟨_, _, ⟨T66, L66, k66, n66⟩, -, X66, ⟨Lc66, hQ66, l66, y66, z66⟩, st66⟩ := X0.virtualBack hx (y := (⟨"java/lang/String", "length", "()I"⟩ : MethodName)) (z := (⟨"java/lang/String", "length", "()I"⟩ : MethodName)) hown (mvT hZ (hw _ (List.mem_of_getElem? (i := 82) rfl))) (mvT hZ (hw _ (List.mem_of_getElem? (i := 83) rfl))) (notFace_of_selects (args := #[]) (mvT hZ (hw _ (List.mem_of_getElem? (i := 85) rfl)))) (mvT hZ (hw _ (List.mem_of_getElem? (i := 85) rfl))) (mvT hZ (hw _ (List.mem_of_getElem? (i := 84) rfl))) (by decide) (backOf (W := 0) (str_length l Z a0 hw [] a2 d k g cs h0 n0 Z0 S0 hcs O G) hZ (hw _ (List.mem_of_getElem? (i := 86) rfl)) (hw _ (List.mem_of_getElem? (i := 2) rfl)) (by decide) (by decide)) q66a q66c (g := (mkF m 10 #[.val (.ref a1), .val (.ref a2), .unset] [(.ref a2)])) rfl (by rw [hml]; rfl) (Steps.refl _) (argsL := []) (rest := []) (lenOf pd_13 rfl) rfl (by show 2 * 0 + _ ≤ _; exact Nat.le_of_eq rfl) (hb hby d20_10) (fun _ _ => ⟨rfl, e0, (by decide : 0 + 0 ≤ _), (by decide : 0 + 0 ≤ _)⟩)
  dsimp only [Pt.U, Pt.locs, Pt.cells, Pt.slots] at X66 l66 y66 z66 st66 hQ66
  subst l66 y66 z66
  obtain ⟨rfl, N66q, e66⟩ := hQ66
  have N66 := Fr.app N0 N66q
  refine Ends.st st66 ?_
  refine Ends.of (F' := T66.setTop (mkF m 16 #[.val (.ref a1), .val (.ref a2), .val (.int (Int32.ofNat k))] [(.ref a1), (.ref a1)])) (fun _ kt => ?_) ?_
  · show Steps p.tables e below (T66.setTop (mkF m 13 #[.val (.ref a1), .val (.ref a2), .unset] [(.int (Int32.ofNat k))])) _
    refine XS.istoreN X66.here hx rfl (hb hby d20_13) rfl (l' := #[.val (.ref a1), .val (.ref a2), .val (.int (Int32.ofNat k))]) rfl ?_
    show Steps p.tables e below (T66.setTop (mkF m 14 #[.val (.ref a1), .val (.ref a2), .val (.int (Int32.ofNat k))] [])) _
    refine XS.aloadN X66.here hx rfl (hb hby d20_14) rfl rfl ?_
    show Steps p.tables e below (T66.setTop (mkF m 15 #[.val (.ref a1), .val (.ref a2), .val (.int (Int32.ofNat k))] [(.ref a1)])) _
    refine XS.aloadN X66.here hx rfl (hb hby d20_15) rfl rfl ?_
    exact kt
  obtain ⟨T67, X67, e67, st67⟩ := getF X66 hx hZ hown (host := "") (Or.inl (hw _ (List.mem_of_getElem? (i := 112) rfl))) Via.refl e66 Fn (g := (mkF m 16 #[.val (.ref a1), .val (.ref a2), .val (.int (Int32.ofNat k))] [(.ref a1), (.ref a1)])) rfl rfl (hb hby d20_16)
  refine Ends.of st67 ?_
  refine Ends.of (F' := T67.setTop (mkF m 21 #[.val (.ref a1), .val (.ref a2), .val (.int (Int32.ofNat k))] [(.int ((Int32.ofNat n) + (Int32.ofNat k))), (.ref a1)])) (fun _ kt => ?_) ?_
  · show Steps p.tables e below (T67.setTop (mkF m 19 #[.val (.ref a1), .val (.ref a2), .val (.int (Int32.ofNat k))] [(.int (Int32.ofNat n)), (.ref a1)])) _
    refine XS.iloadN X67.here hx rfl (hb hby d20_19) rfl ?_
    show Steps p.tables e below (T67.setTop (mkF m 20 #[.val (.ref a1), .val (.ref a2), .val (.int (Int32.ofNat k))] [(.int (Int32.ofNat k)), (.int (Int32.ofNat n)), (.ref a1)])) _
    refine XS.iadd X67.here hx rfl (hb hby d20_20) rfl ?_
    exact kt
  rw [own_add n k]
  obtain ⟨cq68, kq68, q68a, q68b, q68c⟩ := isOf hZ e67 F.1
  obtain ⟨_, _, ⟨T68, L68, k68, n68⟩, -, X68, ⟨Lc68, hQ68, l68, y68, z68⟩, st68⟩ := X67.virtualBack hx (y := (⟨"java/lang/AbstractStringBuilder", "ensureCapacityInternal", "(I)V"⟩ : MethodName)) (z := (⟨"java/lang/AbstractStringBuilder", "ensureCapacityInternal", "(I)V"⟩ : MethodName)) hown (mvT hZ (hw _ (List.mem_of_getElem? (i := 114) rfl))) (mvT hZ (own_decl (hw _ (List.mem_of_getElem? (i := 115) rfl)) (hw _ (List.mem_of_getElem? (i := 118) rfl)))) (notFace_of_selects (args := #[]) (mvT hZ (hw _ (List.mem_of_getElem? (i := 117) rfl)))) (mvT hZ (hw _ (List.mem_of_getElem? (i := 117) rfl))) (mvT hZ (hw _ (List.mem_of_getElem? (i := 115) rfl))) (by decide) (backOf (W := 0) (asb_ens l Z a0 hw [] a1 b cap n f (n + k) h0 n0 Z0 F (by omega)) hZ (hw _ (List.mem_of_getElem? (i := 118) rfl)) (hw _ (List.mem_of_getElem? (i := 79) rfl)) (by decide) (by decide)) q68a q68c (g := (mkF m 21 #[.val (.ref a1), .val (.ref a2), .val (.int (Int32.ofNat k))] [(.int (Int32.ofNat (n + k))), (.ref a1)])) rfl (by rw [hml]; rfl) (Steps.refl _) (argsL := [(.int (Int32.ofNat (n + k)))]) (rest := []) (lenOf pd_17 rfl) rfl (by show 2 * 0 + _ ≤ _; exact Nat.le_of_eq rfl) (hb hby d20_21) (fun _ _ => ⟨rfl, e67, (by decide : 0 + 0 ≤ _), (by decide : 0 + 0 ≤ _)⟩)
  dsimp only [Pt.U, Pt.locs, Pt.cells, Pt.slots] at X68 l68 y68 z68 st68 hQ68
  subst l68 y68 z68
  obtain ⟨rfl, N68q, e68⟩ := hQ68
  have N68 := Fr.app N66 N68q
  refine Ends.st st68 ?_
  refine Ends.of (F' := T68.setTop (mkF m 26 #[.val (.ref a1), .val (.ref a2), .val (.int (Int32.ofNat k))] [(.ref a1), (.ref a1)])) (fun _ kt => ?_) ?_
  · show Steps p.tables e below (T68.setTop (mkF m 24 #[.val (.ref a1), .val (.ref a2), .val (.int (Int32.ofNat k))] [])) _
    refine XS.aloadN X68.here hx rfl (hb hby d20_24) rfl rfl ?_
    show Steps p.tables e below (T68.setTop (mkF m 25 #[.val (.ref a1), .val (.ref a2), .val (.int (Int32.ofNat k))] [(.ref a1)])) _
    refine XS.aloadN X68.here hx rfl (hb hby d20_25) rfl rfl ?_
    exact kt
  obtain ⟨T69, X69, e69, st69⟩ := getF X68 hx hZ hown (host := "") (Or.inl (hw _ (List.mem_of_getElem? (i := 112) rfl))) Via.refl e68 Fn (g := (mkF m 26 #[.val (.ref a1), .val (.ref a2), .val (.int (Int32.ofNat k))] [(.ref a1), (.ref a1)])) rfl rfl (hb hby d20_26)
  refine Ends.of st69 ?_
  refine Ends.of (F' := T69.setTop (mkF m 30 #[.val (.ref a1), .val (.ref a2), .val (.int (Int32.ofNat k))] [(.ref a2), (.int (Int32.ofNat n)), (.ref a1)])) (fun _ kt => ?_) ?_
  · show Steps p.tables e below (T69.setTop (mkF m 29 #[.val (.ref a1), .val (.ref a2), .val (.int (Int32.ofNat k))] [(.int (Int32.ofNat n)), (.ref a1)])) _
    refine XS.aloadN X69.here hx rfl (hb hby d20_29) rfl rfl ?_
    exact kt
  obtain ⟨cq70, kq70, q70a, q70b, q70c⟩ := isOf hZ e69 Ex
  obtain ⟨_, _, ⟨T70, L70, k70, n70⟩, -, X70, ⟨Lc70, hQ70, l70, y70, z70⟩, st70⟩ := X69.virtualBack hx (y := (⟨"java/lang/AbstractStringBuilder", "putStringAt", "(ILjava/lang/String;)V"⟩ : MethodName)) (z := (⟨"java/lang/AbstractStringBuilder", "putStringAt", "(ILjava/lang/String;)V"⟩ : MethodName)) hown (mvT hZ (hw _ (List.mem_of_getElem? (i := 119) rfl))) (mvT hZ (own_decl (hw _ (List.mem_of_getElem? (i := 120) rfl)) (hw _ (List.mem_of_getElem? (i := 123) rfl)))) (notFace_of_selects (args := #[]) (mvT hZ (hw _ (List.mem_of_getElem? (i := 122) rfl)))) (mvT hZ (hw _ (List.mem_of_getElem? (i := 122) rfl))) (mvT hZ (hw _ (List.mem_of_getElem? (i := 120) rfl))) (by decide) (backOf (W := 0) (asb_putS l Z a0 hw [] a1 b cap n f a2 d k g cs h0 n0 Z0 S0 hcs O F G hn g_a g_b) hZ (hw _ (List.mem_of_getElem? (i := 123) rfl)) (hw _ (List.mem_of_getElem? (i := 79) rfl)) (by decide) (by decide)) q70a q70c (g := (mkF m 30 #[.val (.ref a1), .val (.ref a2), .val (.int (Int32.ofNat k))] [(.ref a2), (.int (Int32.ofNat n)), (.ref a1)])) rfl (by rw [hml]; rfl) (Steps.refl _) (argsL := [(.int (Int32.ofNat n)), (.ref a2)]) (rest := []) (lenOf pd_18 rfl) rfl (by show 2 * 0 + _ ≤ _; exact Nat.le_of_eq rfl) (hb hby d20_30) (fun _ _ => ⟨rfl, e69, (by decide : 0 + 0 ≤ _), (by decide : 0 + 0 ≤ _)⟩)
  dsimp only [Pt.U, Pt.locs, Pt.cells, Pt.slots] at X70 l70 y70 z70 st70 hQ70
  subst l70 y70 z70
  obtain ⟨rfl, N70q, K70, V70⟩ := hQ70
  have N70 := Fr.app N68 N70q
  refine Ends.st st70 ?_
  have na : a1 ∉ [b] := ninS nab nin0
  have Fc1 := Fc.keep K70 na
  have Fn1 := Fn.keep K70 na
  have Fv1 := Fv.keep K70 na
  have Ex1 := Ex.keep K70
  refine Ends.of (F' := T70.setTop (mkF m 35 #[.val (.ref a1), .val (.ref a2), .val (.int (Int32.ofNat k))] [(.ref a1), (.ref a1)])) (fun _ kt => ?_) ?_
  · show Steps p.tables e below (T70.setTop (mkF m 33 #[.val (.ref a1), .val (.ref a2), .val (.int (Int32.ofNat k))] [])) _
    refine XS.aloadN X70.here hx rfl (hb hby d20_33) rfl rfl ?_
    show Steps p.tables e below (T70.setTop (mkF m 34 #[.val (.ref a1), .val (.ref a2), .val (.int (Int32.ofNat k))] [(.ref a1)])) _
    refine XS.dup X70.here hx rfl (hb hby d20_34) rfl rfl ?_
    exact kt
  obtain ⟨T71, X71, e71, st71⟩ := getF X70 hx hZ hown (host := "") (Or.inl (hw _ (List.mem_of_getElem? (i := 112) rfl))) Via.refl rfl Fn1 (g := (mkF m 35 #[.val (.ref a1), .val (.ref a2), .val (.int (Int32.ofNat k))] [(.ref a1), (.ref a1)])) rfl rfl (hb hby d20_35)
  refine Ends.of st71 ?_
  refine Ends.of (F' := T71.setTop (mkF m 40 #[.val (.ref a1), .val (.ref a2), .val (.int (Int32.ofNat k))] [(.int ((Int32.ofNat n) + (Int32.ofNat k))), (.ref a1)])) (fun _ kt => ?_) ?_
  · show Steps p.tables e below (T71.setTop (mkF m 38 #[.val (.ref a1), .val (.ref a2), .val (.int (Int32.ofNat k))] [(.int (Int32.ofNat n)), (.ref a1)])) _
    refine XS.iloadN X71.here hx rfl (hb hby d20_38) rfl ?_
    show Steps p.tables e below (T71.setTop (mkF m 39 #[.val (.ref a1), .val (.ref a2), .val (.int (Int32.ofNat k))] [(.int (Int32.ofNat k)), (.int (Int32.ofNat n)), (.ref a1)])) _
    refine XS.iadd X71.here hx rfl (hb hby d20_39) rfl ?_
    exact kt
  rw [own_add n k]
  obtain ⟨T72, h72, X72, e72, W72, st72⟩ := putF X71 hx hZ hown (host := "") (Or.inl (hw _ (List.mem_of_getElem? (i := 112) rfl))) Via.refl e71 Fn1 Ex1 (Or.inl (hw _ (List.mem_of_getElem? (i := 113) rfl))) (hw _ (List.mem_of_getElem? (i := 70) rfl)) (ty := .int) (by decide) rfl rfl (g := (mkF m 40 #[.val (.ref a1), .val (.ref a2), .val (.int (Int32.ofNat k))] [(.int (Int32.ofNat (n + k))), (.ref a1)])) rfl rfl (hb hby d20_40)
  refine Ends.of st72 ?_
  have N72 := Fr.snoc X72 N70 g_a
  have Fc9 := Fc1.other W72 (Or.inr (slot_ne (Or.inl (hw _ (List.mem_of_getElem? (i := 95) rfl))) (Or.inl (hw _ (List.mem_of_getElem? (i := 113) rfl))) (by decide) (t := .byte) (t' := .int) (by decide) (by decide)))
  have Fv9 := Fv1.other W72 (Or.inr (slot_ne (Or.inl (hw _ (List.mem_of_getElem? (i := 97) rfl))) (Or.inl (hw _ (List.mem_of_getElem? (i := 113) rfl))) (by decide) (t := (.array .byte)) (t' := .int) (by decide) (by decide)))
  have Ex9 := Ex1.wr W72
  have Fn9 := Fn1.same W72
  have V9 := V70.other W72 (Ne.symm nab)
  have K9 : Keep h0 h72 [a1, b] := ((Keep.refl h0 [a1, b]).trans K70 (allS (Or.inl (List.mem_of_getElem? (i := 1) rfl)) all0)).wr W72 (Or.inl (List.mem_of_getElem? (i := 0) rfl))
  rw [← e72] at V9 Fc9 Fn9 Fv9 Ex9 K9
  refine Ends.of (F' := T72.setTop (mkF m 44 #[.val (.ref a1), .val (.ref a2), .val (.int (Int32.ofNat k))] [(.ref a1)])) (fun _ kt => ?_) ?_
  · show Steps p.tables e below (T72.setTop (mkF m 43 #[.val (.ref a1), .val (.ref a2), .val (.int (Int32.ofNat k))] [])) _
    refine XS.aloadN X72.here hx rfl (hb hby d20_43) rfl rfl ?_
    exact kt
  obtain ⟨fs, hr, hrun, hended, hW, hsame⟩ := X72.leave (v := some (.ref a1)) (fun h => by rw [Bd.returns] at h; cases h)
  refine ⟨_, _, ?_, hrun, hended, _, _, rfl, ⟨rfl, N72, K9, Ex9, Fc9, Fn9, Fv9, V9, hn⟩, ⟨_, rfl⟩, hW, hsame.mono (by decide) (by decide)⟩
  show Steps p.tables e below (T72.setTop (mkF m 44 #[.val (.ref a1), .val (.ref a2), .val (.int (Int32.ofNat k))] [(.ref a1)])) _
  jvm_step X72.here [X72.here.top, hx, (hb hby d20_44), X72.method', Bd.returns, Value.isRef, FieldType.isReference]
  first | (intro acts; rw [hr _ acts rfl rfl rfl]) | rw [hr _ _ rfl rfl rfl]
  exact Steps.refl _
theorem d19_0 : decode jdk_67_method_7_code 0 = .ok (.aload_n 0, 1) := by decide +kernel
theorem d19_1 : decode jdk_67_method_7_code 1 = .ok (.aload_n 1, 1) := by decide +kernel
theorem d19_2 : decode jdk_67_method_7_code 2 = .ok (.invokespecial 29, 3) := by decide +kernel
theorem d19_5 : decode jdk_67_method_7_code 5 = .ok (.pop, 1) := by decide +kernel
theorem d19_6 : decode jdk_67_method_7_code 6 = .ok (.aload_n 0, 1) := by decide +kernel
theorem d19_7 : decode jdk_67_method_7_code 7 = .ok (.areturn, 1) := by decide +kernel
def Q_sb_appS (Z : State) (a1 : Addr) (b : Addr) (cap : Nat) (n : Nat) (f : Nat → Int32) (a2 : Addr) (d : Addr) (k : Nat) (g : Nat → Int32) (cs : Int32) (h0 : Heap) (n0 : Nat) (v : Option Value) (h : Heap) (L : List Loc) : Prop := v = some (.ref a1) ∧ Fr n0 L ∧ Keep h0 h [a1, b] ∧ SBd Z h a1 b cap (n + k) (fun x => if n ≤ x ∧ x < n + k then g (0 + (x - n)) else f x)
set_option maxRecDepth 65536 in
set_option maxHeartbeats 40000000 in
theorem sb_appS (l : Launch) (Z : State) (a0 : Array Value) (hw : ∀ d ∈ tables_1, d.before a0 Z = true) (ws : List Jvm.Cond) (a1 : Addr) (b : Addr) (cap : Nat) (n : Nat) (f : Nat → Int32) (a2 : Addr) (d : Addr) (k : Nat) (g : Nat → Int32) (cs : Int32) (h0 : Heap) (n0 : Nat) (Z0 : n0 ≤ h0.size) (S0 : Sta Z Z.heap "java/lang/String" "COMPACT_STRINGS" "Z" (.int cs)) (hcs : ¬ cs = (0 : Int32)) (O : Oll Z n0 h0) (F : SBd Z h0 a1 b cap n f) (G : Str Z h0 a2 d k g) (hn : n + k ≤ cap) (g_a : n0 ≤ a1) (g_b : n0 ≤ b) :
    MetFree l (⟨"java/lang/StringBuilder", "append", "(Ljava/lang/String;)Ljava/lang/StringBuilder;"⟩ : MethodName) (head1 (Jvm.Cond.code (⟨"java/lang/StringBuilder", "append", "(Ljava/lang/String;)Ljava/lang/StringBuilder;"⟩ : MethodName) jdk_67_method_7_code 2 (some (.object "java/lang/StringBuilder")) :: ws) ({ frames := 4, cells := 0, slots := 0, locals := 107 } : Room)) (fun a U => a = #[(.ref a1), (.ref a2)] ∧ Z.Warmed39 U.vm ∧ U.heap = h0) (fun _ _ _ _ _ => True) (fun _ U o U' => ∃ v L, o = .returned v ∧ Q_sb_appS Z a1 b cap n f a2 d k g cs h0 n0 v U'.heap L ∧ FrameEnd U o U' L ({ frames := 4, cells := 0, slots := 0, locals := 107 } : Room).cells ({ frames := 4, cells := 0, slots := 0, locals := 107 } : Room).slots) := by
  refine MetFree.of_bodySF (plainFor_of_name pn_4) hisR ?_
  intro p e s m args below meth c s₁ Bd hml0 hP hK
  obtain ⟨rfl, hZ, hh⟩ := hP
  have hx := Bd.exec
  have hby := Bd.bytes
  have hml : c.maxLocals = 2 := hml0
  have hown : s.vm.findClass "java/lang/StringBuilder" = some m.cls := findClass_of_methodNamed Bd.named
  have hnm := (name_of_methodNamed Bd.named Bd.method).1
  have X0 : Stand p l e ({ frames := 4, cells := 0, slots := 0, locals := 107 } : Room) s m #[(.ref a1), (.ref a2)] below meth c s₁ [] 0 0 := Stand.of_body Bd
  have e0 : s₁.heap = h0 := by rw [← hh, Bd.state]; rfl
  have N0 := Fr.nil n0
  have eF : entryFrame m #[(.ref a1), (.ref a2)] 2 = mkF m 0 #[.val (.ref a1), .val (.ref a2)] [] := by first | (simp [entryFrame, mkF, argsToLocals, Value.category]; done) | rfl
  show Ends p e below s ({ frames := 4, cells := 0, slots := 0, locals := 107 } : Room) (Q_sb_appS Z a1 b cap n f a2 d k g cs h0 n0) (s₁.setTop (entryFrame m #[(.ref a1), (.ref a2)] 2))
  rw [eF]
  refine Ends.of (F' := s₁.setTop (mkF m 2 #[.val (.ref a1), .val (.ref a2)] [(.ref a2), (.ref a1)])) (fun _ kt => ?_) ?_
  · show Steps p.tables e below (s₁.setTop (mkF m 0 #[.val (.ref a1), .val (.ref a2)] [])) _
    refine XS.aloadN X0.here hx rfl (hb hby d19_0) rfl rfl ?_
    show Steps p.tables e below (s₁.setTop (mkF m 1 #[.val (.ref a1), .val (.ref a2)] [(.ref a1)])) _
    refine XS.aloadN X0.here hx rfl (hb hby d19_1) rfl rfl ?_
    exact kt
  obtain ⟨_, _, ⟨T73, L73, k73, n73⟩, -, X73, ⟨Lc73, hQ73, l73, y73, z73⟩, st73⟩ := superBack X0 hx hZ (y := (⟨"java/lang/AbstractStringBuilder", "append", "(Ljava/lang/String;)Ljava/lang/AbstractStringBuilder;"⟩ : MethodName)) hown (hw _ (List.mem_of_getElem? (i := 109) rfl)) (own_same (y := (⟨"java/lang/AbstractStringBuilder", "append", "(Ljava/lang/String;)Ljava/lang/AbstractStringBuilder;"⟩ : MethodName)) (z := (⟨"java/lang/AbstractStringBuilder", "ensureCapacityInternal", "(I)V"⟩ : MethodName)) rfl (by decide) (hw _ (List.mem_of_getElem? (i := 100) rfl)) (hw _ (List.mem_of_getElem? (i := 117) rfl))) (hw _ (List.mem_of_getElem? (i := 100) rfl)) (hw _ (List.mem_of_getElem? (i := 110) rfl)) (by decide) (backOf (W := 0) (asb_appS l Z a0 hw [] a1 b cap n f a2 d k g cs h0 n0 Z0 S0 hcs O F G hn g_a g_b) hZ (hw _ (List.mem_of_getElem? (i := 111) rfl)) (hw _ (List.mem_of_getElem? (i := 79) rfl)) (by decide) (by decide)) e0 (Ins.self F.1) (g := (mkF m 2 #[.val (.ref a1), .val (.ref a2)] [(.ref a2), (.ref a1)])) rfl (by rw [hml]; rfl) (hw _ (List.mem_of_getElem? (i := 111) rfl)) (argsL := [(.ref a2)]) (rest := []) (lenOf pd_15 rfl) rfl (by show 2 * 0 + _ ≤ _; exact Nat.le_of_eq rfl) (hb hby d19_2) (fun _ _ => ⟨rfl, e0, (by decide : 0 + 0 ≤ _), (by decide : 0 + 0 ≤ _)⟩)
  dsimp only [Pt.U, Pt.locs, Pt.cells, Pt.slots] at X73 l73 y73 z73 st73 hQ73
  subst l73 y73 z73
  obtain ⟨rfl, N73q, K73, F73⟩ := hQ73
  have N73 := Fr.app N0 N73q
  refine Ends.st st73 ?_
  refine Ends.of (F' := T73.setTop (mkF m 7 #[.val (.ref a1), .val (.ref a2)] [(.ref a1)])) (fun _ kt => ?_) ?_
  · show Steps p.tables e below (T73.setTop (mkF m 5 #[.val (.ref a1), .val (.ref a2)] [(.ref a1)])) _
    refine XS.pop X73.here hx rfl (hb hby d19_5) rfl rfl ?_
    show Steps p.tables e below (T73.setTop (mkF m 6 #[.val (.ref a1), .val (.ref a2)] [])) _
    refine XS.aloadN X73.here hx rfl (hb hby d19_6) rfl rfl ?_
    exact kt
  obtain ⟨fs, hr, hrun, hended, hW, hsame⟩ := X73.leave (v := some (.ref a1)) (fun h => by rw [Bd.returns] at h; cases h)
  refine ⟨_, _, ?_, hrun, hended, _, _, rfl, ⟨rfl, N73, K73, F73⟩, ⟨_, rfl⟩, hW, hsame.mono (by decide) (by decide)⟩
  show Steps p.tables e below (T73.setTop (mkF m 7 #[.val (.ref a1), .val (.ref a2)] [(.ref a1)])) _
  jvm_step X73.here [X73.here.top, hx, (hb hby d19_7), X73.method', Bd.returns, Value.isRef, FieldType.isReference]
  first | (intro acts; rw [hr _ acts rfl rfl rfl]) | rw [hr _ _ rfl rfl rfl]
  exact Steps.refl _
theorem d18_0 : decode jdk_67_method_80_code 0 = .ok (.aload_n 0, 1) := by decide +kernel
theorem d18_1 : decode jdk_67_method_80_code 1 = .ok (.aload_n 1, 1) := by decide +kernel
theorem d18_2 : decode jdk_67_method_80_code 2 = .ok (.invokevirtual 23, 3) := by decide +kernel
theorem d18_5 : decode jdk_67_method_80_code 5 = .ok (.areturn, 1) := by decide +kernel
def Q_sb_bri (Z : State) (a1 : Addr) (b : Addr) (cap : Nat) (n : Nat) (f : Nat → Int32) (a2 : Addr) (d : Addr) (k : Nat) (g : Nat → Int32) (cs : Int32) (h0 : Heap) (n0 : Nat) (v : Option Value) (h : Heap) (L : List Loc) : Prop := v = some (.ref a1) ∧ Fr n0 L ∧ Keep h0 h [a1, b] ∧ SBd Z h a1 b cap (n + k) (fun x => if n ≤ x ∧ x < n + k then g (0 + (x - n)) else f x)
set_option maxRecDepth 65536 in
set_option maxHeartbeats 40000000 in
theorem sb_bri (l : Launch) (Z : State) (a0 : Array Value) (hw : ∀ d ∈ tables_1, d.before a0 Z = true) (ws : List Jvm.Cond) (a1 : Addr) (b : Addr) (cap : Nat) (n : Nat) (f : Nat → Int32) (a2 : Addr) (d : Addr) (k : Nat) (g : Nat → Int32) (cs : Int32) (h0 : Heap) (n0 : Nat) (Z0 : n0 ≤ h0.size) (S0 : Sta Z Z.heap "java/lang/String" "COMPACT_STRINGS" "Z" (.int cs)) (hcs : ¬ cs = (0 : Int32)) (O : Oll Z n0 h0) (F : SBd Z h0 a1 b cap n f) (G : Str Z h0 a2 d k g) (hn : n + k ≤ cap) (g_a : n0 ≤ a1) (g_b : n0 ≤ b) :
    MetFree l (⟨"java/lang/StringBuilder", "append", "(Ljava/lang/String;)Ljava/lang/AbstractStringBuilder;"⟩ : MethodName) (head1 (Jvm.Cond.code (⟨"java/lang/StringBuilder", "append", "(Ljava/lang/String;)Ljava/lang/AbstractStringBuilder;"⟩ : MethodName) jdk_67_method_80_code 2 (some (.object "java/lang/AbstractStringBuilder")) :: ws) ({ frames := 5, cells := 0, slots := 0, locals := 120 } : Room)) (fun a U => a = #[(.ref a1), (.ref a2)] ∧ Z.Warmed39 U.vm ∧ U.heap = h0) (fun _ _ _ _ _ => True) (fun _ U o U' => ∃ v L, o = .returned v ∧ Q_sb_bri Z a1 b cap n f a2 d k g cs h0 n0 v U'.heap L ∧ FrameEnd U o U' L ({ frames := 5, cells := 0, slots := 0, locals := 120 } : Room).cells ({ frames := 5, cells := 0, slots := 0, locals := 120 } : Room).slots) := by
  refine MetFree.of_bodySF (plainFor_of_name pn_4) hisR ?_
  intro p e s m args below meth c s₁ Bd hml0 hP hK
  obtain ⟨rfl, hZ, hh⟩ := hP
  have hx := Bd.exec
  have hby := Bd.bytes
  have hml : c.maxLocals = 2 := hml0
  have hown : s.vm.findClass "java/lang/StringBuilder" = some m.cls := findClass_of_methodNamed Bd.named
  have hnm := (name_of_methodNamed Bd.named Bd.method).1
  have X0 : Stand p l e ({ frames := 5, cells := 0, slots := 0, locals := 120 } : Room) s m #[(.ref a1), (.ref a2)] below meth c s₁ [] 0 0 := Stand.of_body Bd
  have e0 : s₁.heap = h0 := by rw [← hh, Bd.state]; rfl
  have N0 := Fr.nil n0
  have eF : entryFrame m #[(.ref a1), (.ref a2)] 2 = mkF m 0 #[.val (.ref a1), .val (.ref a2)] [] := by first | (simp [entryFrame, mkF, argsToLocals, Value.category]; done) | rfl
  show Ends p e below s ({ frames := 5, cells := 0, slots := 0, locals := 120 } : Room) (Q_sb_bri Z a1 b cap n f a2 d k g cs h0 n0) (s₁.setTop (entryFrame m #[(.ref a1), (.ref a2)] 2))
  rw [eF]
  refine Ends.of (F' := s₁.setTop (mkF m 2 #[.val (.ref a1), .val (.ref a2)] [(.ref a2), (.ref a1)])) (fun _ kt => ?_) ?_
  · show Steps p.tables e below (s₁.setTop (mkF m 0 #[.val (.ref a1), .val (.ref a2)] [])) _
    refine XS.aloadN X0.here hx rfl (hb hby d18_0) rfl rfl ?_
    show Steps p.tables e below (s₁.setTop (mkF m 1 #[.val (.ref a1), .val (.ref a2)] [(.ref a1)])) _
    refine XS.aloadN X0.here hx rfl (hb hby d18_1) rfl rfl ?_
    exact kt
  obtain ⟨cq74, kq74, q74a, q74b, q74c⟩ := isOf hZ e0 F.1
  obtain ⟨_, _, ⟨T74, L74, k74, n74⟩, -, X74, ⟨Lc74, hQ74, l74, y74, z74⟩, st74⟩ := X0.virtualBack hx (y := (⟨"java/lang/StringBuilder", "append", "(Ljava/lang/String;)Ljava/lang/StringBuilder;"⟩ : MethodName)) (z := (⟨"java/lang/StringBuilder", "append", "(Ljava/lang/String;)Ljava/lang/StringBuilder;"⟩ : MethodName)) hown (mvT hZ (hw _ (List.mem_of_getElem? (i := 104) rfl))) (mvT hZ (hw _ (List.mem_of_getElem? (i := 105) rfl))) (notFace_of_selects (args := #[]) (mvT hZ (hw _ (List.mem_of_getElem? (i := 107) rfl)))) (mvT hZ (hw _ (List.mem_of_getElem? (i := 107) rfl))) (mvT hZ (hw _ (List.mem_of_getElem? (i := 106) rfl))) (by decide) (backOf (W := 0) (sb_appS l Z a0 hw [] a1 b cap n f a2 d k g cs h0 n0 Z0 S0 hcs O F G hn g_a g_b) hZ (hw _ (List.mem_of_getElem? (i := 108) rfl)) (hw _ (List.mem_of_getElem? (i := 71) rfl)) (by decide) (by decide)) q74a q74c (g := (mkF m 2 #[.val (.ref a1), .val (.ref a2)] [(.ref a2), (.ref a1)])) rfl (by rw [hml]; rfl) (Steps.refl _) (argsL := [(.ref a2)]) (rest := []) (lenOf pd_16 rfl) rfl (by show 2 * 0 + _ ≤ _; exact Nat.le_of_eq rfl) (hb hby d18_2) (fun _ _ => ⟨rfl, e0, (by decide : 0 + 0 ≤ _), (by decide : 0 + 0 ≤ _)⟩)
  dsimp only [Pt.U, Pt.locs, Pt.cells, Pt.slots] at X74 l74 y74 z74 st74 hQ74
  subst l74 y74 z74
  obtain ⟨rfl, N74q, K74, F74⟩ := hQ74
  have N74 := Fr.app N0 N74q
  refine Ends.st st74 ?_
  obtain ⟨fs, hr, hrun, hended, hW, hsame⟩ := X74.leave (v := some (.ref a1)) (fun h => by rw [Bd.returns] at h; cases h)
  refine ⟨_, _, ?_, hrun, hended, _, _, rfl, ⟨rfl, N74, K74, F74⟩, ⟨_, rfl⟩, hW, hsame.mono (by decide) (by decide)⟩
  show Steps p.tables e below (T74.setTop (mkF m 5 #[.val (.ref a1), .val (.ref a2)] [(.ref a1)])) _
  jvm_step X74.here [X74.here.top, hx, (hb hby d18_5), X74.method', Bd.returns, Value.isRef, FieldType.isReference]
  first | (intro acts; rw [hr _ acts rfl rfl rfl]) | rw [hr _ _ rfl rfl rfl]
  exact Steps.refl _
theorem d15_0 : decode jdk_68_method_3_code 0 = .ok (.aload_n 0, 1) := by decide +kernel
theorem d15_1 : decode jdk_68_method_3_code 1 = .ok (.invokespecial 3, 3) := by decide +kernel
theorem d15_4 : decode jdk_68_method_3_code 4 = .ok (.aload_n 1, 1) := by decide +kernel
theorem d15_5 : decode jdk_68_method_3_code 5 = .ok (.invokevirtual 32, 3) := by decide +kernel
theorem d15_8 : decode jdk_68_method_3_code 8 = .ok (.istore_n 2, 1) := by decide +kernel
theorem d15_9 : decode jdk_68_method_3_code 9 = .ok (.iload_n 2, 1) := by decide +kernel
theorem d15_10 : decode jdk_68_method_3_code 10 = .ok (.ldc 38, 2) := by decide +kernel
theorem d15_12 : decode jdk_68_method_3_code 12 = .ok (.if_icmp .ge 10, 3) := by decide +kernel
theorem d15_15 : decode jdk_68_method_3_code 15 = .ok (.iload_n 2, 1) := by decide +kernel
theorem d15_16 : decode jdk_68_method_3_code 16 = .ok (.bipush 16, 2) := by decide +kernel
theorem d15_18 : decode jdk_68_method_3_code 18 = .ok (.iadd, 1) := by decide +kernel
theorem d15_19 : decode jdk_68_method_3_code 19 = .ok (.goto 5, 3) := by decide +kernel
theorem d15_22 : decode jdk_68_method_3_code 22 = .ok (.ldc 39, 2) := by decide +kernel
theorem d15_24 : decode jdk_68_method_3_code 24 = .ok (.istore_n 3, 1) := by decide +kernel
theorem d15_25 : decode jdk_68_method_3_code 25 = .ok (.aload_n 1, 1) := by decide +kernel
theorem d15_26 : decode jdk_68_method_3_code 26 = .ok (.invokevirtual 40, 3) := by decide +kernel
theorem d15_29 : decode jdk_68_method_3_code 29 = .ok (.istore 4, 2) := by decide +kernel
theorem d15_31 : decode jdk_68_method_3_code 31 = .ok (.aload_n 0, 1) := by decide +kernel
theorem d15_32 : decode jdk_68_method_3_code 32 = .ok (.iload 4, 2) := by decide +kernel
theorem d15_34 : decode jdk_68_method_3_code 34 = .ok (.putfield 22, 3) := by decide +kernel
theorem d15_37 : decode jdk_68_method_3_code 37 = .ok (.aload_n 0, 1) := by decide +kernel
theorem d15_38 : decode jdk_68_method_3_code 38 = .ok (.iload 4, 2) := by decide +kernel
theorem d15_40 : decode jdk_68_method_3_code 40 = .ok (.ifCond .ne 9, 3) := by decide +kernel
theorem d15_43 : decode jdk_68_method_3_code 43 = .ok (.iload_n 3, 1) := by decide +kernel
theorem d15_44 : decode jdk_68_method_3_code 44 = .ok (.newarray .byte, 2) := by decide +kernel
theorem d15_46 : decode jdk_68_method_3_code 46 = .ok (.goto 7, 3) := by decide +kernel
theorem d15_49 : decode jdk_68_method_3_code 49 = .ok (.iload_n 3, 1) := by decide +kernel
theorem d15_50 : decode jdk_68_method_3_code 50 = .ok (.invokestatic 26, 3) := by decide +kernel
theorem d15_53 : decode jdk_68_method_3_code 53 = .ok (.putfield 15, 3) := by decide +kernel
theorem d15_56 : decode jdk_68_method_3_code 56 = .ok (.aload_n 0, 1) := by decide +kernel
theorem d15_57 : decode jdk_68_method_3_code 57 = .ok (.aload_n 1, 1) := by decide +kernel
theorem d15_58 : decode jdk_68_method_3_code 58 = .ok (.invokevirtual 43, 3) := by decide +kernel
theorem d15_61 : decode jdk_68_method_3_code 61 = .ok (.pop, 1) := by decide +kernel
theorem d15_62 : decode jdk_68_method_3_code 62 = .ok (.return_, 1) := by decide +kernel
def Q_asb_initS (Z : State) (a1 : Addr) (a2 : Addr) (d : Addr) (g : Nat → Int32) (cs : Int32) (h0 : Heap) (n0 : Nat) (v : Option Value) (h : Heap) (L : List Loc) : Prop := v = none ∧ Fr n0 L ∧ Keep h0 h [a1] ∧ ∃ b : Addr, SBd Z h a1 b 17 1 (fun x => if 0 ≤ x ∧ x < 0 + 1 then g (0 + (x - 0)) else 0) ∧ h0.size ≤ b
set_option maxRecDepth 65536 in
set_option maxHeartbeats 40000000 in
theorem asb_initS (l : Launch) (Z : State) (a0 : Array Value) (hw : ∀ d ∈ tables_1, d.before a0 Z = true) (ws : List Jvm.Cond) (a1 : Addr) (a2 : Addr) (d : Addr) (g : Nat → Int32) (cs : Int32) (h0 : Heap) (n0 : Nat) (Z0 : n0 ≤ h0.size) (S0 : Sta Z Z.heap "java/lang/String" "COMPACT_STRINGS" "Z" (.int cs)) (hcs : ¬ cs = (0 : Int32)) (O : Oll Z n0 h0) (E_a : Exa Z h0 a1 "java/lang/StringBuilder") (F_v : Fld Z h0 a1 "java/lang/AbstractStringBuilder" "value" "[B" .null) (F_c : Fld Z h0 a1 "java/lang/AbstractStringBuilder" "coder" "B" (.int (0 : Int32))) (F_n : Fld Z h0 a1 "java/lang/AbstractStringBuilder" "count" "I" (.int (0 : Int32))) (G : Str Z h0 a2 d 1 g) (g_a : n0 ≤ a1) (n2 : a2 ≠ a1) (n3 : d ≠ a1) :
    MetFree l (⟨"java/lang/AbstractStringBuilder", "<init>", "(Ljava/lang/String;)V"⟩ : MethodName) (head1 (Jvm.Cond.code (⟨"java/lang/AbstractStringBuilder", "<init>", "(Ljava/lang/String;)V"⟩ : MethodName) jdk_68_method_3_code 5 none :: ws) ({ frames := 6, cells := 1, slots := 17, locals := 133 } : Room)) (fun a U => a = #[(.ref a1), (.ref a2)] ∧ Z.Warmed39 U.vm ∧ U.heap = h0) (fun _ _ _ _ _ => True) (fun _ U o U' => ∃ v L, o = .returned v ∧ Q_asb_initS Z a1 a2 d g cs h0 n0 v U'.heap L ∧ FrameEnd U o U' L ({ frames := 6, cells := 1, slots := 17, locals := 133 } : Room).cells ({ frames := 6, cells := 1, slots := 17, locals := 133 } : Room).slots) := by
  refine MetFree.of_bodySF (plainFor_of_name pn_3) hisR ?_
  intro p e s m args below meth c s₁ Bd hml0 hP hK
  obtain ⟨rfl, hZ, hh⟩ := hP
  have hx := Bd.exec
  have hby := Bd.bytes
  have hml : c.maxLocals = 5 := hml0
  have hown : s.vm.findClass "java/lang/AbstractStringBuilder" = some m.cls := findClass_of_methodNamed Bd.named
  have hnm := (name_of_methodNamed Bd.named Bd.method).1
  have X0 : Stand p l e ({ frames := 6, cells := 1, slots := 17, locals := 133 } : Room) s m #[(.ref a1), (.ref a2)] below meth c s₁ [] 0 0 := Stand.of_body Bd
  have e0 : s₁.heap = h0 := by rw [← hh, Bd.state]; rfl
  have N0 := Fr.nil n0
  have eF : entryFrame m #[(.ref a1), (.ref a2)] 5 = mkF m 0 #[.val (.ref a1), .val (.ref a2), .unset, .unset, .unset] [] := by first | (simp [entryFrame, mkF, argsToLocals, Value.category]; done) | rfl
  show Ends p e below s ({ frames := 6, cells := 1, slots := 17, locals := 133 } : Room) (Q_asb_initS Z a1 a2 d g cs h0 n0) (s₁.setTop (entryFrame m #[(.ref a1), (.ref a2)] 5))
  rw [eF]
  refine Ends.of (F' := s₁.setTop (mkF m 1 #[.val (.ref a1), .val (.ref a2), .unset, .unset, .unset] [(.ref a1)])) (fun _ kt => ?_) ?_
  · show Steps p.tables e below (s₁.setTop (mkF m 0 #[.val (.ref a1), .val (.ref a2), .unset, .unset, .unset] [])) _
    refine XS.aloadN X0.here hx rfl (hb hby d15_0) rfl rfl ?_
    exact kt
  obtain ⟨T75, X75, e75, st75⟩ := initO X0 hx hZ hown (hw _ (List.mem_of_getElem? (i := 81) rfl)) (hw _ (List.mem_of_getElem? (i := 20) rfl)) (hw _ (List.mem_of_getElem? (i := 21) rfl)) e0 (g := (mkF m 1 #[.val (.ref a1), .val (.ref a2), .unset, .unset, .unset] [(.ref a1)])) rfl (by rw [hml]; rfl) rfl (hb hby d15_1) (by decide) (W := 0) (by show 2 * 0 + _ ≤ _; exact Nat.le_of_eq rfl) (by decide)
  refine Ends.of st75 ?_
  refine Ends.of (F' := T75.setTop (mkF m 5 #[.val (.ref a1), .val (.ref a2), .unset, .unset, .unset] [(.ref a2)])) (fun _ kt => ?_) ?_
  · show Steps p.tables e below (T75.setTop (mkF m 4 #[.val (.ref a1), .val (.ref a2), .unset, .unset, .unset] [])) _
    refine XS.aloadN X75.here hx rfl (hb hby d15_4) rfl rfl ?_
    exact kt
  obtain ⟨cq76, kq76, q76a, q76b, q76c⟩ := isOf hZ e75 G.1
  obtain ⟨_, _, ⟨T76, L76, k76, n76⟩, -, X76, ⟨Lc76, hQ76, l76, y76, z76⟩, st76⟩ := X75.virtualBack hx (y := (⟨"java/lang/String", "length", "()I"⟩ : MethodName)) (z := (⟨"java/lang/String", "length", "()I"⟩ : MethodName)) hown (mvT hZ (hw _ (List.mem_of_getElem? (i := 82) rfl))) (mvT hZ (hw _ (List.mem_of_getElem? (i := 83) rfl))) (notFace_of_selects (args := #[]) (mvT hZ (hw _ (List.mem_of_getElem? (i := 85) rfl)))) (mvT hZ (hw _ (List.mem_of_getElem? (i := 85) rfl))) (mvT hZ (hw _ (List.mem_of_getElem? (i := 84) rfl))) (by decide) (backOf (W := 0) (str_length l Z a0 hw [] a2 d 1 g cs h0 n0 Z0 S0 hcs O G) hZ (hw _ (List.mem_of_getElem? (i := 86) rfl)) (hw _ (List.mem_of_getElem? (i := 2) rfl)) (by decide) (by decide)) q76a q76c (g := (mkF m 5 #[.val (.ref a1), .val (.ref a2), .unset, .unset, .unset] [(.ref a2)])) rfl (by rw [hml]; rfl) (Steps.refl _) (argsL := []) (rest := []) (lenOf pd_13 rfl) rfl (by show 2 * 0 + _ ≤ _; exact Nat.le_of_eq rfl) (hb hby d15_5) (fun _ _ => ⟨rfl, e75, (by decide : 0 + 0 ≤ _), (by decide : 0 + 0 ≤ _)⟩)
  dsimp only [Pt.U, Pt.locs, Pt.cells, Pt.slots] at X76 l76 y76 z76 st76 hQ76
  subst l76 y76 z76
  obtain ⟨rfl, N76q, e76⟩ := hQ76
  have N76 := Fr.app N0 N76q
  refine Ends.st st76 ?_
  refine Ends.of (F' := T76.setTop (mkF m 26 #[.val (.ref a1), .val (.ref a2), .val (.int (1 : Int32)), .val (.int ((1 : Int32) + (16 : Int32))), .unset] [(.ref a2)])) (fun _ kt => ?_) ?_
  · show Steps p.tables e below (T76.setTop (mkF m 8 #[.val (.ref a1), .val (.ref a2), .unset, .unset, .unset] [(.int (1 : Int32))])) _
    refine XS.istoreN X76.here hx rfl (hb hby d15_8) rfl (l' := #[.val (.ref a1), .val (.ref a2), .val (.int (1 : Int32)), .unset, .unset]) rfl ?_
    show Steps p.tables e below (T76.setTop (mkF m 9 #[.val (.ref a1), .val (.ref a2), .val (.int (1 : Int32)), .unset, .unset] [])) _
    refine XS.iloadN X76.here hx rfl (hb hby d15_9) rfl ?_
    show Steps p.tables e below (T76.setTop (mkF m 10 #[.val (.ref a1), .val (.ref a2), .val (.int (1 : Int32)), .unset, .unset] [(.int (1 : Int32))])) _
    refine X76.ldcInt hx hown (mvT hZ (hw _ (List.mem_of_getElem? (i := 92) rfl))) (g := (mkF m 10 #[.val (.ref a1), .val (.ref a2), .val (.int (1 : Int32)), .unset, .unset] [(.int (1 : Int32))])) rfl (hb hby d15_10) _ ?_
    show Steps p.tables e below (T76.setTop (mkF m 12 #[.val (.ref a1), .val (.ref a2), .val (.int (1 : Int32)), .unset, .unset] [(.int (2147483631 : Int32)), (.int (1 : Int32))])) _
    refine XS.icmpNo X76.here hx rfl (hb hby d15_12) rfl (tlt (by decide)).2.1 ?_
    show Steps p.tables e below (T76.setTop (mkF m 15 #[.val (.ref a1), .val (.ref a2), .val (.int (1 : Int32)), .unset, .unset] [])) _
    refine XS.iloadN X76.here hx rfl (hb hby d15_15) rfl ?_
    show Steps p.tables e below (T76.setTop (mkF m 16 #[.val (.ref a1), .val (.ref a2), .val (.int (1 : Int32)), .unset, .unset] [(.int (1 : Int32))])) _
    refine XS.bipush X76.here hx rfl (hb hby d15_16) ?_
    show Steps p.tables e below (T76.setTop (mkF m 18 #[.val (.ref a1), .val (.ref a2), .val (.int (1 : Int32)), .unset, .unset] [(.int (16 : Int32)), (.int (1 : Int32))])) _
    refine XS.iadd X76.here hx rfl (hb hby d15_18) rfl ?_
    show Steps p.tables e below (T76.setTop (mkF m 19 #[.val (.ref a1), .val (.ref a2), .val (.int (1 : Int32)), .unset, .unset] [(.int ((1 : Int32) + (16 : Int32)))])) _
    refine XS.goto X76.here hx rfl (pc0 := 19) (pc' := 24) rfl (hb hby d15_19) (by decide) (by decide) ?_
    show Steps p.tables e below (T76.setTop (mkF m 24 #[.val (.ref a1), .val (.ref a2), .val (.int (1 : Int32)), .unset, .unset] [(.int ((1 : Int32) + (16 : Int32)))])) _
    refine XS.istoreN X76.here hx rfl (hb hby d15_24) rfl (l' := #[.val (.ref a1), .val (.ref a2), .val (.int (1 : Int32)), .val (.int ((1 : Int32) + (16 : Int32))), .unset]) rfl ?_
    show Steps p.tables e below (T76.setTop (mkF m 25 #[.val (.ref a1), .val (.ref a2), .val (.int (1 : Int32)), .val (.int ((1 : Int32) + (16 : Int32))), .unset] [])) _
    refine XS.aloadN X76.here hx rfl (hb hby d15_25) rfl rfl ?_
    exact kt
  rw [show (1 : Int32) + (16 : Int32) = (17 : Int32) by decide]
  obtain ⟨cq77, kq77, q77a, q77b, q77c⟩ := isOf hZ e76 G.1
  obtain ⟨_, _, ⟨T77, L77, k77, n77⟩, -, X77, ⟨Lc77, hQ77, l77, y77, z77⟩, st77⟩ := X76.virtualBack hx (y := (⟨"java/lang/String", "coder", "()B"⟩ : MethodName)) (z := (⟨"java/lang/String", "coder", "()B"⟩ : MethodName)) hown (mvT hZ (hw _ (List.mem_of_getElem? (i := 93) rfl))) (mvT hZ (hw _ (List.mem_of_getElem? (i := 88) rfl))) (notFace_of_selects (args := #[]) (mvT hZ (hw _ (List.mem_of_getElem? (i := 90) rfl)))) (mvT hZ (hw _ (List.mem_of_getElem? (i := 90) rfl))) (mvT hZ (hw _ (List.mem_of_getElem? (i := 89) rfl))) (by decide) (backOf (W := 0) (str_coder l Z a0 hw [] a2 cs h0 n0 Z0 S0 hcs O G.2.1) hZ (hw _ (List.mem_of_getElem? (i := 91) rfl)) (hw _ (List.mem_of_getElem? (i := 2) rfl)) (by decide) (by decide)) q77a q77c (g := (mkF m 26 #[.val (.ref a1), .val (.ref a2), .val (.int (1 : Int32)), .val (.int (17 : Int32)), .unset] [(.ref a2)])) rfl (by rw [hml]; rfl) (Steps.refl _) (argsL := []) (rest := []) (lenOf pd_14 rfl) rfl (by show 2 * 0 + _ ≤ _; exact Nat.le_of_eq rfl) (hb hby d15_26) (fun _ _ => ⟨rfl, e76, (by decide : 0 + 0 ≤ _), (by decide : 0 + 0 ≤ _)⟩)
  dsimp only [Pt.U, Pt.locs, Pt.cells, Pt.slots] at X77 l77 y77 z77 st77 hQ77
  subst l77 y77 z77
  obtain ⟨rfl, N77q, e77⟩ := hQ77
  have N77 := Fr.app N76 N77q
  refine Ends.st st77 ?_
  refine Ends.of (F' := T77.setTop (mkF m 34 #[.val (.ref a1), .val (.ref a2), .val (.int (1 : Int32)), .val (.int (17 : Int32)), .val (.int (0 : Int32))] [(.int (0 : Int32)), (.ref a1)])) (fun _ kt => ?_) ?_
  · show Steps p.tables e below (T77.setTop (mkF m 29 #[.val (.ref a1), .val (.ref a2), .val (.int (1 : Int32)), .val (.int (17 : Int32)), .unset] [(.int (0 : Int32))])) _
    refine XS.istore X77.here hx rfl (hb hby d15_29) rfl (l' := #[.val (.ref a1), .val (.ref a2), .val (.int (1 : Int32)), .val (.int (17 : Int32)), .val (.int (0 : Int32))]) rfl ?_
    show Steps p.tables e below (T77.setTop (mkF m 31 #[.val (.ref a1), .val (.ref a2), .val (.int (1 : Int32)), .val (.int (17 : Int32)), .val (.int (0 : Int32))] [])) _
    refine XS.aloadN X77.here hx rfl (hb hby d15_31) rfl rfl ?_
    show Steps p.tables e below (T77.setTop (mkF m 32 #[.val (.ref a1), .val (.ref a2), .val (.int (1 : Int32)), .val (.int (17 : Int32)), .val (.int (0 : Int32))] [(.ref a1)])) _
    refine XS.iload X77.here hx rfl (hb hby d15_32) rfl ?_
    exact kt
  obtain ⟨T78, h78, X78, e78, W78, st78⟩ := putFN X77 hx hZ hown (hw _ (List.mem_of_getElem? (i := 94) rfl)) Via.refl e77 F_c E_a (Or.inl (hw _ (List.mem_of_getElem? (i := 95) rfl))) (hw _ (List.mem_of_getElem? (i := 70) rfl)) (ty := .byte) (v' := (.int (0 : Int32))) (by decide) rfl rfl (g := (mkF m 34 #[.val (.ref a1), .val (.ref a2), .val (.int (1 : Int32)), .val (.int (17 : Int32)), .val (.int (0 : Int32))] [(.int (0 : Int32)), (.ref a1)])) rfl rfl (hb hby d15_34)
  refine Ends.of st78 ?_
  have N78 := Fr.snoc X78 N77 g_a
  have F_c1 := F_c.same W78
  have F_v1 := F_v.other W78 (Or.inr (slot_ne (Or.inl (hw _ (List.mem_of_getElem? (i := 97) rfl))) (Or.inl (hw _ (List.mem_of_getElem? (i := 95) rfl))) (by decide) (t := (.array .byte)) (t' := .byte) (by decide) (by decide)))
  have F_n1 := F_n.other W78 (Or.inr (slot_ne (Or.inl (hw _ (List.mem_of_getElem? (i := 113) rfl))) (Or.inl (hw _ (List.mem_of_getElem? (i := 95) rfl))) (by decide) (t := .int) (t' := .byte) (by decide) (by decide)))
  have E_1 := E_a.wr W78
  have K1 : Keep h0 h78 [a1] := (Keep.refl _ _).wr W78 (Or.inl (List.mem_of_getElem? (i := 0) rfl))
  refine Ends.of (F' := T78.setTop (mkF m 44 #[.val (.ref a1), .val (.ref a2), .val (.int (1 : Int32)), .val (.int (17 : Int32)), .val (.int (0 : Int32))] [(.int (17 : Int32)), (.ref a1)])) (fun _ kt => ?_) ?_
  · show Steps p.tables e below (T78.setTop (mkF m 37 #[.val (.ref a1), .val (.ref a2), .val (.int (1 : Int32)), .val (.int (17 : Int32)), .val (.int (0 : Int32))] [])) _
    refine XS.aloadN X78.here hx rfl (hb hby d15_37) rfl rfl ?_
    show Steps p.tables e below (T78.setTop (mkF m 38 #[.val (.ref a1), .val (.ref a2), .val (.int (1 : Int32)), .val (.int (17 : Int32)), .val (.int (0 : Int32))] [(.ref a1)])) _
    refine XS.iload X78.here hx rfl (hb hby d15_38) rfl ?_
    show Steps p.tables e below (T78.setTop (mkF m 40 #[.val (.ref a1), .val (.ref a2), .val (.int (1 : Int32)), .val (.int (17 : Int32)), .val (.int (0 : Int32))] [(.int (0 : Int32)), (.ref a1)])) _
    refine XS.ifNo X78.here hx rfl (hb hby d15_40) rfl ((if0 _ _).trans (teq rfl).2) ?_
    show Steps p.tables e below (T78.setTop (mkF m 43 #[.val (.ref a1), .val (.ref a2), .val (.int (1 : Int32)), .val (.int (17 : Int32)), .val (.int (0 : Int32))] [(.ref a1)])) _
    refine XS.iloadN X78.here hx rfl (hb hby d15_43) rfl ?_
    exact kt
  obtain ⟨T79, h79, k79, X79, e79, E79, A79, st79⟩ := newP X78 hx hZ (hw _ (List.mem_of_getElem? (i := 14) rfl)) e78 (g := (mkF m 44 #[.val (.ref a1), .val (.ref a2), .val (.int (1 : Int32)), .val (.int (17 : Int32)), .val (.int (0 : Int32))] [(.int (17 : Int32)), (.ref a1)])) rfl (hb hby d15_44) rfl (by decide) (cap := 17) (by decide) (by decide) (by decide) (by decide)
  obtain ⟨b79, g79⟩ : ∃ z, z = h78.size := ⟨_, rfl⟩
  rw [← g79] at A79 st79
  refine Ends.of st79 ?_
  have V0 : Ary .byte Z h79 b79 17 (fun _ => 0) := Ary.new (n := 17) A79 (by omega) rfl
  have glt : h0.size ≤ b79 := Nat.le_trans K1.1 (Nat.le_of_eq g79.symm)
  have nab : b79 ≠ a1 := Ne.symm (Nat.ne_of_lt (Nat.lt_of_lt_of_le E_a.lt glt))
  refine Ends.of (F' := T79.setTop (mkF m 53 #[.val (.ref a1), .val (.ref a2), .val (.int (1 : Int32)), .val (.int (17 : Int32)), .val (.int (0 : Int32))] [(.ref b79), (.ref a1)])) (fun _ kt => ?_) ?_
  · show Steps p.tables e below (T79.setTop (mkF m 46 #[.val (.ref a1), .val (.ref a2), .val (.int (1 : Int32)), .val (.int (17 : Int32)), .val (.int (0 : Int32))] [(.ref b79), (.ref a1)])) _
    refine XS.goto X79.here hx rfl (pc0 := 46) (pc' := 53) rfl (hb hby d15_46) (by decide) (by decide) ?_
    exact kt
  obtain ⟨T80, h80, X80, e80, W80, st80⟩ := putF X79 hx hZ hown (host := "") (Or.inl (hw _ (List.mem_of_getElem? (i := 96) rfl))) Via.refl e79 (F_v1.ext E79) (E_1.ext E79) (Or.inl (hw _ (List.mem_of_getElem? (i := 97) rfl))) (hw _ (List.mem_of_getElem? (i := 70) rfl)) (ty := (.array .byte)) (by decide) rfl rfl (g := (mkF m 53 #[.val (.ref a1), .val (.ref a2), .val (.int (1 : Int32)), .val (.int (17 : Int32)), .val (.int (0 : Int32))] [(.ref b79), (.ref a1)])) rfl rfl (hb hby d15_53)
  refine Ends.of st80 ?_
  have N80 := Fr.snoc X80 N78 g_a
  have F_v2 := (F_v1.ext E79).same W80
  have F_c2 := (F_c1.ext E79).other W80 (Or.inr (slot_ne (Or.inl (hw _ (List.mem_of_getElem? (i := 95) rfl))) (Or.inl (hw _ (List.mem_of_getElem? (i := 97) rfl))) (by decide) (t := .byte) (t' := (.array .byte)) (by decide) (by decide)))
  have F_n2 := (F_n1.ext E79).other W80 (Or.inr (slot_ne (Or.inl (hw _ (List.mem_of_getElem? (i := 113) rfl))) (Or.inl (hw _ (List.mem_of_getElem? (i := 97) rfl))) (by decide) (t := .int) (t' := (.array .byte)) (by decide) (by decide)))
  have E_2 := (E_1.ext E79).wr W80
  have V2 := V0.other W80 nab
  have K2 : Keep h0 h80 [a1] := (K1.ext E79).wr W80 (Or.inl (List.mem_of_getElem? (i := 0) rfl))
  have Z2 : n0 ≤ h80.size := Nat.le_trans Z0 K2.1
  have O2 := O.keep K2 (allS g_a all0)
  have G2 := G.keep K2 (ninS n2 nin0) (ninS n3 nin0)
  have gb : n0 ≤ b79 := Nat.le_trans Z0 glt
  refine Ends.of (F' := T80.setTop (mkF m 58 #[.val (.ref a1), .val (.ref a2), .val (.int (1 : Int32)), .val (.int (17 : Int32)), .val (.int (0 : Int32))] [(.ref a2), (.ref a1)])) (fun _ kt => ?_) ?_
  · show Steps p.tables e below (T80.setTop (mkF m 56 #[.val (.ref a1), .val (.ref a2), .val (.int (1 : Int32)), .val (.int (17 : Int32)), .val (.int (0 : Int32))] [])) _
    refine XS.aloadN X80.here hx rfl (hb hby d15_56) rfl rfl ?_
    show Steps p.tables e below (T80.setTop (mkF m 57 #[.val (.ref a1), .val (.ref a2), .val (.int (1 : Int32)), .val (.int (17 : Int32)), .val (.int (0 : Int32))] [(.ref a1)])) _
    refine XS.aloadN X80.here hx rfl (hb hby d15_57) rfl rfl ?_
    exact kt
  obtain ⟨cq81, kq81, q81a, q81b, q81c⟩ := isOf hZ e80 E_2
  obtain ⟨_, _, ⟨T81, L81, k81, n81⟩, -, X81, ⟨Lc81, hQ81, l81, y81, z81⟩, st81⟩ := X80.virtualBack hx (y := (⟨"java/lang/AbstractStringBuilder", "append", "(Ljava/lang/String;)Ljava/lang/AbstractStringBuilder;"⟩ : MethodName)) (z := (⟨"java/lang/StringBuilder", "append", "(Ljava/lang/String;)Ljava/lang/AbstractStringBuilder;"⟩ : MethodName)) hown (mvT hZ (hw _ (List.mem_of_getElem? (i := 98) rfl))) (mvT hZ (hw _ (List.mem_of_getElem? (i := 99) rfl))) (own_nf (args := #[]) (z := (⟨"java/lang/AbstractStringBuilder", "ensureCapacityInternal", "(I)V"⟩ : MethodName)) rfl (mvT hZ (hw _ (List.mem_of_getElem? (i := 117) rfl)))) (mvT hZ (hw _ (List.mem_of_getElem? (i := 101) rfl))) (mvT hZ (hw _ (List.mem_of_getElem? (i := 102) rfl))) (by decide) (backOf (W := 0) (sb_bri l Z a0 hw [] a1 b79 17 0 (fun _ => 0) a2 d 1 g cs h80 n0 Z2 S0 hcs O2 ⟨E_2, F_c2, F_n2, F_v2, V2, by omega⟩ G2 (by omega) g_a gb) hZ (hw _ (List.mem_of_getElem? (i := 103) rfl)) (hw _ (List.mem_of_getElem? (i := 71) rfl)) (by decide) (by decide)) q81a q81c (g := (mkF m 58 #[.val (.ref a1), .val (.ref a2), .val (.int (1 : Int32)), .val (.int (17 : Int32)), .val (.int (0 : Int32))] [(.ref a2), (.ref a1)])) rfl (by rw [hml]; rfl) (Steps.refl _) (argsL := [(.ref a2)]) (rest := []) (lenOf pd_15 rfl) rfl (by show 2 * 0 + _ ≤ _; exact Nat.le_of_eq rfl) (hb hby d15_58) (fun _ _ => ⟨rfl, e80, (by decide : 1 + 0 ≤ _), (by decide : 17 + 0 ≤ _)⟩)
  dsimp only [Pt.U, Pt.locs, Pt.cells, Pt.slots] at X81 l81 y81 z81 st81 hQ81
  subst l81 y81 z81
  obtain ⟨rfl, N81q, K81, F81⟩ := hQ81
  have N81 := Fr.app N80 N81q
  refine Ends.st st81 ?_
  have K3 : Keep h0 T81.heap [a1] := K2.trans K81 (allS (Or.inl (List.mem_of_getElem? (i := 0) rfl)) (allS (Or.inr glt) all0))
  refine Ends.of (F' := T81.setTop (mkF m 62 #[.val (.ref a1), .val (.ref a2), .val (.int (1 : Int32)), .val (.int (17 : Int32)), .val (.int (0 : Int32))] [])) (fun _ kt => ?_) ?_
  · show Steps p.tables e below (T81.setTop (mkF m 61 #[.val (.ref a1), .val (.ref a2), .val (.int (1 : Int32)), .val (.int (17 : Int32)), .val (.int (0 : Int32))] [(.ref a1)])) _
    refine XS.pop X81.here hx rfl (hb hby d15_61) rfl rfl ?_
    exact kt
  obtain ⟨fs, hr, hrun, hended, hW, hsame⟩ := X81.leave (v := none) (fun _ => rfl)
  exact ⟨_, _, X81.returnOut hx Bd.returns (hb hby d15_62) hr, hrun, hended, _, _, rfl, ⟨rfl, N81, K3, b79, F81, glt⟩, ⟨_, rfl⟩, hW, hsame.mono (by decide) (by decide)⟩
theorem d14_0 : decode jdk_67_method_3_code 0 = .ok (.aload_n 0, 1) := by decide +kernel
theorem d14_1 : decode jdk_67_method_3_code 1 = .ok (.aload_n 1, 1) := by decide +kernel
theorem d14_2 : decode jdk_67_method_3_code 2 = .ok (.invokespecial 7, 3) := by decide +kernel
theorem d14_5 : decode jdk_67_method_3_code 5 = .ok (.return_, 1) := by decide +kernel
def Q_sb_initS (Z : State) (a1 : Addr) (a2 : Addr) (d : Addr) (g : Nat → Int32) (cs : Int32) (h0 : Heap) (n0 : Nat) (v : Option Value) (h : Heap) (L : List Loc) : Prop := v = none ∧ Fr n0 L ∧ Keep h0 h [a1] ∧ ∃ b : Addr, SBd Z h a1 b 17 1 (fun x => if 0 ≤ x ∧ x < 0 + 1 then g (0 + (x - 0)) else 0) ∧ h0.size ≤ b
set_option maxRecDepth 65536 in
set_option maxHeartbeats 40000000 in
theorem sb_initS (l : Launch) (Z : State) (a0 : Array Value) (hw : ∀ d ∈ tables_1, d.before a0 Z = true) (ws : List Jvm.Cond) (a1 : Addr) (a2 : Addr) (d : Addr) (g : Nat → Int32) (cs : Int32) (h0 : Heap) (n0 : Nat) (Z0 : n0 ≤ h0.size) (S0 : Sta Z Z.heap "java/lang/String" "COMPACT_STRINGS" "Z" (.int cs)) (hcs : ¬ cs = (0 : Int32)) (O : Oll Z n0 h0) (E_a : Exa Z h0 a1 "java/lang/StringBuilder") (F_v : Fld Z h0 a1 "java/lang/AbstractStringBuilder" "value" "[B" .null) (F_c : Fld Z h0 a1 "java/lang/AbstractStringBuilder" "coder" "B" (.int (0 : Int32))) (F_n : Fld Z h0 a1 "java/lang/AbstractStringBuilder" "count" "I" (.int (0 : Int32))) (G : Str Z h0 a2 d 1 g) (g_a : n0 ≤ a1) (n2 : a2 ≠ a1) (n3 : d ≠ a1) :
    MetFree l (⟨"java/lang/StringBuilder", "<init>", "(Ljava/lang/String;)V"⟩ : MethodName) (head1 (Jvm.Cond.code (⟨"java/lang/StringBuilder", "<init>", "(Ljava/lang/String;)V"⟩ : MethodName) jdk_67_method_3_code 2 none :: ws) ({ frames := 7, cells := 1, slots := 17, locals := 149 } : Room)) (fun a U => a = #[(.ref a1), (.ref a2)] ∧ Z.Warmed39 U.vm ∧ U.heap = h0) (fun _ _ _ _ _ => True) (fun _ U o U' => ∃ v L, o = .returned v ∧ Q_sb_initS Z a1 a2 d g cs h0 n0 v U'.heap L ∧ FrameEnd U o U' L ({ frames := 7, cells := 1, slots := 17, locals := 149 } : Room).cells ({ frames := 7, cells := 1, slots := 17, locals := 149 } : Room).slots) := by
  refine MetFree.of_bodySF (plainFor_of_name pn_4) hisR ?_
  intro p e s m args below meth c s₁ Bd hml0 hP hK
  obtain ⟨rfl, hZ, hh⟩ := hP
  have hx := Bd.exec
  have hby := Bd.bytes
  have hml : c.maxLocals = 2 := hml0
  have hown : s.vm.findClass "java/lang/StringBuilder" = some m.cls := findClass_of_methodNamed Bd.named
  have hnm := (name_of_methodNamed Bd.named Bd.method).1
  have X0 : Stand p l e ({ frames := 7, cells := 1, slots := 17, locals := 149 } : Room) s m #[(.ref a1), (.ref a2)] below meth c s₁ [] 0 0 := Stand.of_body Bd
  have e0 : s₁.heap = h0 := by rw [← hh, Bd.state]; rfl
  have N0 := Fr.nil n0
  have eF : entryFrame m #[(.ref a1), (.ref a2)] 2 = mkF m 0 #[.val (.ref a1), .val (.ref a2)] [] := by first | (simp [entryFrame, mkF, argsToLocals, Value.category]; done) | rfl
  show Ends p e below s ({ frames := 7, cells := 1, slots := 17, locals := 149 } : Room) (Q_sb_initS Z a1 a2 d g cs h0 n0) (s₁.setTop (entryFrame m #[(.ref a1), (.ref a2)] 2))
  rw [eF]
  refine Ends.of (F' := s₁.setTop (mkF m 2 #[.val (.ref a1), .val (.ref a2)] [(.ref a2), (.ref a1)])) (fun _ kt => ?_) ?_
  · show Steps p.tables e below (s₁.setTop (mkF m 0 #[.val (.ref a1), .val (.ref a2)] [])) _
    refine XS.aloadN X0.here hx rfl (hb hby d14_0) rfl rfl ?_
    show Steps p.tables e below (s₁.setTop (mkF m 1 #[.val (.ref a1), .val (.ref a2)] [(.ref a1)])) _
    refine XS.aloadN X0.here hx rfl (hb hby d14_1) rfl rfl ?_
    exact kt
  obtain ⟨_, _, ⟨T82, L82, k82, n82⟩, -, X82, ⟨Lc82, hQ82, l82, y82, z82⟩, st82⟩ := X0.specialBack hx (y := (⟨"java/lang/AbstractStringBuilder", "<init>", "(Ljava/lang/String;)V"⟩ : MethodName)) rfl hown (mvT hZ (hw _ (List.mem_of_getElem? (i := 75) rfl))) (mvT hZ (hw _ (List.mem_of_getElem? (i := 76) rfl))) (mvT hZ (hw _ (List.mem_of_getElem? (i := 80) rfl))) (by decide) (backOf (W := 0) (asb_initS l Z a0 hw [] a1 a2 d g cs h0 n0 Z0 S0 hcs O E_a F_v F_c F_n G g_a n2 n3) hZ (hw _ (List.mem_of_getElem? (i := 80) rfl)) (hw _ (List.mem_of_getElem? (i := 79) rfl)) (by decide) (by decide)) (g := (mkF m 2 #[.val (.ref a1), .val (.ref a2)] [(.ref a2), (.ref a1)])) rfl (by rw [hml]; rfl) (Steps.refl _) (a := a1) (argsL := [(.ref a2)]) (rest := []) (lenOf pd_12 rfl) rfl (by show 2 * 0 + _ ≤ _; exact Nat.le_of_eq rfl) (hb hby d14_2) (fun _ _ => ⟨rfl, e0, (by decide : 0 + 1 ≤ _), (by decide : 0 + 17 ≤ _)⟩)
  dsimp only [Pt.U, Pt.locs, Pt.cells, Pt.slots] at X82 l82 y82 z82 st82 hQ82
  subst l82 y82 z82
  obtain ⟨rfl, N82q, K82, b82, F82, gb82⟩ := hQ82
  have N82 := Fr.app N0 N82q
  refine Ends.st st82 ?_
  obtain ⟨fs, hr, hrun, hended, hW, hsame⟩ := X82.leave (v := none) (fun _ => rfl)
  exact ⟨_, _, X82.returnOut hx Bd.returns (hb hby d14_5) hr, hrun, hended, _, _, rfl, ⟨rfl, N82, K82, b82, F82, gb82⟩, ⟨_, rfl⟩, hW, hsame.mono (by decide) (by decide)⟩
theorem d12_0 : decode jdk_30_method_1_code 0 = .ok (.aload_n 0, 1) := by decide +kernel
theorem d12_1 : decode jdk_30_method_1_code 1 = .ok (.invokespecial 1, 3) := by decide +kernel
theorem d12_4 : decode jdk_30_method_1_code 4 = .ok (.return_, 1) := by decide +kernel
theorem pn_6 : plainName "java/lang/Record" = true := by first | (simp [plainName, overriddenIn]; done) | decide +kernel
def Q_rec_init (Z : State) (a1 : Addr) (h0 : Heap) (n0 : Nat) (v : Option Value) (h : Heap) (L : List Loc) : Prop := v = none ∧ Fr n0 L ∧ h = h0
set_option maxRecDepth 65536 in
set_option maxHeartbeats 40000000 in
theorem rec_init (l : Launch) (Z : State) (a0 : Array Value) (hw : ∀ d ∈ tables_1, d.before a0 Z = true) (ws : List Jvm.Cond) (a1 : Addr) (h0 : Heap) (n0 : Nat) (Z0 : n0 ≤ h0.size) :
    MetFree l (⟨"java/lang/Record", "<init>", "()V"⟩ : MethodName) (head1 (Jvm.Cond.code (⟨"java/lang/Record", "<init>", "()V"⟩ : MethodName) jdk_30_method_1_code 1 none :: ws) ({ frames := 1, cells := 0, slots := 0, locals := 12 } : Room)) (fun a U => a = #[(.ref a1)] ∧ Z.Warmed39 U.vm ∧ U.heap = h0) (fun _ _ _ _ _ => True) (fun _ U o U' => ∃ v L, o = .returned v ∧ Q_rec_init Z a1 h0 n0 v U'.heap L ∧ FrameEnd U o U' L ({ frames := 1, cells := 0, slots := 0, locals := 12 } : Room).cells ({ frames := 1, cells := 0, slots := 0, locals := 12 } : Room).slots) := by
  refine MetFree.of_bodySF (plainFor_of_name pn_6) hisR ?_
  intro p e s m args below meth c s₁ Bd hml0 hP hK
  obtain ⟨rfl, hZ, hh⟩ := hP
  have hx := Bd.exec
  have hby := Bd.bytes
  have hml : c.maxLocals = 1 := hml0
  have hown : s.vm.findClass "java/lang/Record" = some m.cls := findClass_of_methodNamed Bd.named
  have hnm := (name_of_methodNamed Bd.named Bd.method).1
  have X0 : Stand p l e ({ frames := 1, cells := 0, slots := 0, locals := 12 } : Room) s m #[(.ref a1)] below meth c s₁ [] 0 0 := Stand.of_body Bd
  have e0 : s₁.heap = h0 := by rw [← hh, Bd.state]; rfl
  have N0 := Fr.nil n0
  have eF : entryFrame m #[(.ref a1)] 1 = mkF m 0 #[.val (.ref a1)] [] := by first | (simp [entryFrame, mkF, argsToLocals, Value.category]; done) | rfl
  show Ends p e below s ({ frames := 1, cells := 0, slots := 0, locals := 12 } : Room) (Q_rec_init Z a1 h0 n0) (s₁.setTop (entryFrame m #[(.ref a1)] 1))
  rw [eF]
  refine Ends.of (F' := s₁.setTop (mkF m 1 #[.val (.ref a1)] [(.ref a1)])) (fun _ kt => ?_) ?_
  · show Steps p.tables e below (s₁.setTop (mkF m 0 #[.val (.ref a1)] [])) _
    refine XS.aloadN X0.here hx rfl (hb hby d12_0) rfl rfl ?_
    exact kt
  obtain ⟨T83, X83, e83, st83⟩ := initO X0 hx hZ hown (hw _ (List.mem_of_getElem? (i := 55) rfl)) (hw _ (List.mem_of_getElem? (i := 20) rfl)) (hw _ (List.mem_of_getElem? (i := 21) rfl)) e0 (g := (mkF m 1 #[.val (.ref a1)] [(.ref a1)])) rfl (by rw [hml]; rfl) rfl (hb hby d12_1) (by decide) (W := 0) (by show 2 * 0 + _ ≤ _; exact Nat.le_of_eq rfl) (by decide)
  refine Ends.of st83 ?_
  obtain ⟨fs, hr, hrun, hended, hW, hsame⟩ := X83.leave (v := none) (fun _ => rfl)
  exact ⟨_, _, X83.returnOut hx Bd.returns (hb hby d12_4) hr, hrun, hended, _, _, rfl, ⟨rfl, N0, e83⟩, ⟨_, rfl⟩, hW, hsame.mono (by decide) (by decide)⟩
theorem d11_0 : decode prog_50_method_1_code 0 = .ok (.aload_n 0, 1) := by decide +kernel
theorem d11_1 : decode prog_50_method_1_code 1 = .ok (.invokespecial 1, 3) := by decide +kernel
theorem d11_4 : decode prog_50_method_1_code 4 = .ok (.aload_n 0, 1) := by decide +kernel
theorem d11_5 : decode prog_50_method_1_code 5 = .ok (.aload_n 1, 1) := by decide +kernel
theorem d11_6 : decode prog_50_method_1_code 6 = .ok (.putfield 7, 3) := by decide +kernel
theorem d11_9 : decode prog_50_method_1_code 9 = .ok (.aload_n 0, 1) := by decide +kernel
theorem d11_10 : decode prog_50_method_1_code 10 = .ok (.aload_n 2, 1) := by decide +kernel
theorem d11_11 : decode prog_50_method_1_code 11 = .ok (.putfield 13, 3) := by decide +kernel
theorem d11_14 : decode prog_50_method_1_code 14 = .ok (.aload_n 0, 1) := by decide +kernel
theorem d11_15 : decode prog_50_method_1_code 15 = .ok (.aload_n 3, 1) := by decide +kernel
theorem d11_16 : decode prog_50_method_1_code 16 = .ok (.putfield 16, 3) := by decide +kernel
theorem d11_19 : decode prog_50_method_1_code 19 = .ok (.aload_n 0, 1) := by decide +kernel
theorem d11_20 : decode prog_50_method_1_code 20 = .ok (.iload 4, 2) := by decide +kernel
theorem d11_22 : decode prog_50_method_1_code 22 = .ok (.putfield 19, 3) := by decide +kernel
theorem d11_25 : decode prog_50_method_1_code 25 = .ok (.return_, 1) := by decide +kernel
theorem pn_7 : plainName "com/example/coordinant/coordinant/Log$Rows" = true := by first | (simp [plainName, overriddenIn]; done) | decide +kernel
def Q_rows_init (Z : State) (a1 : Addr) (sh : Addr) (sr : Addr) (st : Addr) (p5 : Int32) (h0 : Heap) (n0 : Nat) (v : Option Value) (h : Heap) (L : List Loc) : Prop := v = none ∧ Fr n0 L ∧ Keep h0 h [a1] ∧ Exa Z h a1 "com/example/coordinant/coordinant/Log$Rows" ∧ Fld Z h a1 "com/example/coordinant/coordinant/Log$Rows" "head" "Ljava/lang/String;" (.ref sh) ∧ Fld Z h a1 "com/example/coordinant/coordinant/Log$Rows" "row" "Ljava/lang/String;" (.ref sr) ∧ Fld Z h a1 "com/example/coordinant/coordinant/Log$Rows" "tail" "Ljava/lang/String;" (.ref st)
set_option maxRecDepth 65536 in
set_option maxHeartbeats 40000000 in
theorem rows_init (l : Launch) (Z : State) (a0 : Array Value) (hw : ∀ d ∈ tables_1, d.before a0 Z = true) (ws : List Jvm.Cond) (a1 : Addr) (sh : Addr) (sr : Addr) (st : Addr) (p5 : Int32) (h0 : Heap) (n0 : Nat) (Z0 : n0 ≤ h0.size) (E_a : Exa Z h0 a1 "com/example/coordinant/coordinant/Log$Rows") (F_head : Fld Z h0 a1 "com/example/coordinant/coordinant/Log$Rows" "head" "Ljava/lang/String;" .null) (F_row : Fld Z h0 a1 "com/example/coordinant/coordinant/Log$Rows" "row" "Ljava/lang/String;" .null) (F_tail : Fld Z h0 a1 "com/example/coordinant/coordinant/Log$Rows" "tail" "Ljava/lang/String;" .null) (F_repeatable : Fld Z h0 a1 "com/example/coordinant/coordinant/Log$Rows" "repeatable" "Z" (.int (0 : Int32))) (g_a : n0 ≤ a1) :
    MetFree l (⟨"com/example/coordinant/coordinant/Log$Rows", "<init>", "(Ljava/lang/String;Ljava/lang/String;Ljava/lang/String;Z)V"⟩ : MethodName) (head1 (Jvm.Cond.code (⟨"com/example/coordinant/coordinant/Log$Rows", "<init>", "(Ljava/lang/String;Ljava/lang/String;Ljava/lang/String;Z)V"⟩ : MethodName) prog_50_method_1_code 5 none :: ws) ({ frames := 2, cells := 0, slots := 0, locals := 24 } : Room)) (fun a U => a = #[(.ref a1), (.ref sh), (.ref sr), (.ref st), (.int p5)] ∧ Z.Warmed39 U.vm ∧ U.heap = h0) (fun _ _ _ _ _ => True) (fun _ U o U' => ∃ v L, o = .returned v ∧ Q_rows_init Z a1 sh sr st p5 h0 n0 v U'.heap L ∧ FrameEnd U o U' L ({ frames := 2, cells := 0, slots := 0, locals := 24 } : Room).cells ({ frames := 2, cells := 0, slots := 0, locals := 24 } : Room).slots) := by
  refine MetFree.of_bodySF (plainFor_of_name pn_7) hisR ?_
  intro p e s m args below meth c s₁ Bd hml0 hP hK
  obtain ⟨rfl, hZ, hh⟩ := hP
  have hx := Bd.exec
  have hby := Bd.bytes
  have hml : c.maxLocals = 5 := hml0
  have hown : s.vm.findClass "com/example/coordinant/coordinant/Log$Rows" = some m.cls := findClass_of_methodNamed Bd.named
  have hnm := (name_of_methodNamed Bd.named Bd.method).1
  have X0 : Stand p l e ({ frames := 2, cells := 0, slots := 0, locals := 24 } : Room) s m #[(.ref a1), (.ref sh), (.ref sr), (.ref st), (.int p5)] below meth c s₁ [] 0 0 := Stand.of_body Bd
  have e0 : s₁.heap = h0 := by rw [← hh, Bd.state]; rfl
  have N0 := Fr.nil n0
  have eF : entryFrame m #[(.ref a1), (.ref sh), (.ref sr), (.ref st), (.int p5)] 5 = mkF m 0 #[.val (.ref a1), .val (.ref sh), .val (.ref sr), .val (.ref st), .val (.int p5)] [] := by first | (simp [entryFrame, mkF, argsToLocals, Value.category]; done) | rfl
  show Ends p e below s ({ frames := 2, cells := 0, slots := 0, locals := 24 } : Room) (Q_rows_init Z a1 sh sr st p5 h0 n0) (s₁.setTop (entryFrame m #[(.ref a1), (.ref sh), (.ref sr), (.ref st), (.int p5)] 5))
  rw [eF]
  refine Ends.of (F' := s₁.setTop (mkF m 1 #[.val (.ref a1), .val (.ref sh), .val (.ref sr), .val (.ref st), .val (.int p5)] [(.ref a1)])) (fun _ kt => ?_) ?_
  · show Steps p.tables e below (s₁.setTop (mkF m 0 #[.val (.ref a1), .val (.ref sh), .val (.ref sr), .val (.ref st), .val (.int p5)] [])) _
    refine XS.aloadN X0.here hx rfl (hb hby d11_0) rfl rfl ?_
    exact kt
  obtain ⟨_, _, ⟨T84, L84, k84, n84⟩, -, X84, ⟨Lc84, hQ84, l84, y84, z84⟩, st84⟩ := X0.specialBack hx (y := (⟨"java/lang/Record", "<init>", "()V"⟩ : MethodName)) rfl hown (mvT hZ (hw _ (List.mem_of_getElem? (i := 50) rfl))) (mvT hZ (hw _ (List.mem_of_getElem? (i := 51) rfl))) (mvT hZ (hw _ (List.mem_of_getElem? (i := 54) rfl))) (by decide) (backOf (W := 0) (rec_init l Z a0 hw [] a1 h0 n0 Z0) hZ (hw _ (List.mem_of_getElem? (i := 54) rfl)) (hw _ (List.mem_of_getElem? (i := 53) rfl)) (by decide) (by decide)) (g := (mkF m 1 #[.val (.ref a1), .val (.ref sh), .val (.ref sr), .val (.ref st), .val (.int p5)] [(.ref a1)])) rfl (by rw [hml]; rfl) (Steps.refl _) (a := a1) (argsL := []) (rest := []) (lenOf pd_4 rfl) rfl (by show 2 * 0 + _ ≤ _; exact Nat.le_of_eq rfl) (hb hby d11_1) (fun _ _ => ⟨rfl, e0, (by decide : 0 + 0 ≤ _), (by decide : 0 + 0 ≤ _)⟩)
  dsimp only [Pt.U, Pt.locs, Pt.cells, Pt.slots] at X84 l84 y84 z84 st84 hQ84
  subst l84 y84 z84
  obtain ⟨rfl, N84q, e84⟩ := hQ84
  have N84 := Fr.app N0 N84q
  refine Ends.st st84 ?_
  refine Ends.of (F' := T84.setTop (mkF m 6 #[.val (.ref a1), .val (.ref sh), .val (.ref sr), .val (.ref st), .val (.int p5)] [(.ref sh), (.ref a1)])) (fun _ kt => ?_) ?_
  · show Steps p.tables e below (T84.setTop (mkF m 4 #[.val (.ref a1), .val (.ref sh), .val (.ref sr), .val (.ref st), .val (.int p5)] [])) _
    refine XS.aloadN X84.here hx rfl (hb hby d11_4) rfl rfl ?_
    show Steps p.tables e below (T84.setTop (mkF m 5 #[.val (.ref a1), .val (.ref sh), .val (.ref sr), .val (.ref st), .val (.int p5)] [(.ref a1)])) _
    refine XS.aloadN X84.here hx rfl (hb hby d11_5) rfl rfl ?_
    exact kt
  obtain ⟨T85, h85, X85, e85, W85, st85⟩ := putF X84 hx hZ hown (host := "") (Or.inl (hw _ (List.mem_of_getElem? (i := 56) rfl))) Via.refl e84 F_head E_a (Or.inr ⟨(hw _ (List.mem_of_getElem? (i := 57) rfl)), rfl, hnm⟩) (hw _ (List.mem_of_getElem? (i := 45) rfl)) (ty := (.object "java/lang/String")) (by decide) rfl rfl (g := (mkF m 6 #[.val (.ref a1), .val (.ref sh), .val (.ref sr), .val (.ref st), .val (.int p5)] [(.ref sh), (.ref a1)])) rfl rfl (hb hby d11_6)
  refine Ends.of st85 ?_
  have N85 := Fr.snoc X85 N84 g_a
  have F_head_0 := F_head.same W85
  have F_row_0 := F_row.other W85 (Or.inr (slot_ne (Or.inr (hw _ (List.mem_of_getElem? (i := 59) rfl))) (Or.inr (hw _ (List.mem_of_getElem? (i := 57) rfl))) (by decide) (t := (.object "java/lang/String")) (t' := (.object "java/lang/String")) (by decide) (by decide)))
  have F_tail_0 := F_tail.other W85 (Or.inr (slot_ne (Or.inr (hw _ (List.mem_of_getElem? (i := 61) rfl))) (Or.inr (hw _ (List.mem_of_getElem? (i := 57) rfl))) (by decide) (t := (.object "java/lang/String")) (t' := (.object "java/lang/String")) (by decide) (by decide)))
  have F_repeatable_0 := F_repeatable.other W85 (Or.inr (slot_ne (Or.inr (hw _ (List.mem_of_getElem? (i := 63) rfl))) (Or.inr (hw _ (List.mem_of_getElem? (i := 57) rfl))) (by decide) (t := .boolean) (t' := (.object "java/lang/String")) (by decide) (by decide)))
  have E_0 := E_a.wr W85
  have K_0 : Keep h0 h85 [a1] := (Keep.refl h0 [a1]).wr W85 (Or.inl (List.mem_of_getElem? (i := 0) rfl))
  refine Ends.of (F' := T85.setTop (mkF m 11 #[.val (.ref a1), .val (.ref sh), .val (.ref sr), .val (.ref st), .val (.int p5)] [(.ref sr), (.ref a1)])) (fun _ kt => ?_) ?_
  · show Steps p.tables e below (T85.setTop (mkF m 9 #[.val (.ref a1), .val (.ref sh), .val (.ref sr), .val (.ref st), .val (.int p5)] [])) _
    refine XS.aloadN X85.here hx rfl (hb hby d11_9) rfl rfl ?_
    show Steps p.tables e below (T85.setTop (mkF m 10 #[.val (.ref a1), .val (.ref sh), .val (.ref sr), .val (.ref st), .val (.int p5)] [(.ref a1)])) _
    refine XS.aloadN X85.here hx rfl (hb hby d11_10) rfl rfl ?_
    exact kt
  obtain ⟨T86, h86, X86, e86, W86, st86⟩ := putF X85 hx hZ hown (host := "") (Or.inl (hw _ (List.mem_of_getElem? (i := 58) rfl))) Via.refl e85 F_row_0 E_0 (Or.inr ⟨(hw _ (List.mem_of_getElem? (i := 59) rfl)), rfl, hnm⟩) (hw _ (List.mem_of_getElem? (i := 45) rfl)) (ty := (.object "java/lang/String")) (by decide) rfl rfl (g := (mkF m 11 #[.val (.ref a1), .val (.ref sh), .val (.ref sr), .val (.ref st), .val (.int p5)] [(.ref sr), (.ref a1)])) rfl rfl (hb hby d11_11)
  refine Ends.of st86 ?_
  have N86 := Fr.snoc X86 N85 g_a
  have F_head_1 := F_head_0.other W86 (Or.inr (slot_ne (Or.inr (hw _ (List.mem_of_getElem? (i := 57) rfl))) (Or.inr (hw _ (List.mem_of_getElem? (i := 59) rfl))) (by decide) (t := (.object "java/lang/String")) (t' := (.object "java/lang/String")) (by decide) (by decide)))
  have F_row_1 := F_row_0.same W86
  have F_tail_1 := F_tail_0.other W86 (Or.inr (slot_ne (Or.inr (hw _ (List.mem_of_getElem? (i := 61) rfl))) (Or.inr (hw _ (List.mem_of_getElem? (i := 59) rfl))) (by decide) (t := (.object "java/lang/String")) (t' := (.object "java/lang/String")) (by decide) (by decide)))
  have F_repeatable_1 := F_repeatable_0.other W86 (Or.inr (slot_ne (Or.inr (hw _ (List.mem_of_getElem? (i := 63) rfl))) (Or.inr (hw _ (List.mem_of_getElem? (i := 59) rfl))) (by decide) (t := .boolean) (t' := (.object "java/lang/String")) (by decide) (by decide)))
  have E_1 := E_0.wr W86
  have K_1 : Keep h0 h86 [a1] := K_0.wr W86 (Or.inl (List.mem_of_getElem? (i := 0) rfl))
  refine Ends.of (F' := T86.setTop (mkF m 16 #[.val (.ref a1), .val (.ref sh), .val (.ref sr), .val (.ref st), .val (.int p5)] [(.ref st), (.ref a1)])) (fun _ kt => ?_) ?_
  · show Steps p.tables e below (T86.setTop (mkF m 14 #[.val (.ref a1), .val (.ref sh), .val (.ref sr), .val (.ref st), .val (.int p5)] [])) _
    refine XS.aloadN X86.here hx rfl (hb hby d11_14) rfl rfl ?_
    show Steps p.tables e below (T86.setTop (mkF m 15 #[.val (.ref a1), .val (.ref sh), .val (.ref sr), .val (.ref st), .val (.int p5)] [(.ref a1)])) _
    refine XS.aloadN X86.here hx rfl (hb hby d11_15) rfl rfl ?_
    exact kt
  obtain ⟨T87, h87, X87, e87, W87, st87⟩ := putF X86 hx hZ hown (host := "") (Or.inl (hw _ (List.mem_of_getElem? (i := 60) rfl))) Via.refl e86 F_tail_1 E_1 (Or.inr ⟨(hw _ (List.mem_of_getElem? (i := 61) rfl)), rfl, hnm⟩) (hw _ (List.mem_of_getElem? (i := 45) rfl)) (ty := (.object "java/lang/String")) (by decide) rfl rfl (g := (mkF m 16 #[.val (.ref a1), .val (.ref sh), .val (.ref sr), .val (.ref st), .val (.int p5)] [(.ref st), (.ref a1)])) rfl rfl (hb hby d11_16)
  refine Ends.of st87 ?_
  have N87 := Fr.snoc X87 N86 g_a
  have F_head_2 := F_head_1.other W87 (Or.inr (slot_ne (Or.inr (hw _ (List.mem_of_getElem? (i := 57) rfl))) (Or.inr (hw _ (List.mem_of_getElem? (i := 61) rfl))) (by decide) (t := (.object "java/lang/String")) (t' := (.object "java/lang/String")) (by decide) (by decide)))
  have F_row_2 := F_row_1.other W87 (Or.inr (slot_ne (Or.inr (hw _ (List.mem_of_getElem? (i := 59) rfl))) (Or.inr (hw _ (List.mem_of_getElem? (i := 61) rfl))) (by decide) (t := (.object "java/lang/String")) (t' := (.object "java/lang/String")) (by decide) (by decide)))
  have F_tail_2 := F_tail_1.same W87
  have F_repeatable_2 := F_repeatable_1.other W87 (Or.inr (slot_ne (Or.inr (hw _ (List.mem_of_getElem? (i := 63) rfl))) (Or.inr (hw _ (List.mem_of_getElem? (i := 61) rfl))) (by decide) (t := .boolean) (t' := (.object "java/lang/String")) (by decide) (by decide)))
  have E_2 := E_1.wr W87
  have K_2 : Keep h0 h87 [a1] := K_1.wr W87 (Or.inl (List.mem_of_getElem? (i := 0) rfl))
  refine Ends.of (F' := T87.setTop (mkF m 22 #[.val (.ref a1), .val (.ref sh), .val (.ref sr), .val (.ref st), .val (.int p5)] [(.int p5), (.ref a1)])) (fun _ kt => ?_) ?_
  · show Steps p.tables e below (T87.setTop (mkF m 19 #[.val (.ref a1), .val (.ref sh), .val (.ref sr), .val (.ref st), .val (.int p5)] [])) _
    refine XS.aloadN X87.here hx rfl (hb hby d11_19) rfl rfl ?_
    show Steps p.tables e below (T87.setTop (mkF m 20 #[.val (.ref a1), .val (.ref sh), .val (.ref sr), .val (.ref st), .val (.int p5)] [(.ref a1)])) _
    refine XS.iload X87.here hx rfl (hb hby d11_20) rfl ?_
    exact kt
  obtain ⟨T88, h88, X88, e88, W88, st88⟩ := putFN X87 hx hZ hown (hw _ (List.mem_of_getElem? (i := 62) rfl)) Via.refl e87 F_repeatable_2 E_2 (Or.inr ⟨(hw _ (List.mem_of_getElem? (i := 63) rfl)), rfl, hnm⟩) (hw _ (List.mem_of_getElem? (i := 45) rfl)) (ty := .boolean) (v' := (.int (nar .boolean p5))) (by decide) rfl (fits_nar_bool p5) (g := (mkF m 22 #[.val (.ref a1), .val (.ref sh), .val (.ref sr), .val (.ref st), .val (.int p5)] [(.int p5), (.ref a1)])) rfl rfl (hb hby d11_22)
  refine Ends.of st88 ?_
  have N88 := Fr.snoc X88 N87 g_a
  have F_head_3 := F_head_2.other W88 (Or.inr (slot_ne (Or.inr (hw _ (List.mem_of_getElem? (i := 57) rfl))) (Or.inr (hw _ (List.mem_of_getElem? (i := 63) rfl))) (by decide) (t := (.object "java/lang/String")) (t' := .boolean) (by decide) (by decide)))
  have F_row_3 := F_row_2.other W88 (Or.inr (slot_ne (Or.inr (hw _ (List.mem_of_getElem? (i := 59) rfl))) (Or.inr (hw _ (List.mem_of_getElem? (i := 63) rfl))) (by decide) (t := (.object "java/lang/String")) (t' := .boolean) (by decide) (by decide)))
  have F_tail_3 := F_tail_2.other W88 (Or.inr (slot_ne (Or.inr (hw _ (List.mem_of_getElem? (i := 61) rfl))) (Or.inr (hw _ (List.mem_of_getElem? (i := 63) rfl))) (by decide) (t := (.object "java/lang/String")) (t' := .boolean) (by decide) (by decide)))
  have F_repeatable_3 := F_repeatable_2.same W88
  have E_3 := E_2.wr W88
  have K_3 : Keep h0 h88 [a1] := K_2.wr W88 (Or.inl (List.mem_of_getElem? (i := 0) rfl))
  rw [← e88] at E_3 K_3 F_head_3 F_row_3 F_tail_3
  obtain ⟨fs, hr, hrun, hended, hW, hsame⟩ := X88.leave (v := none) (fun _ => rfl)
  exact ⟨_, _, X88.returnOut hx Bd.returns (hb hby d11_25) hr, hrun, hended, _, _, rfl, ⟨rfl, N88, K_3, E_3, F_head_3, F_row_3, F_tail_3⟩, ⟨_, rfl⟩, hW, hsame.mono (by decide) (by decide)⟩
theorem own_ne3 {u v n k : Nat} (hz : n ≤ v) (hl : v < k) (wh : u < n ∨ k ≤ u) : u ≠ v := by
  rcases wh with r | r <;> omega
theorem d13_0 : decode prog_50_method_2_code 0 = .ok (.new 23, 3) := by decide +kernel
theorem d13_3 : decode prog_50_method_2_code 3 = .ok (.dup, 1) := by decide +kernel
theorem d13_4 : decode prog_50_method_2_code 4 = .ok (.aload_n 0, 1) := by decide +kernel
theorem d13_5 : decode prog_50_method_2_code 5 = .ok (.getfield 7, 3) := by decide +kernel
theorem d13_8 : decode prog_50_method_2_code 8 = .ok (.invokespecial 25, 3) := by decide +kernel
theorem d13_11 : decode prog_50_method_2_code 11 = .ok (.aload_n 0, 1) := by decide +kernel
theorem d13_12 : decode prog_50_method_2_code 12 = .ok (.getfield 13, 3) := by decide +kernel
theorem d13_15 : decode prog_50_method_2_code 15 = .ok (.invokevirtual 28, 3) := by decide +kernel
theorem d13_18 : decode prog_50_method_2_code 18 = .ok (.astore_n 2, 1) := by decide +kernel
theorem d13_19 : decode prog_50_method_2_code 19 = .ok (.iconst 1, 1) := by decide +kernel
theorem d13_20 : decode prog_50_method_2_code 20 = .ok (.istore_n 3, 1) := by decide +kernel
theorem d13_21 : decode prog_50_method_2_code 21 = .ok (.iload_n 3, 1) := by decide +kernel
theorem d13_22 : decode prog_50_method_2_code 22 = .ok (.iload_n 1, 1) := by decide +kernel
theorem d13_23 : decode prog_50_method_2_code 23 = .ok (.if_icmp .ge 23, 3) := by decide +kernel
theorem d13_26 : decode prog_50_method_2_code 26 = .ok (.aload_n 2, 1) := by decide +kernel
theorem d13_27 : decode prog_50_method_2_code 27 = .ok (.ldc 32, 2) := by decide +kernel
theorem d13_29 : decode prog_50_method_2_code 29 = .ok (.invokevirtual 28, 3) := by decide +kernel
theorem d13_32 : decode prog_50_method_2_code 32 = .ok (.aload_n 0, 1) := by decide +kernel
theorem d13_33 : decode prog_50_method_2_code 33 = .ok (.getfield 13, 3) := by decide +kernel
theorem d13_36 : decode prog_50_method_2_code 36 = .ok (.invokevirtual 28, 3) := by decide +kernel
theorem d13_39 : decode prog_50_method_2_code 39 = .ok (.pop, 1) := by decide +kernel
theorem d13_40 : decode prog_50_method_2_code 40 = .ok (.iinc 3 1, 3) := by decide +kernel
theorem d13_43 : decode prog_50_method_2_code 43 = .ok (.goto (-22), 3) := by decide +kernel
theorem d13_46 : decode prog_50_method_2_code 46 = .ok (.aload_n 2, 1) := by decide +kernel
theorem d13_47 : decode prog_50_method_2_code 47 = .ok (.aload_n 0, 1) := by decide +kernel
theorem d13_48 : decode prog_50_method_2_code 48 = .ok (.getfield 16, 3) := by decide +kernel
theorem d13_51 : decode prog_50_method_2_code 51 = .ok (.invokevirtual 28, 3) := by decide +kernel
theorem d13_54 : decode prog_50_method_2_code 54 = .ok (.invokevirtual 34, 3) := by decide +kernel
theorem d13_57 : decode prog_50_method_2_code 57 = .ok (.areturn, 1) := by decide +kernel
def Q_stm0 (Z : State) (a1 : Addr) (cnt : Int32) (sh : Addr) (sr : Addr) (st : Addr) (dsh : Addr) (dsr : Addr) (dst : Addr) (x0 : Int32) (y0 : Int32) (y1 : Int32) (z0 : Int32) (cs : Int32) (h0 : Heap) (n0 : Nat) (v : Option Value) (h : Heap) (L : List Loc) : Prop := ∃ u d : Addr, v = some (.ref u) ∧ Fr n0 L ∧ Keep h0 h [] ∧ Str Z h u d 4 (tf [x0, y0, y1, z0])
set_option maxRecDepth 65536 in
set_option maxHeartbeats 40000000 in
theorem stm0 (l : Launch) (Z : State) (a0 : Array Value) (hw : ∀ d ∈ tables_1, d.before a0 Z = true) (ws : List Jvm.Cond) (a1 : Addr) (cnt : Int32) (sh : Addr) (sr : Addr) (st : Addr) (dsh : Addr) (dsr : Addr) (dst : Addr) (x0 : Int32) (y0 : Int32) (y1 : Int32) (z0 : Int32) (cs : Int32) (h0 : Heap) (n0 : Nat) (Z0 : n0 ≤ h0.size) (S0 : Sta Z Z.heap "java/lang/String" "COMPACT_STRINGS" "Z" (.int cs)) (hcs : ¬ cs = (0 : Int32)) (O : Oll Z n0 h0) (hcnt : ¬ (1 : Int32) < cnt) (F_head : Fld Z h0 a1 "com/example/coordinant/coordinant/Log$Rows" "head" "Ljava/lang/String;" (.ref sh)) (F_row : Fld Z h0 a1 "com/example/coordinant/coordinant/Log$Rows" "row" "Ljava/lang/String;" (.ref sr)) (F_tail : Fld Z h0 a1 "com/example/coordinant/coordinant/Log$Rows" "tail" "Ljava/lang/String;" (.ref st)) (T_sh : Str Z h0 sh dsh 1 (tf [x0])) (T_sr : Str Z h0 sr dsr 2 (tf [y0, y1])) (T_st : Str Z h0 st dst 1 (tf [z0])) :
    MetFree l (⟨"com/example/coordinant/coordinant/Log$Rows", "statement", "(I)Ljava/lang/String;"⟩ : MethodName) (head1 (Jvm.Cond.code (⟨"com/example/coordinant/coordinant/Log$Rows", "statement", "(I)Ljava/lang/String;"⟩ : MethodName) prog_50_method_2_code 4 (some (.object "java/lang/String")) :: ws) ({ frames := 8, cells := 4, slots := 41, locals := 163 } : Room)) (fun a U => a = #[(.ref a1), (.int cnt)] ∧ Z.Warmed39 U.vm ∧ U.heap = h0) (fun _ _ _ _ _ => True) (fun _ U o U' => ∃ v L, o = .returned v ∧ Q_stm0 Z a1 cnt sh sr st dsh dsr dst x0 y0 y1 z0 cs h0 n0 v U'.heap L ∧ FrameEnd U o U' L ({ frames := 8, cells := 4, slots := 41, locals := 163 } : Room).cells ({ frames := 8, cells := 4, slots := 41, locals := 163 } : Room).slots) := by
  refine MetFree.of_bodySF (plainFor_of_name pn_7) hisR ?_
  intro p e s m args below meth c s₁ Bd hml0 hP hK
  obtain ⟨rfl, hZ, hh⟩ := hP
  have hx := Bd.exec
  have hby := Bd.bytes
  have hml : c.maxLocals = 4 := hml0
  have hown : s.vm.findClass "com/example/coordinant/coordinant/Log$Rows" = some m.cls := findClass_of_methodNamed Bd.named
  have hnm := (name_of_methodNamed Bd.named Bd.method).1
  have X0 : Stand p l e ({ frames := 8, cells := 4, slots := 41, locals := 163 } : Room) s m #[(.ref a1), (.int cnt)] below meth c s₁ [] 0 0 := Stand.of_body Bd
  have e0 : s₁.heap = h0 := by rw [← hh, Bd.state]; rfl
  have N0 := Fr.nil n0
  have eF : entryFrame m #[(.ref a1), (.int cnt)] 4 = mkF m 0 #[.val (.ref a1), .val (.int cnt), .unset, .unset] [] := by first | (simp [entryFrame, mkF, argsToLocals, Value.category]; done) | rfl
  show Ends p e below s ({ frames := 8, cells := 4, slots := 41, locals := 163 } : Room) (Q_stm0 Z a1 cnt sh sr st dsh dsr dst x0 y0 y1 z0 cs h0 n0) (s₁.setTop (entryFrame m #[(.ref a1), (.int cnt)] 4))
  rw [eF]
  have N0 := Fr.nil h0.size
  have OH : Oll Z h0.size h0 := ⟨O.2.1, O.2⟩
  obtain ⟨T89, h89, X89, e89, E89, A89, D89, -, st89⟩ := newO X0 hx hZ hown (hw _ (List.mem_of_getElem? (i := 69) rfl)) (hw _ (List.mem_of_getElem? (i := 70) rfl)) (hw _ (List.mem_of_getElem? (i := 71) rfl)) e0 (g := (mkF m 0 #[.val (.ref a1), .val (.int cnt), .unset, .unset] [])) rfl (hb hby d13_0) (by decide) (by decide)
  obtain ⟨b89, g89⟩ : ∃ z, z = h0.size := ⟨_, rfl⟩
  rw [← g89] at A89 D89 st89
  have F_coder_b89 : Fld Z h89 b89 "java/lang/AbstractStringBuilder" "coder" "B" (.int (0 : Int32)) := D89 (Or.inl (hw _ (List.mem_of_getElem? (i := 95) rfl))) (ty := .byte) (by decide)
  have F_value_b89 : Fld Z h89 b89 "java/lang/AbstractStringBuilder" "value" "[B" .null := D89 (Or.inl (hw _ (List.mem_of_getElem? (i := 97) rfl))) (ty := (.array .byte)) (by decide)
  have F_count_b89 : Fld Z h89 b89 "java/lang/AbstractStringBuilder" "count" "I" (.int (0 : Int32)) := D89 (Or.inl (hw _ (List.mem_of_getElem? (i := 113) rfl))) (ty := .int) (by decide)
  refine Ends.of st89 ?_
  have Z1 : h0.size ≤ h89.size := E89.1
  have gs : h0.size ≤ b89 := Nat.le_of_eq g89.symm
  have l_sh : sh < b89 := Nat.lt_of_lt_of_le T_sh.1.lt gs
  have ld_sh : dsh < b89 := Nat.lt_of_lt_of_le T_sh.2.2.2.lt gs
  have l_sr : sr < b89 := Nat.lt_of_lt_of_le T_sr.1.lt gs
  have ld_sr : dsr < b89 := Nat.lt_of_lt_of_le T_sr.2.2.2.lt gs
  have l_st : st < b89 := Nat.lt_of_lt_of_le T_st.1.lt gs
  have ld_st : dst < b89 := Nat.lt_of_lt_of_le T_st.2.2.2.lt gs
  have n_a : a1 < h0.size := F_head.lt
  refine Ends.of (F' := T89.setTop (mkF m 5 #[.val (.ref a1), .val (.int cnt), .unset, .unset] [(.ref a1), (.ref b89), (.ref b89)])) (fun _ kt => ?_) ?_
  · show Steps p.tables e below (T89.setTop (mkF m 3 #[.val (.ref a1), .val (.int cnt), .unset, .unset] [(.ref b89)])) _
    refine XS.dup X89.here hx rfl (hb hby d13_3) rfl rfl ?_
    show Steps p.tables e below (T89.setTop (mkF m 4 #[.val (.ref a1), .val (.int cnt), .unset, .unset] [(.ref b89), (.ref b89)])) _
    refine XS.aloadN X89.here hx rfl (hb hby d13_4) rfl rfl ?_
    exact kt
  obtain ⟨T90, X90, e90, st90⟩ := getF X89 hx hZ hown (host := "") (Or.inl (hw _ (List.mem_of_getElem? (i := 56) rfl))) Via.refl e89 (F_head.ext E89) (g := (mkF m 5 #[.val (.ref a1), .val (.int cnt), .unset, .unset] [(.ref a1), (.ref b89), (.ref b89)])) rfl rfl (hb hby d13_5)
  refine Ends.of st90 ?_
  obtain ⟨_, _, ⟨T91, L91, k91, n91⟩, -, X91, ⟨Lc91, hQ91, l91, y91, z91⟩, st91⟩ := X90.specialBack hx (y := (⟨"java/lang/StringBuilder", "<init>", "(Ljava/lang/String;)V"⟩ : MethodName)) rfl hown (mvT hZ (hw _ (List.mem_of_getElem? (i := 72) rfl))) (mvT hZ (hw _ (List.mem_of_getElem? (i := 73) rfl))) (mvT hZ (hw _ (List.mem_of_getElem? (i := 74) rfl))) (by decide) (backOf (W := 1) (sb_initS l Z a0 hw [] b89 sh dsh (tf [x0]) cs h89 h0.size Z1 S0 hcs (OH.ext E89) A89 F_value_b89 F_coder_b89 F_count_b89 (T_sh.ext E89) gs (Nat.ne_of_lt l_sh) (Nat.ne_of_lt ld_sh)) hZ (hw _ (List.mem_of_getElem? (i := 74) rfl)) (hw _ (List.mem_of_getElem? (i := 71) rfl)) (by decide) (by decide)) (g := (mkF m 8 #[.val (.ref a1), .val (.int cnt), .unset, .unset] [(.ref sh), (.ref b89), (.ref b89)])) rfl (by rw [hml]; rfl) (Steps.refl _) (a := b89) (argsL := [(.ref sh)]) (rest := [(.ref b89)]) (lenOf pd_12 rfl) rfl (by show 2 * 0 + _ ≤ _; exact Nat.le_of_eq rfl) (hb hby d13_8) (fun _ _ => ⟨rfl, e90, (by decide : 1 + 1 ≤ _), (by decide : 4 + 17 ≤ _)⟩)
  dsimp only [Pt.U, Pt.locs, Pt.cells, Pt.slots] at X91 l91 y91 z91 st91 hQ91
  subst l91 y91 z91
  obtain ⟨rfl, N91q, K91, b, Fi91, gb91⟩ := hQ91
  have N91 := Fr.app N0 N91q
  refine Ends.st st91 ?_
  have Fs0 : SBd Z T91.heap b89 b 17 [x0].length (tf [x0]) := by
    have e := own_cat [] [x0]
    have e0 : tf [] = fun _ => (0 : Int32) := by funext i; simp [tf]
    rw [e0] at e
    exact (e ▸ Fi91 : SBd Z T91.heap b89 b 17 1 (tf ([] ++ [x0])))
  have gb : h0.size ≤ b := Nat.le_trans Z1 gb91
  have K0 : Keep h0 T91.heap [] := ((Keep.refl h0 []).ext E89).trans K91 (allS (Or.inr gs) all0)
  have Zs0 : h0.size ≤ T91.heap.size := K0.1
  have Os0 := OH.keep K0 all0
  refine Ends.of (F' := T91.setTop (mkF m 12 #[.val (.ref a1), .val (.int cnt), .unset, .unset] [(.ref a1), (.ref b89)])) (fun _ kt => ?_) ?_
  · show Steps p.tables e below (T91.setTop (mkF m 11 #[.val (.ref a1), .val (.int cnt), .unset, .unset] [(.ref b89)])) _
    refine XS.aloadN X91.here hx rfl (hb hby d13_11) rfl rfl ?_
    exact kt
  obtain ⟨T92, X92, e92, st92⟩ := getF X91 hx hZ hown (host := "") (Or.inl (hw _ (List.mem_of_getElem? (i := 58) rfl))) Via.refl rfl (F_row.keep K0 nin0) (g := (mkF m 12 #[.val (.ref a1), .val (.int cnt), .unset, .unset] [(.ref a1), (.ref b89)])) rfl rfl (hb hby d13_12)
  refine Ends.of st92 ?_
  obtain ⟨cq93, kq93, q93a, q93b, q93c⟩ := isOf hZ e92 Fs0.1
  obtain ⟨_, _, ⟨T93, L93, k93, n93⟩, -, X93, ⟨Lc93, hQ93, l93, y93, z93⟩, st93⟩ := X92.virtualBack hx (y := (⟨"java/lang/StringBuilder", "append", "(Ljava/lang/String;)Ljava/lang/StringBuilder;"⟩ : MethodName)) (z := (⟨"java/lang/StringBuilder", "append", "(Ljava/lang/String;)Ljava/lang/StringBuilder;"⟩ : MethodName)) hown (mvT hZ (hw _ (List.mem_of_getElem? (i := 139) rfl))) (mvT hZ (hw _ (List.mem_of_getElem? (i := 105) rfl))) (notFace_of_selects (args := #[]) (mvT hZ (hw _ (List.mem_of_getElem? (i := 107) rfl)))) (mvT hZ (hw _ (List.mem_of_getElem? (i := 107) rfl))) (mvT hZ (hw _ (List.mem_of_getElem? (i := 106) rfl))) (by decide) (backOf (W := 0) (sb_appS l Z a0 hw [] b89 b 17 [x0].length (tf [x0]) sr dsr [y0, y1].length (tf [y0, y1]) cs T91.heap h0.size Zs0 S0 hcs Os0 Fs0 (T_sr.keep K0 nin0 nin0) (by simp) gs gb) hZ (hw _ (List.mem_of_getElem? (i := 108) rfl)) (hw _ (List.mem_of_getElem? (i := 71) rfl)) (by decide) (by decide)) q93a q93c (g := (mkF m 15 #[.val (.ref a1), .val (.int cnt), .unset, .unset] [(.ref sr), (.ref b89)])) rfl (by rw [hml]; rfl) (Steps.refl _) (argsL := [(.ref sr)]) (rest := []) (lenOf pd_16 rfl) rfl (by show 2 * 0 + _ ≤ _; exact Nat.le_of_eq rfl) (hb hby d13_15) (fun _ _ => ⟨rfl, e92, (by decide : 2 + 0 ≤ _), (by decide : 21 + 0 ≤ _)⟩)
  dsimp only [Pt.U, Pt.locs, Pt.cells, Pt.slots] at X93 l93 y93 z93 st93 hQ93
  subst l93 y93 z93
  obtain ⟨rfl, N93q, K93, Fx93⟩ := hQ93
  have N93 := Fr.app N91 N93q
  refine Ends.st st93 ?_
  have Fs1 : SBd Z T93.heap b89 b 17 [x0, y0, y1].length (tf [x0, y0, y1]) := SBd.cat Fx93
  have Kk1 : Keep h0 T93.heap [] := K0.trans K93 (allS (Or.inr gs) (allS (Or.inr gb) all0))
  have Zs1 : h0.size ≤ T93.heap.size := Kk1.1
  have Os1 := OH.keep Kk1 all0
  refine Ends.of (F' := T93.setTop (mkF m 48 #[.val (.ref a1), .val (.int cnt), .val (.ref b89), .val (.int (1 : Int32))] [(.ref a1), (.ref b89)])) (fun _ kt => ?_) ?_
  · show Steps p.tables e below (T93.setTop (mkF m 18 #[.val (.ref a1), .val (.int cnt), .unset, .unset] [(.ref b89)])) _
    refine XS.astoreN X93.here hx rfl (hb hby d13_18) rfl rfl (l' := #[.val (.ref a1), .val (.int cnt), .val (.ref b89), .unset]) rfl ?_
    show Steps p.tables e below (T93.setTop (mkF m 19 #[.val (.ref a1), .val (.int cnt), .val (.ref b89), .unset] [])) _
    refine XS.iconst X93.here hx rfl (hb hby d13_19) ?_
    show Steps p.tables e below (T93.setTop (mkF m 20 #[.val (.ref a1), .val (.int cnt), .val (.ref b89), .unset] [(.int (1 : Int32))])) _
    refine XS.istoreN X93.here hx rfl (hb hby d13_20) rfl (l' := #[.val (.ref a1), .val (.int cnt), .val (.ref b89), .val (.int (1 : Int32))]) rfl ?_
    show Steps p.tables e below (T93.setTop (mkF m 21 #[.val (.ref a1), .val (.int cnt), .val (.ref b89), .val (.int (1 : Int32))] [])) _
    refine XS.iloadN X93.here hx rfl (hb hby d13_21) rfl ?_
    show Steps p.tables e below (T93.setTop (mkF m 22 #[.val (.ref a1), .val (.int cnt), .val (.ref b89), .val (.int (1 : Int32))] [(.int (1 : Int32))])) _
    refine XS.iloadN X93.here hx rfl (hb hby d13_22) rfl ?_
    show Steps p.tables e below (T93.setTop (mkF m 23 #[.val (.ref a1), .val (.int cnt), .val (.ref b89), .val (.int (1 : Int32))] [(.int cnt), (.int (1 : Int32))])) _
    refine XS.icmpYes X93.here hx rfl (pc0 := 23) (pc' := 46) rfl (hb hby d13_23) rfl (flt hcnt).2.1 (by decide) (by decide) ?_
    show Steps p.tables e below (T93.setTop (mkF m 46 #[.val (.ref a1), .val (.int cnt), .val (.ref b89), .val (.int (1 : Int32))] [])) _
    refine XS.aloadN X93.here hx rfl (hb hby d13_46) rfl rfl ?_
    show Steps p.tables e below (T93.setTop (mkF m 47 #[.val (.ref a1), .val (.int cnt), .val (.ref b89), .val (.int (1 : Int32))] [(.ref b89)])) _
    refine XS.aloadN X93.here hx rfl (hb hby d13_47) rfl rfl ?_
    exact kt
  obtain ⟨T94, X94, e94, st94⟩ := getF X93 hx hZ hown (host := "") (Or.inl (hw _ (List.mem_of_getElem? (i := 60) rfl))) Via.refl rfl (F_tail.keep Kk1 nin0) (g := (mkF m 48 #[.val (.ref a1), .val (.int cnt), .val (.ref b89), .val (.int (1 : Int32))] [(.ref a1), (.ref b89)])) rfl rfl (hb hby d13_48)
  refine Ends.of st94 ?_
  obtain ⟨cq95, kq95, q95a, q95b, q95c⟩ := isOf hZ e94 Fs1.1
  obtain ⟨_, _, ⟨T95, L95, k95, n95⟩, -, X95, ⟨Lc95, hQ95, l95, y95, z95⟩, st95⟩ := X94.virtualBack hx (y := (⟨"java/lang/StringBuilder", "append", "(Ljava/lang/String;)Ljava/lang/StringBuilder;"⟩ : MethodName)) (z := (⟨"java/lang/StringBuilder", "append", "(Ljava/lang/String;)Ljava/lang/StringBuilder;"⟩ : MethodName)) hown (mvT hZ (hw _ (List.mem_of_getElem? (i := 139) rfl))) (mvT hZ (hw _ (List.mem_of_getElem? (i := 105) rfl))) (notFace_of_selects (args := #[]) (mvT hZ (hw _ (List.mem_of_getElem? (i := 107) rfl)))) (mvT hZ (hw _ (List.mem_of_getElem? (i := 107) rfl))) (mvT hZ (hw _ (List.mem_of_getElem? (i := 106) rfl))) (by decide) (backOf (W := 0) (sb_appS l Z a0 hw [] b89 b 17 [x0, y0, y1].length (tf [x0, y0, y1]) st dst [z0].length (tf [z0]) cs T93.heap h0.size Zs1 S0 hcs Os1 Fs1 (T_st.keep Kk1 nin0 nin0) (by simp) gs gb) hZ (hw _ (List.mem_of_getElem? (i := 108) rfl)) (hw _ (List.mem_of_getElem? (i := 71) rfl)) (by decide) (by decide)) q95a q95c (g := (mkF m 51 #[.val (.ref a1), .val (.int cnt), .val (.ref b89), .val (.int (1 : Int32))] [(.ref st), (.ref b89)])) rfl (by rw [hml]; rfl) (Steps.refl _) (argsL := [(.ref st)]) (rest := []) (lenOf pd_16 rfl) rfl (by show 2 * 0 + _ ≤ _; exact Nat.le_of_eq rfl) (hb hby d13_51) (fun _ _ => ⟨rfl, e94, (by decide : 2 + 0 ≤ _), (by decide : 21 + 0 ≤ _)⟩)
  dsimp only [Pt.U, Pt.locs, Pt.cells, Pt.slots] at X95 l95 y95 z95 st95 hQ95
  subst l95 y95 z95
  obtain ⟨rfl, N95q, K95, Fx95⟩ := hQ95
  have N95 := Fr.app N93 N95q
  refine Ends.st st95 ?_
  have Fs2 : SBd Z T95.heap b89 b 17 [x0, y0, y1, z0].length (tf [x0, y0, y1, z0]) := SBd.cat Fx95
  have Kk2 : Keep h0 T95.heap [] := Kk1.trans K95 (allS (Or.inr gs) (allS (Or.inr gb) all0))
  have Zs2 : h0.size ≤ T95.heap.size := Kk2.1
  have Os2 := OH.keep Kk2 all0
  obtain ⟨cq96, kq96, q96a, q96b, q96c⟩ := isOf hZ rfl Fs2.1
  obtain ⟨_, _, ⟨T96, L96, k96, n96⟩, -, X96, ⟨Lc96, hQ96, l96, y96, z96⟩, st96⟩ := X95.virtualBack hx (y := (⟨"java/lang/StringBuilder", "toString", "()Ljava/lang/String;"⟩ : MethodName)) (z := (⟨"java/lang/StringBuilder", "toString", "()Ljava/lang/String;"⟩ : MethodName)) hown (mvT hZ (hw _ (List.mem_of_getElem? (i := 140) rfl))) (mvT hZ (hw _ (List.mem_of_getElem? (i := 141) rfl))) (notFace_of_selects (args := #[]) (mvT hZ (hw _ (List.mem_of_getElem? (i := 143) rfl)))) (mvT hZ (hw _ (List.mem_of_getElem? (i := 143) rfl))) (mvT hZ (hw _ (List.mem_of_getElem? (i := 142) rfl))) (by decide) (backOf (W := 0) (sb_str l Z a0 hw [] b89 b 17 [x0, y0, y1, z0].length (tf [x0, y0, y1, z0]) cs T95.heap h0.size Zs2 S0 hcs Os2 Fs2 (by simp) (by simp)) hZ (hw _ (List.mem_of_getElem? (i := 144) rfl)) (hw _ (List.mem_of_getElem? (i := 71) rfl)) (by decide) (by decide)) q96a q96c (g := (mkF m 54 #[.val (.ref a1), .val (.int cnt), .val (.ref b89), .val (.int (1 : Int32))] [(.ref b89)])) rfl (by rw [hml]; rfl) (Steps.refl _) (argsL := []) (rest := []) (lenOf pd_21 rfl) rfl (by show 2 * 0 + _ ≤ _; exact Nat.le_of_eq rfl) (hb hby d13_54) (fun _ _ => ⟨rfl, rfl, (by decide : 2 + 2 ≤ _), (by decide : 21 + 20 ≤ _)⟩)
  dsimp only [Pt.U, Pt.locs, Pt.cells, Pt.slots] at X96 l96 y96 z96 st96 hQ96
  subst l96 y96 z96
  obtain ⟨d96, rfl, N96q, K96, St96, gd96⟩ := hQ96
  have N96 := Fr.app N95 N96q
  refine Ends.st st96 ?_
  have Ke : Keep h0 T96.heap [] := Kk2.trans K96 all0
  obtain ⟨fs, hr, hrun, hended, hW, hsame⟩ := X96.leave (v := some (.ref T95.heap.size)) (fun h => by rw [Bd.returns] at h; cases h)
  refine ⟨_, _, ?_, hrun, hended, _, _, rfl, ⟨_, d96, rfl, own_frm Z0 N96, Ke, St96⟩, ⟨_, rfl⟩, hW, hsame.mono (by decide) (by decide)⟩
  show Steps p.tables e below (T96.setTop (mkF m 57 #[.val (.ref a1), .val (.int cnt), .val (.ref b89), .val (.int (1 : Int32))] [(.ref T95.heap.size)])) _
  jvm_step X96.here [X96.here.top, hx, (hb hby d13_57), X96.method', Bd.returns, Value.isRef, FieldType.isReference]
  first | (intro acts; rw [hr _ acts rfl rfl rfl]) | rw [hr _ _ rfl rfl rfl]
  exact Steps.refl _
def Q_stm2 (Z : State) (a1 : Addr) (sh : Addr) (sr : Addr) (st : Addr) (dsh : Addr) (dsr : Addr) (dst : Addr) (x0 : Int32) (y0 : Int32) (y1 : Int32) (z0 : Int32) (cs : Int32) (h0 : Heap) (n0 : Nat) (v : Option Value) (h : Heap) (L : List Loc) : Prop := ∃ u d : Addr, v = some (.ref u) ∧ Fr n0 L ∧ Keep h0 h [] ∧ Str Z h u d 8 (tf [x0, y0, y1, (44 : Int32), (32 : Int32), y0, y1, z0])
set_option maxRecDepth 65536 in
set_option maxHeartbeats 40000000 in
theorem stm2 (l : Launch) (Z : State) (a0 : Array Value) (hw : ∀ d ∈ tables_1, d.before a0 Z = true) (ws : List Jvm.Cond) (a1 : Addr) (sh : Addr) (sr : Addr) (st : Addr) (dsh : Addr) (dsr : Addr) (dst : Addr) (x0 : Int32) (y0 : Int32) (y1 : Int32) (z0 : Int32) (cs : Int32) (h0 : Heap) (n0 : Nat) (Z0 : n0 ≤ h0.size) (S0 : Sta Z Z.heap "java/lang/String" "COMPACT_STRINGS" "Z" (.int cs)) (hcs : ¬ cs = (0 : Int32)) (O : Oll Z n0 h0) (F_head : Fld Z h0 a1 "com/example/coordinant/coordinant/Log$Rows" "head" "Ljava/lang/String;" (.ref sh)) (F_row : Fld Z h0 a1 "com/example/coordinant/coordinant/Log$Rows" "row" "Ljava/lang/String;" (.ref sr)) (F_tail : Fld Z h0 a1 "com/example/coordinant/coordinant/Log$Rows" "tail" "Ljava/lang/String;" (.ref st)) (T_sh : Str Z h0 sh dsh 1 (tf [x0])) (T_sr : Str Z h0 sr dsr 2 (tf [y0, y1])) (T_st : Str Z h0 st dst 1 (tf [z0])) (hh0 : ∀ q ∈ consts_1, Jvm.Lit.constHeld Z q.1 q.2) (hcw : Jvm.Lit.compactW.before a0 Z = true) :
    MetFree l (⟨"com/example/coordinant/coordinant/Log$Rows", "statement", "(I)Ljava/lang/String;"⟩ : MethodName) (head1 (Jvm.Cond.code (⟨"com/example/coordinant/coordinant/Log$Rows", "statement", "(I)Ljava/lang/String;"⟩ : MethodName) prog_50_method_2_code 4 (some (.object "java/lang/String")) :: ws) ({ frames := 8, cells := 6, slots := 53, locals := 163 } : Room)) (fun a U => a = #[(.ref a1), (.int (2 : Int32))] ∧ Z.Warmed39 U.vm ∧ U.heap = h0 ∧ U.vm.interned = Z.vm.interned) (fun _ _ _ _ _ => True) (fun _ U o U' => ∃ v L, o = .returned v ∧ Q_stm2 Z a1 sh sr st dsh dsr dst x0 y0 y1 z0 cs h0 n0 v U'.heap L ∧ ReturnedEndW U o U' L ({ frames := 8, cells := 6, slots := 53, locals := 163 } : Room).cells ({ frames := 8, cells := 6, slots := 53, locals := 163 } : Room).slots) := by
  refine MetFree.of_bodySF (plainFor_of_name pn_7) hisR ?_
  intro p e s m args below meth c s₁ Bd hml0 hP hK
  obtain ⟨rfl, hZ, hh, hIn⟩ := hP
  have hx := Bd.exec
  have hby := Bd.bytes
  have hml : c.maxLocals = 4 := hml0
  have hown : s.vm.findClass "com/example/coordinant/coordinant/Log$Rows" = some m.cls := findClass_of_methodNamed Bd.named
  have hnm := (name_of_methodNamed Bd.named Bd.method).1
  have X0 : Stand p l e ({ frames := 8, cells := 6, slots := 53, locals := 163 } : Room) s m #[(.ref a1), (.int (2 : Int32))] below meth c s₁ [] 0 0 := Stand.of_body Bd
  have e0 : s₁.heap = h0 := by rw [← hh, Bd.state]; rfl
  have N0 := Fr.nil n0
  have eF : entryFrame m #[(.ref a1), (.int (2 : Int32))] 4 = mkF m 0 #[.val (.ref a1), .val (.int (2 : Int32)), .unset, .unset] [] := by first | (simp [entryFrame, mkF, argsToLocals, Value.category]; done) | rfl
  show EndsW p e below s ({ frames := 8, cells := 6, slots := 53, locals := 163 } : Room) (Q_stm2 Z a1 sh sr st dsh dsr dst x0 y0 y1 z0 cs h0 n0) (s₁.setTop (entryFrame m #[(.ref a1), (.int (2 : Int32))] 4))
  rw [eF]
  have N0 := Fr.nil h0.size
  have OH : Oll Z h0.size h0 := ⟨O.2.1, O.2⟩
  obtain ⟨T97, h97, X97, e97, E97, A97, D97, -, st97⟩ := newO X0 hx hZ hown (hw _ (List.mem_of_getElem? (i := 69) rfl)) (hw _ (List.mem_of_getElem? (i := 70) rfl)) (hw _ (List.mem_of_getElem? (i := 71) rfl)) e0 (g := (mkF m 0 #[.val (.ref a1), .val (.int (2 : Int32)), .unset, .unset] [])) rfl (hb hby d13_0) (by decide) (by decide)
  obtain ⟨b97, g97⟩ : ∃ z, z = h0.size := ⟨_, rfl⟩
  rw [← g97] at A97 D97 st97
  have F_coder_b97 : Fld Z h97 b97 "java/lang/AbstractStringBuilder" "coder" "B" (.int (0 : Int32)) := D97 (Or.inl (hw _ (List.mem_of_getElem? (i := 95) rfl))) (ty := .byte) (by decide)
  have F_value_b97 : Fld Z h97 b97 "java/lang/AbstractStringBuilder" "value" "[B" .null := D97 (Or.inl (hw _ (List.mem_of_getElem? (i := 97) rfl))) (ty := (.array .byte)) (by decide)
  have F_count_b97 : Fld Z h97 b97 "java/lang/AbstractStringBuilder" "count" "I" (.int (0 : Int32)) := D97 (Or.inl (hw _ (List.mem_of_getElem? (i := 113) rfl))) (ty := .int) (by decide)
  refine EndsW.of st97 ?_
  have Z1 : h0.size ≤ h97.size := E97.1
  have gs : h0.size ≤ b97 := Nat.le_of_eq g97.symm
  have l_sh : sh < b97 := Nat.lt_of_lt_of_le T_sh.1.lt gs
  have ld_sh : dsh < b97 := Nat.lt_of_lt_of_le T_sh.2.2.2.lt gs
  have l_sr : sr < b97 := Nat.lt_of_lt_of_le T_sr.1.lt gs
  have ld_sr : dsr < b97 := Nat.lt_of_lt_of_le T_sr.2.2.2.lt gs
  have l_st : st < b97 := Nat.lt_of_lt_of_le T_st.1.lt gs
  have ld_st : dst < b97 := Nat.lt_of_lt_of_le T_st.2.2.2.lt gs
  have n_a : a1 < h0.size := F_head.lt
  refine EndsW.of (F' := T97.setTop (mkF m 5 #[.val (.ref a1), .val (.int (2 : Int32)), .unset, .unset] [(.ref a1), (.ref b97), (.ref b97)])) (fun _ kt => ?_) ?_
  · show Steps p.tables e below (T97.setTop (mkF m 3 #[.val (.ref a1), .val (.int (2 : Int32)), .unset, .unset] [(.ref b97)])) _
    refine XS.dup X97.here hx rfl (hb hby d13_3) rfl rfl ?_
    show Steps p.tables e below (T97.setTop (mkF m 4 #[.val (.ref a1), .val (.int (2 : Int32)), .unset, .unset] [(.ref b97), (.ref b97)])) _
    refine XS.aloadN X97.here hx rfl (hb hby d13_4) rfl rfl ?_
    exact kt
  obtain ⟨T98, X98, e98, st98⟩ := getF X97 hx hZ hown (host := "") (Or.inl (hw _ (List.mem_of_getElem? (i := 56) rfl))) Via.refl e97 (F_head.ext E97) (g := (mkF m 5 #[.val (.ref a1), .val (.int (2 : Int32)), .unset, .unset] [(.ref a1), (.ref b97), (.ref b97)])) rfl rfl (hb hby d13_5)
  refine EndsW.of st98 ?_
  obtain ⟨_, _, ⟨T99, L99, k99, n99⟩, -, X99, ⟨Lc99, hQ99, l99, y99, z99⟩, st99⟩ := X98.specialBack hx (y := (⟨"java/lang/StringBuilder", "<init>", "(Ljava/lang/String;)V"⟩ : MethodName)) rfl hown (mvT hZ (hw _ (List.mem_of_getElem? (i := 72) rfl))) (mvT hZ (hw _ (List.mem_of_getElem? (i := 73) rfl))) (mvT hZ (hw _ (List.mem_of_getElem? (i := 74) rfl))) (by decide) (backOf (W := 1) (sb_initS l Z a0 hw [] b97 sh dsh (tf [x0]) cs h97 h0.size Z1 S0 hcs (OH.ext E97) A97 F_value_b97 F_coder_b97 F_count_b97 (T_sh.ext E97) gs (Nat.ne_of_lt l_sh) (Nat.ne_of_lt ld_sh)) hZ (hw _ (List.mem_of_getElem? (i := 74) rfl)) (hw _ (List.mem_of_getElem? (i := 71) rfl)) (by decide) (by decide)) (g := (mkF m 8 #[.val (.ref a1), .val (.int (2 : Int32)), .unset, .unset] [(.ref sh), (.ref b97), (.ref b97)])) rfl (by rw [hml]; rfl) (Steps.refl _) (a := b97) (argsL := [(.ref sh)]) (rest := [(.ref b97)]) (lenOf pd_12 rfl) rfl (by show 2 * 0 + _ ≤ _; exact Nat.le_of_eq rfl) (hb hby d13_8) (fun _ _ => ⟨rfl, e98, (by decide : 1 + 1 ≤ _), (by decide : 4 + 17 ≤ _)⟩)
  dsimp only [Pt.U, Pt.locs, Pt.cells, Pt.slots] at X99 l99 y99 z99 st99 hQ99
  subst l99 y99 z99
  obtain ⟨rfl, N99q, K99, b, Fi99, gb99⟩ := hQ99
  have N99 := Fr.app N0 N99q
  refine EndsW.st st99 ?_
  have Fs0 : SBd Z T99.heap b97 b 17 [x0].length (tf [x0]) := by
    have e := own_cat [] [x0]
    have e0 : tf [] = fun _ => (0 : Int32) := by funext i; simp [tf]
    rw [e0] at e
    exact (e ▸ Fi99 : SBd Z T99.heap b97 b 17 1 (tf ([] ++ [x0])))
  have gb : h0.size ≤ b := Nat.le_trans Z1 gb99
  have K0 : Keep h0 T99.heap [] := ((Keep.refl h0 []).ext E97).trans K99 (allS (Or.inr gs) all0)
  have Zs0 : h0.size ≤ T99.heap.size := K0.1
  have Os0 := OH.keep K0 all0
  refine EndsW.of (F' := T99.setTop (mkF m 12 #[.val (.ref a1), .val (.int (2 : Int32)), .unset, .unset] [(.ref a1), (.ref b97)])) (fun _ kt => ?_) ?_
  · show Steps p.tables e below (T99.setTop (mkF m 11 #[.val (.ref a1), .val (.int (2 : Int32)), .unset, .unset] [(.ref b97)])) _
    refine XS.aloadN X99.here hx rfl (hb hby d13_11) rfl rfl ?_
    exact kt
  obtain ⟨T100, X100, e100, st100⟩ := getF X99 hx hZ hown (host := "") (Or.inl (hw _ (List.mem_of_getElem? (i := 58) rfl))) Via.refl rfl (F_row.keep K0 nin0) (g := (mkF m 12 #[.val (.ref a1), .val (.int (2 : Int32)), .unset, .unset] [(.ref a1), (.ref b97)])) rfl rfl (hb hby d13_12)
  refine EndsW.of st100 ?_
  obtain ⟨cq101, kq101, q101a, q101b, q101c⟩ := isOf hZ e100 Fs0.1
  obtain ⟨_, _, ⟨T101, L101, k101, n101⟩, -, X101, ⟨Lc101, hQ101, l101, y101, z101⟩, st101⟩ := X100.virtualBack hx (y := (⟨"java/lang/StringBuilder", "append", "(Ljava/lang/String;)Ljava/lang/StringBuilder;"⟩ : MethodName)) (z := (⟨"java/lang/StringBuilder", "append", "(Ljava/lang/String;)Ljava/lang/StringBuilder;"⟩ : MethodName)) hown (mvT hZ (hw _ (List.mem_of_getElem? (i := 139) rfl))) (mvT hZ (hw _ (List.mem_of_getElem? (i := 105) rfl))) (notFace_of_selects (args := #[]) (mvT hZ (hw _ (List.mem_of_getElem? (i := 107) rfl)))) (mvT hZ (hw _ (List.mem_of_getElem? (i := 107) rfl))) (mvT hZ (hw _ (List.mem_of_getElem? (i := 106) rfl))) (by decide) (backOf (W := 0) (sb_appS l Z a0 hw [] b97 b 17 [x0].length (tf [x0]) sr dsr [y0, y1].length (tf [y0, y1]) cs T99.heap h0.size Zs0 S0 hcs Os0 Fs0 (T_sr.keep K0 nin0 nin0) (by simp) gs gb) hZ (hw _ (List.mem_of_getElem? (i := 108) rfl)) (hw _ (List.mem_of_getElem? (i := 71) rfl)) (by decide) (by decide)) q101a q101c (g := (mkF m 15 #[.val (.ref a1), .val (.int (2 : Int32)), .unset, .unset] [(.ref sr), (.ref b97)])) rfl (by rw [hml]; rfl) (Steps.refl _) (argsL := [(.ref sr)]) (rest := []) (lenOf pd_16 rfl) rfl (by show 2 * 0 + _ ≤ _; exact Nat.le_of_eq rfl) (hb hby d13_15) (fun _ _ => ⟨rfl, e100, (by decide : 2 + 0 ≤ _), (by decide : 21 + 0 ≤ _)⟩)
  dsimp only [Pt.U, Pt.locs, Pt.cells, Pt.slots] at X101 l101 y101 z101 st101 hQ101
  subst l101 y101 z101
  obtain ⟨rfl, N101q, K101, Fx101⟩ := hQ101
  have N101 := Fr.app N99 N101q
  refine EndsW.st st101 ?_
  have Fs1 : SBd Z T101.heap b97 b 17 [x0, y0, y1].length (tf [x0, y0, y1]) := SBd.cat Fx101
  have Kk1 : Keep h0 T101.heap [] := K0.trans K101 (allS (Or.inr gs) (allS (Or.inr gb) all0))
  have Zs1 : h0.size ≤ T101.heap.size := Kk1.1
  have Os1 := OH.keep Kk1 all0
  refine EndsW.of (F' := T101.setTop (mkF m 27 #[.val (.ref a1), .val (.int (2 : Int32)), .val (.ref b97), .val (.int (1 : Int32))] [(.ref b97)])) (fun _ kt => ?_) ?_
  · show Steps p.tables e below (T101.setTop (mkF m 18 #[.val (.ref a1), .val (.int (2 : Int32)), .unset, .unset] [(.ref b97)])) _
    refine XS.astoreN X101.here hx rfl (hb hby d13_18) rfl rfl (l' := #[.val (.ref a1), .val (.int (2 : Int32)), .val (.ref b97), .unset]) rfl ?_
    show Steps p.tables e below (T101.setTop (mkF m 19 #[.val (.ref a1), .val (.int (2 : Int32)), .val (.ref b97), .unset] [])) _
    refine XS.iconst X101.here hx rfl (hb hby d13_19) ?_
    show Steps p.tables e below (T101.setTop (mkF m 20 #[.val (.ref a1), .val (.int (2 : Int32)), .val (.ref b97), .unset] [(.int (1 : Int32))])) _
    refine XS.istoreN X101.here hx rfl (hb hby d13_20) rfl (l' := #[.val (.ref a1), .val (.int (2 : Int32)), .val (.ref b97), .val (.int (1 : Int32))]) rfl ?_
    show Steps p.tables e below (T101.setTop (mkF m 21 #[.val (.ref a1), .val (.int (2 : Int32)), .val (.ref b97), .val (.int (1 : Int32))] [])) _
    refine XS.iloadN X101.here hx rfl (hb hby d13_21) rfl ?_
    show Steps p.tables e below (T101.setTop (mkF m 22 #[.val (.ref a1), .val (.int (2 : Int32)), .val (.ref b97), .val (.int (1 : Int32))] [(.int (1 : Int32))])) _
    refine XS.iloadN X101.here hx rfl (hb hby d13_22) rfl ?_
    show Steps p.tables e below (T101.setTop (mkF m 23 #[.val (.ref a1), .val (.int (2 : Int32)), .val (.ref b97), .val (.int (1 : Int32))] [(.int (2 : Int32)), (.int (1 : Int32))])) _
    refine XS.icmpNo X101.here hx rfl (hb hby d13_23) rfl (tlt (by decide)).2.1 ?_
    show Steps p.tables e below (T101.setTop (mkF m 26 #[.val (.ref a1), .val (.int (2 : Int32)), .val (.ref b97), .val (.int (1 : Int32))] [])) _
    refine XS.aloadN X101.here hx rfl (hb hby d13_26) rfl rfl ?_
    exact kt
  have wS : ∀ q ∈ Bundle.stringAtoms, q.before a0 Z = true := fun q hq => by
    simp only [Bundle.stringAtoms, List.mem_cons, List.not_mem_nil, or_false] at hq
    rcases hq with rfl | rfl | rfl | rfl | rfl | rfl | rfl
    · exact (hw _ (List.mem_of_getElem? (i := 2) rfl))
    · exact (hw _ (List.mem_of_getElem? (i := 10) rfl))
    · exact (hw _ (List.mem_of_getElem? (i := 14) rfl))
    · exact (hw _ (List.mem_of_getElem? (i := 23) rfl))
    · exact (hw _ (List.mem_of_getElem? (i := 25) rfl))
    · exact (hw _ (List.mem_of_getElem? (i := 194) rfl))
    · exact (hw _ (List.mem_of_getElem? (i := 195) rfl))
  have hkeep : ∀ (b : Addr) (cl : Cell), Z.heap[b]? = some cl → s.heap[b]? = some cl := fun b cl q => by rw [hh]; exact O.2.2 b cl q
  have hI0 : IB Z s.vm [] := ⟨#[], by simp [hIn], fun q hq => by simp at hq⟩
  have hS0 : s.Since s.vm s.heap.size := (State.WarmedH.refl s).since _
  have hh9 : h0.size = s.heap.size := by rw [hh]
  have N9 := own_frm (Nat.le_of_eq hh9.symm) N101
  have hk9 : s.heap.size ≤ T101.heap.size := by rw [hh]; exact Zs1
  have lsb := Fs1.1.lt
  have lbb := Fs1.2.2.2.2.1.lt
  obtain ⟨u2, T102, h102, k102, v2, c102, X102, e102, E102, hS, hk, hZ, hown, Ex102, Fc102, Fv102, Av102, lu102, lv102, I102, Li, wh, st102⟩ := ldcSVd (s := s) (vm0 := s.vm) (Z := Z) (own := "com/example/coordinant/coordinant/Log$Rows") (text := ", ") (index := 32) X101 hx hZ hown (hw _ (List.mem_of_getElem? (i := 193) rfl)) wS rfl hS0 hk9 N9 hkeep hI0 (by simp) (hh0 ("com/example/coordinant/coordinant/Log$Rows", 32) (List.mem_of_getElem? (i := 0) rfl)) hcw (vs := (List.range 2).map fun i => Value.int (tf [(44 : Int32), (32 : Int32)] i)) (z := Int32.ofNat 2) ⟨by decide +kernel, by rfl⟩ (by decide) (by decide) (g := (mkF m 27 #[.val (.ref a1), .val (.int (2 : Int32)), .val (.ref b97), .val (.int (1 : Int32))] [(.ref b97)])) rfl (hb hby d13_27) (n := 8) (by decide) (by decide) (by decide) (by decide)
  rw [hh] at wh
  refine EndsW.of st102 ?_
  have Lx : Str Z h102 u2 v2 2 (tf [(44 : Int32), (32 : Int32)]) := ⟨Ex102, Fc102, Fv102, by decide, c102, Av102⟩
  have nus : u2 ∉ [b97, b] := ninS (own_ne3 gs lsb (wh.imp And.left And.left)) (ninS (own_ne3 gb lbb (wh.imp And.left And.left)) nin0)
  have nvs : v2 ∉ [b97, b] := ninS (own_ne3 gs lsb (wh.imp And.right And.right)) (ninS (own_ne3 gb lbb (wh.imp And.right And.right)) nin0)
  have Fs2 := Fs1.ext E102
  have Kk2 : Keep h0 h102 [] := Kk1.ext E102
  have Zs2 : h0.size ≤ h102.size := Kk2.1
  have Os2 := OH.keep Kk2 all0
  have gL0 : h102.size ≤ h102.size := Nat.le_refl _
  obtain ⟨cq103, kq103, q103a, q103b, q103c⟩ := isOf hZ e102 Fs2.1
  obtain ⟨_, _, ⟨T103, L103, k103, n103⟩, -, X103, ⟨Lc103, hQ103, l103, y103, z103⟩, st103⟩ := X102.virtualBack hx (y := (⟨"java/lang/StringBuilder", "append", "(Ljava/lang/String;)Ljava/lang/StringBuilder;"⟩ : MethodName)) (z := (⟨"java/lang/StringBuilder", "append", "(Ljava/lang/String;)Ljava/lang/StringBuilder;"⟩ : MethodName)) hown (mvT hZ (hw _ (List.mem_of_getElem? (i := 139) rfl))) (mvT hZ (hw _ (List.mem_of_getElem? (i := 105) rfl))) (notFace_of_selects (args := #[]) (mvT hZ (hw _ (List.mem_of_getElem? (i := 107) rfl)))) (mvT hZ (hw _ (List.mem_of_getElem? (i := 107) rfl))) (mvT hZ (hw _ (List.mem_of_getElem? (i := 106) rfl))) (by decide) (backOf (W := 0) (sb_appS l Z a0 hw [] b97 b 17 [x0, y0, y1].length (tf [x0, y0, y1]) u2 v2 [(44 : Int32), (32 : Int32)].length (tf [(44 : Int32), (32 : Int32)]) cs h102 h0.size Zs2 S0 hcs Os2 Fs2 Lx (by simp) gs gb) hZ (hw _ (List.mem_of_getElem? (i := 108) rfl)) (hw _ (List.mem_of_getElem? (i := 71) rfl)) (by decide) (by decide)) q103a q103c (g := (mkF m 29 #[.val (.ref a1), .val (.int (2 : Int32)), .val (.ref b97), .val (.int (1 : Int32))] [(.ref u2), (.ref b97)])) rfl (by rw [hml]; rfl) (Steps.refl _) (argsL := [(.ref u2)]) (rest := []) (lenOf pd_16 rfl) rfl (by show 2 * 0 + _ ≤ _; exact Nat.le_of_eq rfl) (hb hby d13_29) (fun _ _ => ⟨rfl, e102, (by decide : 4 + 0 ≤ _), (by decide : 33 + 0 ≤ _)⟩)
  dsimp only [Pt.U, Pt.locs, Pt.cells, Pt.slots] at X103 l103 y103 z103 st103 hQ103
  subst l103 y103 z103
  obtain ⟨rfl, N103q, K103, Fx103⟩ := hQ103
  have N103 := Fr.app N101 N103q
  refine EndsW.st st103 ?_
  have Fs3 : SBd Z T103.heap b97 b 17 [x0, y0, y1, (44 : Int32), (32 : Int32)].length (tf [x0, y0, y1, (44 : Int32), (32 : Int32)]) := SBd.cat Fx103
  have Kk3 : Keep h0 T103.heap [] := Kk2.trans K103 (allS (Or.inr gs) (allS (Or.inr gb) all0))
  have Zs3 : h0.size ≤ T103.heap.size := Kk3.1
  have Os3 := OH.keep Kk3 all0
  have Lx1 := Lx.keep K103 nus nvs
  have gL1 : h102.size ≤ T103.heap.size := Nat.le_trans gL0 K103.1
  refine EndsW.of (F' := T103.setTop (mkF m 33 #[.val (.ref a1), .val (.int (2 : Int32)), .val (.ref b97), .val (.int (1 : Int32))] [(.ref a1), (.ref b97)])) (fun _ kt => ?_) ?_
  · show Steps p.tables e below (T103.setTop (mkF m 32 #[.val (.ref a1), .val (.int (2 : Int32)), .val (.ref b97), .val (.int (1 : Int32))] [(.ref b97)])) _
    refine XS.aloadN X103.here hx rfl (hb hby d13_32) rfl rfl ?_
    exact kt
  obtain ⟨T104, X104, e104, st104⟩ := getF X103 hx hZ hown (host := "") (Or.inl (hw _ (List.mem_of_getElem? (i := 58) rfl))) Via.refl rfl (F_row.keep Kk3 nin0) (g := (mkF m 33 #[.val (.ref a1), .val (.int (2 : Int32)), .val (.ref b97), .val (.int (1 : Int32))] [(.ref a1), (.ref b97)])) rfl rfl (hb hby d13_33)
  refine EndsW.of st104 ?_
  obtain ⟨cq105, kq105, q105a, q105b, q105c⟩ := isOf hZ e104 Fs3.1
  obtain ⟨_, _, ⟨T105, L105, k105, n105⟩, -, X105, ⟨Lc105, hQ105, l105, y105, z105⟩, st105⟩ := X104.virtualBack hx (y := (⟨"java/lang/StringBuilder", "append", "(Ljava/lang/String;)Ljava/lang/StringBuilder;"⟩ : MethodName)) (z := (⟨"java/lang/StringBuilder", "append", "(Ljava/lang/String;)Ljava/lang/StringBuilder;"⟩ : MethodName)) hown (mvT hZ (hw _ (List.mem_of_getElem? (i := 139) rfl))) (mvT hZ (hw _ (List.mem_of_getElem? (i := 105) rfl))) (notFace_of_selects (args := #[]) (mvT hZ (hw _ (List.mem_of_getElem? (i := 107) rfl)))) (mvT hZ (hw _ (List.mem_of_getElem? (i := 107) rfl))) (mvT hZ (hw _ (List.mem_of_getElem? (i := 106) rfl))) (by decide) (backOf (W := 0) (sb_appS l Z a0 hw [] b97 b 17 [x0, y0, y1, (44 : Int32), (32 : Int32)].length (tf [x0, y0, y1, (44 : Int32), (32 : Int32)]) sr dsr [y0, y1].length (tf [y0, y1]) cs T103.heap h0.size Zs3 S0 hcs Os3 Fs3 (T_sr.keep Kk3 nin0 nin0) (by simp) gs gb) hZ (hw _ (List.mem_of_getElem? (i := 108) rfl)) (hw _ (List.mem_of_getElem? (i := 71) rfl)) (by decide) (by decide)) q105a q105c (g := (mkF m 36 #[.val (.ref a1), .val (.int (2 : Int32)), .val (.ref b97), .val (.int (1 : Int32))] [(.ref sr), (.ref b97)])) rfl (by rw [hml]; rfl) (Steps.refl _) (argsL := [(.ref sr)]) (rest := []) (lenOf pd_16 rfl) rfl (by show 2 * 0 + _ ≤ _; exact Nat.le_of_eq rfl) (hb hby d13_36) (fun _ _ => ⟨rfl, e104, (by decide : 4 + 0 ≤ _), (by decide : 33 + 0 ≤ _)⟩)
  dsimp only [Pt.U, Pt.locs, Pt.cells, Pt.slots] at X105 l105 y105 z105 st105 hQ105
  subst l105 y105 z105
  obtain ⟨rfl, N105q, K105, Fx105⟩ := hQ105
  have N105 := Fr.app N103 N105q
  refine EndsW.st st105 ?_
  have Fs4 : SBd Z T105.heap b97 b 17 [x0, y0, y1, (44 : Int32), (32 : Int32), y0, y1].length (tf [x0, y0, y1, (44 : Int32), (32 : Int32), y0, y1]) := SBd.cat Fx105
  have Kk4 : Keep h0 T105.heap [] := Kk3.trans K105 (allS (Or.inr gs) (allS (Or.inr gb) all0))
  have Zs4 : h0.size ≤ T105.heap.size := Kk4.1
  have Os4 := OH.keep Kk4 all0
  have Lx2 := Lx1.keep K105 nus nvs
  have gL2 : h102.size ≤ T105.heap.size := Nat.le_trans gL1 K105.1
  refine EndsW.of (F' := T105.setTop (mkF m 21 #[.val (.ref a1), .val (.int (2 : Int32)), .val (.ref b97), .val (.int ((1 : Int32) + (1 : Int32)))] [])) (fun _ kt => ?_) ?_
  · show Steps p.tables e below (T105.setTop (mkF m 39 #[.val (.ref a1), .val (.int (2 : Int32)), .val (.ref b97), .val (.int (1 : Int32))] [(.ref b97)])) _
    refine XS.pop X105.here hx rfl (hb hby d13_39) rfl rfl ?_
    show Steps p.tables e below (T105.setTop (mkF m 40 #[.val (.ref a1), .val (.int (2 : Int32)), .val (.ref b97), .val (.int (1 : Int32))] [])) _
    refine XS.iinc X105.here hx rfl (hb hby d13_40) rfl (l' := #[.val (.ref a1), .val (.int (2 : Int32)), .val (.ref b97), .val (.int ((1 : Int32) + (1 : Int32)))]) rfl ?_
    show Steps p.tables e below (T105.setTop (mkF m 43 #[.val (.ref a1), .val (.int (2 : Int32)), .val (.ref b97), .val (.int ((1 : Int32) + (1 : Int32)))] [])) _
    refine XS.goto X105.here hx rfl (pc0 := 43) (pc' := 21) rfl (hb hby d13_43) (by decide) (by decide) ?_
    exact kt
  rw [show (1 : Int32) + (1 : Int32) = (2 : Int32) by decide]
  refine EndsW.of (F' := T105.setTop (mkF m 48 #[.val (.ref a1), .val (.int (2 : Int32)), .val (.ref b97), .val (.int (2 : Int32))] [(.ref a1), (.ref b97)])) (fun _ kt => ?_) ?_
  · show Steps p.tables e below (T105.setTop (mkF m 21 #[.val (.ref a1), .val (.int (2 : Int32)), .val (.ref b97), .val (.int (2 : Int32))] [])) _
    refine XS.iloadN X105.here hx rfl (hb hby d13_21) rfl ?_
    show Steps p.tables e below (T105.setTop (mkF m 22 #[.val (.ref a1), .val (.int (2 : Int32)), .val (.ref b97), .val (.int (2 : Int32))] [(.int (2 : Int32))])) _
    refine XS.iloadN X105.here hx rfl (hb hby d13_22) rfl ?_
    show Steps p.tables e below (T105.setTop (mkF m 23 #[.val (.ref a1), .val (.int (2 : Int32)), .val (.ref b97), .val (.int (2 : Int32))] [(.int (2 : Int32)), (.int (2 : Int32))])) _
    refine XS.icmpYes X105.here hx rfl (pc0 := 23) (pc' := 46) rfl (hb hby d13_23) rfl (flt (by decide)).2.1 (by decide) (by decide) ?_
    show Steps p.tables e below (T105.setTop (mkF m 46 #[.val (.ref a1), .val (.int (2 : Int32)), .val (.ref b97), .val (.int (2 : Int32))] [])) _
    refine XS.aloadN X105.here hx rfl (hb hby d13_46) rfl rfl ?_
    show Steps p.tables e below (T105.setTop (mkF m 47 #[.val (.ref a1), .val (.int (2 : Int32)), .val (.ref b97), .val (.int (2 : Int32))] [(.ref b97)])) _
    refine XS.aloadN X105.here hx rfl (hb hby d13_47) rfl rfl ?_
    exact kt
  obtain ⟨T106, X106, e106, st106⟩ := getF X105 hx hZ hown (host := "") (Or.inl (hw _ (List.mem_of_getElem? (i := 60) rfl))) Via.refl rfl (F_tail.keep Kk4 nin0) (g := (mkF m 48 #[.val (.ref a1), .val (.int (2 : Int32)), .val (.ref b97), .val (.int (2 : Int32))] [(.ref a1), (.ref b97)])) rfl rfl (hb hby d13_48)
  refine EndsW.of st106 ?_
  obtain ⟨cq107, kq107, q107a, q107b, q107c⟩ := isOf hZ e106 Fs4.1
  obtain ⟨_, _, ⟨T107, L107, k107, n107⟩, -, X107, ⟨Lc107, hQ107, l107, y107, z107⟩, st107⟩ := X106.virtualBack hx (y := (⟨"java/lang/StringBuilder", "append", "(Ljava/lang/String;)Ljava/lang/StringBuilder;"⟩ : MethodName)) (z := (⟨"java/lang/StringBuilder", "append", "(Ljava/lang/String;)Ljava/lang/StringBuilder;"⟩ : MethodName)) hown (mvT hZ (hw _ (List.mem_of_getElem? (i := 139) rfl))) (mvT hZ (hw _ (List.mem_of_getElem? (i := 105) rfl))) (notFace_of_selects (args := #[]) (mvT hZ (hw _ (List.mem_of_getElem? (i := 107) rfl)))) (mvT hZ (hw _ (List.mem_of_getElem? (i := 107) rfl))) (mvT hZ (hw _ (List.mem_of_getElem? (i := 106) rfl))) (by decide) (backOf (W := 0) (sb_appS l Z a0 hw [] b97 b 17 [x0, y0, y1, (44 : Int32), (32 : Int32), y0, y1].length (tf [x0, y0, y1, (44 : Int32), (32 : Int32), y0, y1]) st dst [z0].length (tf [z0]) cs T105.heap h0.size Zs4 S0 hcs Os4 Fs4 (T_st.keep Kk4 nin0 nin0) (by simp) gs gb) hZ (hw _ (List.mem_of_getElem? (i := 108) rfl)) (hw _ (List.mem_of_getElem? (i := 71) rfl)) (by decide) (by decide)) q107a q107c (g := (mkF m 51 #[.val (.ref a1), .val (.int (2 : Int32)), .val (.ref b97), .val (.int (2 : Int32))] [(.ref st), (.ref b97)])) rfl (by rw [hml]; rfl) (Steps.refl _) (argsL := [(.ref st)]) (rest := []) (lenOf pd_16 rfl) rfl (by show 2 * 0 + _ ≤ _; exact Nat.le_of_eq rfl) (hb hby d13_51) (fun _ _ => ⟨rfl, e106, (by decide : 4 + 0 ≤ _), (by decide : 33 + 0 ≤ _)⟩)
  dsimp only [Pt.U, Pt.locs, Pt.cells, Pt.slots] at X107 l107 y107 z107 st107 hQ107
  subst l107 y107 z107
  obtain ⟨rfl, N107q, K107, Fx107⟩ := hQ107
  have N107 := Fr.app N105 N107q
  refine EndsW.st st107 ?_
  have Fs5 : SBd Z T107.heap b97 b 17 [x0, y0, y1, (44 : Int32), (32 : Int32), y0, y1, z0].length (tf [x0, y0, y1, (44 : Int32), (32 : Int32), y0, y1, z0]) := SBd.cat Fx107
  have Kk5 : Keep h0 T107.heap [] := Kk4.trans K107 (allS (Or.inr gs) (allS (Or.inr gb) all0))
  have Zs5 : h0.size ≤ T107.heap.size := Kk5.1
  have Os5 := OH.keep Kk5 all0
  obtain ⟨cq108, kq108, q108a, q108b, q108c⟩ := isOf hZ rfl Fs5.1
  obtain ⟨_, _, ⟨T108, L108, k108, n108⟩, -, X108, ⟨Lc108, hQ108, l108, y108, z108⟩, st108⟩ := X107.virtualBack hx (y := (⟨"java/lang/StringBuilder", "toString", "()Ljava/lang/String;"⟩ : MethodName)) (z := (⟨"java/lang/StringBuilder", "toString", "()Ljava/lang/String;"⟩ : MethodName)) hown (mvT hZ (hw _ (List.mem_of_getElem? (i := 140) rfl))) (mvT hZ (hw _ (List.mem_of_getElem? (i := 141) rfl))) (notFace_of_selects (args := #[]) (mvT hZ (hw _ (List.mem_of_getElem? (i := 143) rfl)))) (mvT hZ (hw _ (List.mem_of_getElem? (i := 143) rfl))) (mvT hZ (hw _ (List.mem_of_getElem? (i := 142) rfl))) (by decide) (backOf (W := 0) (sb_str l Z a0 hw [] b97 b 17 [x0, y0, y1, (44 : Int32), (32 : Int32), y0, y1, z0].length (tf [x0, y0, y1, (44 : Int32), (32 : Int32), y0, y1, z0]) cs T107.heap h0.size Zs5 S0 hcs Os5 Fs5 (by simp) (by simp)) hZ (hw _ (List.mem_of_getElem? (i := 144) rfl)) (hw _ (List.mem_of_getElem? (i := 71) rfl)) (by decide) (by decide)) q108a q108c (g := (mkF m 54 #[.val (.ref a1), .val (.int (2 : Int32)), .val (.ref b97), .val (.int (2 : Int32))] [(.ref b97)])) rfl (by rw [hml]; rfl) (Steps.refl _) (argsL := []) (rest := []) (lenOf pd_21 rfl) rfl (by show 2 * 0 + _ ≤ _; exact Nat.le_of_eq rfl) (hb hby d13_54) (fun _ _ => ⟨rfl, rfl, (by decide : 4 + 2 ≤ _), (by decide : 33 + 20 ≤ _)⟩)
  dsimp only [Pt.U, Pt.locs, Pt.cells, Pt.slots] at X108 l108 y108 z108 st108 hQ108
  subst l108 y108 z108
  obtain ⟨d108, rfl, N108q, K108, St108, gd108⟩ := hQ108
  have N108 := Fr.app N107 N108q
  refine EndsW.st st108 ?_
  have Ke : Keep h0 T108.heap [] := Kk5.trans K108 all0
  have hkz : k102 ≤ T108.heap.size := Nat.le_trans hk (Nat.le_trans gL2 (Nat.le_trans K107.1 K108.1))
  obtain ⟨fs, hr, hrun, hended, hEW⟩ := X108.leaveW hS hkz (v := some (.ref T107.heap.size)) (fun h => by rw [Bd.returns] at h; cases h)
  refine ⟨_, _, ?_, hrun, hended, _, _, rfl, ⟨_, d108, rfl, own_frm Z0 N108, Ke, St108⟩, hEW.1, hEW.2.1, hEW.2.2.1, hEW.2.2.2.mono (by decide) (by decide)⟩
  show Steps p.tables e below (T108.setTop (mkF m 57 #[.val (.ref a1), .val (.int (2 : Int32)), .val (.ref b97), .val (.int (2 : Int32))] [(.ref T107.heap.size)])) _
  jvm_step X108.here [X108.here.top, hx, (hb hby d13_57), X108.method', Bd.returns, Value.isRef, FieldType.isReference]
  first | (intro acts; rw [hr _ acts rfl rfl rfl]) | rw [hr _ _ rfl rfl rfl]
  exact Steps.refl _
def Q_stm3 (Z : State) (a1 : Addr) (sh : Addr) (sr : Addr) (st : Addr) (dsh : Addr) (dsr : Addr) (dst : Addr) (x0 : Int32) (y0 : Int32) (y1 : Int32) (z0 : Int32) (cs : Int32) (h0 : Heap) (n0 : Nat) (v : Option Value) (h : Heap) (L : List Loc) : Prop := ∃ u d : Addr, v = some (.ref u) ∧ Fr n0 L ∧ Keep h0 h [] ∧ Str Z h u d 12 (tf [x0, y0, y1, (44 : Int32), (32 : Int32), y0, y1, (44 : Int32), (32 : Int32), y0, y1, z0])
set_option maxRecDepth 65536 in
set_option maxHeartbeats 40000000 in
theorem stm3 (l : Launch) (Z : State) (a0 : Array Value) (hw : ∀ d ∈ tables_1, d.before a0 Z = true) (ws : List Jvm.Cond) (a1 : Addr) (sh : Addr) (sr : Addr) (st : Addr) (dsh : Addr) (dsr : Addr) (dst : Addr) (x0 : Int32) (y0 : Int32) (y1 : Int32) (z0 : Int32) (cs : Int32) (h0 : Heap) (n0 : Nat) (Z0 : n0 ≤ h0.size) (S0 : Sta Z Z.heap "java/lang/String" "COMPACT_STRINGS" "Z" (.int cs)) (hcs : ¬ cs = (0 : Int32)) (O : Oll Z n0 h0) (F_head : Fld Z h0 a1 "com/example/coordinant/coordinant/Log$Rows" "head" "Ljava/lang/String;" (.ref sh)) (F_row : Fld Z h0 a1 "com/example/coordinant/coordinant/Log$Rows" "row" "Ljava/lang/String;" (.ref sr)) (F_tail : Fld Z h0 a1 "com/example/coordinant/coordinant/Log$Rows" "tail" "Ljava/lang/String;" (.ref st)) (T_sh : Str Z h0 sh dsh 1 (tf [x0])) (T_sr : Str Z h0 sr dsr 2 (tf [y0, y1])) (T_st : Str Z h0 st dst 1 (tf [z0])) (hh0 : ∀ q ∈ consts_1, Jvm.Lit.constHeld Z q.1 q.2) (hcw : Jvm.Lit.compactW.before a0 Z = true) :
    MetFree l (⟨"com/example/coordinant/coordinant/Log$Rows", "statement", "(I)Ljava/lang/String;"⟩ : MethodName) (head1 (Jvm.Cond.code (⟨"com/example/coordinant/coordinant/Log$Rows", "statement", "(I)Ljava/lang/String;"⟩ : MethodName) prog_50_method_2_code 4 (some (.object "java/lang/String")) :: ws) ({ frames := 8, cells := 6, slots := 53, locals := 163 } : Room)) (fun a U => a = #[(.ref a1), (.int (3 : Int32))] ∧ Z.Warmed39 U.vm ∧ U.heap = h0 ∧ U.vm.interned = Z.vm.interned) (fun _ _ _ _ _ => True) (fun _ U o U' => ∃ v L, o = .returned v ∧ Q_stm3 Z a1 sh sr st dsh dsr dst x0 y0 y1 z0 cs h0 n0 v U'.heap L ∧ ReturnedEndW U o U' L ({ frames := 8, cells := 6, slots := 53, locals := 163 } : Room).cells ({ frames := 8, cells := 6, slots := 53, locals := 163 } : Room).slots) := by
  refine MetFree.of_bodySF (plainFor_of_name pn_7) hisR ?_
  intro p e s m args below meth c s₁ Bd hml0 hP hK
  obtain ⟨rfl, hZ, hh, hIn⟩ := hP
  have hx := Bd.exec
  have hby := Bd.bytes
  have hml : c.maxLocals = 4 := hml0
  have hown : s.vm.findClass "com/example/coordinant/coordinant/Log$Rows" = some m.cls := findClass_of_methodNamed Bd.named
  have hnm := (name_of_methodNamed Bd.named Bd.method).1
  have X0 : Stand p l e ({ frames := 8, cells := 6, slots := 53, locals := 163 } : Room) s m #[(.ref a1), (.int (3 : Int32))] below meth c s₁ [] 0 0 := Stand.of_body Bd
  have e0 : s₁.heap = h0 := by rw [← hh, Bd.state]; rfl
  have N0 := Fr.nil n0
  have eF : entryFrame m #[(.ref a1), (.int (3 : Int32))] 4 = mkF m 0 #[.val (.ref a1), .val (.int (3 : Int32)), .unset, .unset] [] := by first | (simp [entryFrame, mkF, argsToLocals, Value.category]; done) | rfl
  show EndsW p e below s ({ frames := 8, cells := 6, slots := 53, locals := 163 } : Room) (Q_stm3 Z a1 sh sr st dsh dsr dst x0 y0 y1 z0 cs h0 n0) (s₁.setTop (entryFrame m #[(.ref a1), (.int (3 : Int32))] 4))
  rw [eF]
  have N0 := Fr.nil h0.size
  have OH : Oll Z h0.size h0 := ⟨O.2.1, O.2⟩
  obtain ⟨T109, h109, X109, e109, E109, A109, D109, -, st109⟩ := newO X0 hx hZ hown (hw _ (List.mem_of_getElem? (i := 69) rfl)) (hw _ (List.mem_of_getElem? (i := 70) rfl)) (hw _ (List.mem_of_getElem? (i := 71) rfl)) e0 (g := (mkF m 0 #[.val (.ref a1), .val (.int (3 : Int32)), .unset, .unset] [])) rfl (hb hby d13_0) (by decide) (by decide)
  obtain ⟨b109, g109⟩ : ∃ z, z = h0.size := ⟨_, rfl⟩
  rw [← g109] at A109 D109 st109
  have F_coder_b109 : Fld Z h109 b109 "java/lang/AbstractStringBuilder" "coder" "B" (.int (0 : Int32)) := D109 (Or.inl (hw _ (List.mem_of_getElem? (i := 95) rfl))) (ty := .byte) (by decide)
  have F_value_b109 : Fld Z h109 b109 "java/lang/AbstractStringBuilder" "value" "[B" .null := D109 (Or.inl (hw _ (List.mem_of_getElem? (i := 97) rfl))) (ty := (.array .byte)) (by decide)
  have F_count_b109 : Fld Z h109 b109 "java/lang/AbstractStringBuilder" "count" "I" (.int (0 : Int32)) := D109 (Or.inl (hw _ (List.mem_of_getElem? (i := 113) rfl))) (ty := .int) (by decide)
  refine EndsW.of st109 ?_
  have Z1 : h0.size ≤ h109.size := E109.1
  have gs : h0.size ≤ b109 := Nat.le_of_eq g109.symm
  have l_sh : sh < b109 := Nat.lt_of_lt_of_le T_sh.1.lt gs
  have ld_sh : dsh < b109 := Nat.lt_of_lt_of_le T_sh.2.2.2.lt gs
  have l_sr : sr < b109 := Nat.lt_of_lt_of_le T_sr.1.lt gs
  have ld_sr : dsr < b109 := Nat.lt_of_lt_of_le T_sr.2.2.2.lt gs
  have l_st : st < b109 := Nat.lt_of_lt_of_le T_st.1.lt gs
  have ld_st : dst < b109 := Nat.lt_of_lt_of_le T_st.2.2.2.lt gs
  have n_a : a1 < h0.size := F_head.lt
  refine EndsW.of (F' := T109.setTop (mkF m 5 #[.val (.ref a1), .val (.int (3 : Int32)), .unset, .unset] [(.ref a1), (.ref b109), (.ref b109)])) (fun _ kt => ?_) ?_
  · show Steps p.tables e below (T109.setTop (mkF m 3 #[.val (.ref a1), .val (.int (3 : Int32)), .unset, .unset] [(.ref b109)])) _
    refine XS.dup X109.here hx rfl (hb hby d13_3) rfl rfl ?_
    show Steps p.tables e below (T109.setTop (mkF m 4 #[.val (.ref a1), .val (.int (3 : Int32)), .unset, .unset] [(.ref b109), (.ref b109)])) _
    refine XS.aloadN X109.here hx rfl (hb hby d13_4) rfl rfl ?_
    exact kt
  obtain ⟨T110, X110, e110, st110⟩ := getF X109 hx hZ hown (host := "") (Or.inl (hw _ (List.mem_of_getElem? (i := 56) rfl))) Via.refl e109 (F_head.ext E109) (g := (mkF m 5 #[.val (.ref a1), .val (.int (3 : Int32)), .unset, .unset] [(.ref a1), (.ref b109), (.ref b109)])) rfl rfl (hb hby d13_5)
  refine EndsW.of st110 ?_
  obtain ⟨_, _, ⟨T111, L111, k111, n111⟩, -, X111, ⟨Lc111, hQ111, l111, y111, z111⟩, st111⟩ := X110.specialBack hx (y := (⟨"java/lang/StringBuilder", "<init>", "(Ljava/lang/String;)V"⟩ : MethodName)) rfl hown (mvT hZ (hw _ (List.mem_of_getElem? (i := 72) rfl))) (mvT hZ (hw _ (List.mem_of_getElem? (i := 73) rfl))) (mvT hZ (hw _ (List.mem_of_getElem? (i := 74) rfl))) (by decide) (backOf (W := 1) (sb_initS l Z a0 hw [] b109 sh dsh (tf [x0]) cs h109 h0.size Z1 S0 hcs (OH.ext E109) A109 F_value_b109 F_coder_b109 F_count_b109 (T_sh.ext E109) gs (Nat.ne_of_lt l_sh) (Nat.ne_of_lt ld_sh)) hZ (hw _ (List.mem_of_getElem? (i := 74) rfl)) (hw _ (List.mem_of_getElem? (i := 71) rfl)) (by decide) (by decide)) (g := (mkF m 8 #[.val (.ref a1), .val (.int (3 : Int32)), .unset, .unset] [(.ref sh), (.ref b109), (.ref b109)])) rfl (by rw [hml]; rfl) (Steps.refl _) (a := b109) (argsL := [(.ref sh)]) (rest := [(.ref b109)]) (lenOf pd_12 rfl) rfl (by show 2 * 0 + _ ≤ _; exact Nat.le_of_eq rfl) (hb hby d13_8) (fun _ _ => ⟨rfl, e110, (by decide : 1 + 1 ≤ _), (by decide : 4 + 17 ≤ _)⟩)
  dsimp only [Pt.U, Pt.locs, Pt.cells, Pt.slots] at X111 l111 y111 z111 st111 hQ111
  subst l111 y111 z111
  obtain ⟨rfl, N111q, K111, b, Fi111, gb111⟩ := hQ111
  have N111 := Fr.app N0 N111q
  refine EndsW.st st111 ?_
  have Fs0 : SBd Z T111.heap b109 b 17 [x0].length (tf [x0]) := by
    have e := own_cat [] [x0]
    have e0 : tf [] = fun _ => (0 : Int32) := by funext i; simp [tf]
    rw [e0] at e
    exact (e ▸ Fi111 : SBd Z T111.heap b109 b 17 1 (tf ([] ++ [x0])))
  have gb : h0.size ≤ b := Nat.le_trans Z1 gb111
  have K0 : Keep h0 T111.heap [] := ((Keep.refl h0 []).ext E109).trans K111 (allS (Or.inr gs) all0)
  have Zs0 : h0.size ≤ T111.heap.size := K0.1
  have Os0 := OH.keep K0 all0
  refine EndsW.of (F' := T111.setTop (mkF m 12 #[.val (.ref a1), .val (.int (3 : Int32)), .unset, .unset] [(.ref a1), (.ref b109)])) (fun _ kt => ?_) ?_
  · show Steps p.tables e below (T111.setTop (mkF m 11 #[.val (.ref a1), .val (.int (3 : Int32)), .unset, .unset] [(.ref b109)])) _
    refine XS.aloadN X111.here hx rfl (hb hby d13_11) rfl rfl ?_
    exact kt
  obtain ⟨T112, X112, e112, st112⟩ := getF X111 hx hZ hown (host := "") (Or.inl (hw _ (List.mem_of_getElem? (i := 58) rfl))) Via.refl rfl (F_row.keep K0 nin0) (g := (mkF m 12 #[.val (.ref a1), .val (.int (3 : Int32)), .unset, .unset] [(.ref a1), (.ref b109)])) rfl rfl (hb hby d13_12)
  refine EndsW.of st112 ?_
  obtain ⟨cq113, kq113, q113a, q113b, q113c⟩ := isOf hZ e112 Fs0.1
  obtain ⟨_, _, ⟨T113, L113, k113, n113⟩, -, X113, ⟨Lc113, hQ113, l113, y113, z113⟩, st113⟩ := X112.virtualBack hx (y := (⟨"java/lang/StringBuilder", "append", "(Ljava/lang/String;)Ljava/lang/StringBuilder;"⟩ : MethodName)) (z := (⟨"java/lang/StringBuilder", "append", "(Ljava/lang/String;)Ljava/lang/StringBuilder;"⟩ : MethodName)) hown (mvT hZ (hw _ (List.mem_of_getElem? (i := 139) rfl))) (mvT hZ (hw _ (List.mem_of_getElem? (i := 105) rfl))) (notFace_of_selects (args := #[]) (mvT hZ (hw _ (List.mem_of_getElem? (i := 107) rfl)))) (mvT hZ (hw _ (List.mem_of_getElem? (i := 107) rfl))) (mvT hZ (hw _ (List.mem_of_getElem? (i := 106) rfl))) (by decide) (backOf (W := 0) (sb_appS l Z a0 hw [] b109 b 17 [x0].length (tf [x0]) sr dsr [y0, y1].length (tf [y0, y1]) cs T111.heap h0.size Zs0 S0 hcs Os0 Fs0 (T_sr.keep K0 nin0 nin0) (by simp) gs gb) hZ (hw _ (List.mem_of_getElem? (i := 108) rfl)) (hw _ (List.mem_of_getElem? (i := 71) rfl)) (by decide) (by decide)) q113a q113c (g := (mkF m 15 #[.val (.ref a1), .val (.int (3 : Int32)), .unset, .unset] [(.ref sr), (.ref b109)])) rfl (by rw [hml]; rfl) (Steps.refl _) (argsL := [(.ref sr)]) (rest := []) (lenOf pd_16 rfl) rfl (by show 2 * 0 + _ ≤ _; exact Nat.le_of_eq rfl) (hb hby d13_15) (fun _ _ => ⟨rfl, e112, (by decide : 2 + 0 ≤ _), (by decide : 21 + 0 ≤ _)⟩)
  dsimp only [Pt.U, Pt.locs, Pt.cells, Pt.slots] at X113 l113 y113 z113 st113 hQ113
  subst l113 y113 z113
  obtain ⟨rfl, N113q, K113, Fx113⟩ := hQ113
  have N113 := Fr.app N111 N113q
  refine EndsW.st st113 ?_
  have Fs1 : SBd Z T113.heap b109 b 17 [x0, y0, y1].length (tf [x0, y0, y1]) := SBd.cat Fx113
  have Kk1 : Keep h0 T113.heap [] := K0.trans K113 (allS (Or.inr gs) (allS (Or.inr gb) all0))
  have Zs1 : h0.size ≤ T113.heap.size := Kk1.1
  have Os1 := OH.keep Kk1 all0
  refine EndsW.of (F' := T113.setTop (mkF m 27 #[.val (.ref a1), .val (.int (3 : Int32)), .val (.ref b109), .val (.int (1 : Int32))] [(.ref b109)])) (fun _ kt => ?_) ?_
  · show Steps p.tables e below (T113.setTop (mkF m 18 #[.val (.ref a1), .val (.int (3 : Int32)), .unset, .unset] [(.ref b109)])) _
    refine XS.astoreN X113.here hx rfl (hb hby d13_18) rfl rfl (l' := #[.val (.ref a1), .val (.int (3 : Int32)), .val (.ref b109), .unset]) rfl ?_
    show Steps p.tables e below (T113.setTop (mkF m 19 #[.val (.ref a1), .val (.int (3 : Int32)), .val (.ref b109), .unset] [])) _
    refine XS.iconst X113.here hx rfl (hb hby d13_19) ?_
    show Steps p.tables e below (T113.setTop (mkF m 20 #[.val (.ref a1), .val (.int (3 : Int32)), .val (.ref b109), .unset] [(.int (1 : Int32))])) _
    refine XS.istoreN X113.here hx rfl (hb hby d13_20) rfl (l' := #[.val (.ref a1), .val (.int (3 : Int32)), .val (.ref b109), .val (.int (1 : Int32))]) rfl ?_
    show Steps p.tables e below (T113.setTop (mkF m 21 #[.val (.ref a1), .val (.int (3 : Int32)), .val (.ref b109), .val (.int (1 : Int32))] [])) _
    refine XS.iloadN X113.here hx rfl (hb hby d13_21) rfl ?_
    show Steps p.tables e below (T113.setTop (mkF m 22 #[.val (.ref a1), .val (.int (3 : Int32)), .val (.ref b109), .val (.int (1 : Int32))] [(.int (1 : Int32))])) _
    refine XS.iloadN X113.here hx rfl (hb hby d13_22) rfl ?_
    show Steps p.tables e below (T113.setTop (mkF m 23 #[.val (.ref a1), .val (.int (3 : Int32)), .val (.ref b109), .val (.int (1 : Int32))] [(.int (3 : Int32)), (.int (1 : Int32))])) _
    refine XS.icmpNo X113.here hx rfl (hb hby d13_23) rfl (tlt (by decide)).2.1 ?_
    show Steps p.tables e below (T113.setTop (mkF m 26 #[.val (.ref a1), .val (.int (3 : Int32)), .val (.ref b109), .val (.int (1 : Int32))] [])) _
    refine XS.aloadN X113.here hx rfl (hb hby d13_26) rfl rfl ?_
    exact kt
  have wS : ∀ q ∈ Bundle.stringAtoms, q.before a0 Z = true := fun q hq => by
    simp only [Bundle.stringAtoms, List.mem_cons, List.not_mem_nil, or_false] at hq
    rcases hq with rfl | rfl | rfl | rfl | rfl | rfl | rfl
    · exact (hw _ (List.mem_of_getElem? (i := 2) rfl))
    · exact (hw _ (List.mem_of_getElem? (i := 10) rfl))
    · exact (hw _ (List.mem_of_getElem? (i := 14) rfl))
    · exact (hw _ (List.mem_of_getElem? (i := 23) rfl))
    · exact (hw _ (List.mem_of_getElem? (i := 25) rfl))
    · exact (hw _ (List.mem_of_getElem? (i := 194) rfl))
    · exact (hw _ (List.mem_of_getElem? (i := 195) rfl))
  have hkeep : ∀ (b : Addr) (cl : Cell), Z.heap[b]? = some cl → s.heap[b]? = some cl := fun b cl q => by rw [hh]; exact O.2.2 b cl q
  have hI0 : IB Z s.vm [] := ⟨#[], by simp [hIn], fun q hq => by simp at hq⟩
  have hS0 : s.Since s.vm s.heap.size := (State.WarmedH.refl s).since _
  have hh9 : h0.size = s.heap.size := by rw [hh]
  have N9 := own_frm (Nat.le_of_eq hh9.symm) N113
  have hk9 : s.heap.size ≤ T113.heap.size := by rw [hh]; exact Zs1
  have lsb := Fs1.1.lt
  have lbb := Fs1.2.2.2.2.1.lt
  obtain ⟨u2, T114, h114, k114, v2, c114, X114, e114, E114, hS, hk, hZ, hown, Ex114, Fc114, Fv114, Av114, lu114, lv114, I114, Li, wh, st114⟩ := ldcSVd (s := s) (vm0 := s.vm) (Z := Z) (own := "com/example/coordinant/coordinant/Log$Rows") (text := ", ") (index := 32) X113 hx hZ hown (hw _ (List.mem_of_getElem? (i := 193) rfl)) wS rfl hS0 hk9 N9 hkeep hI0 (by simp) (hh0 ("com/example/coordinant/coordinant/Log$Rows", 32) (List.mem_of_getElem? (i := 0) rfl)) hcw (vs := (List.range 2).map fun i => Value.int (tf [(44 : Int32), (32 : Int32)] i)) (z := Int32.ofNat 2) ⟨by decide +kernel, by rfl⟩ (by decide) (by decide) (g := (mkF m 27 #[.val (.ref a1), .val (.int (3 : Int32)), .val (.ref b109), .val (.int (1 : Int32))] [(.ref b109)])) rfl (hb hby d13_27) (n := 8) (by decide) (by decide) (by decide) (by decide)
  rw [hh] at wh
  refine EndsW.of st114 ?_
  have Lx : Str Z h114 u2 v2 2 (tf [(44 : Int32), (32 : Int32)]) := ⟨Ex114, Fc114, Fv114, by decide, c114, Av114⟩
  have nus : u2 ∉ [b109, b] := ninS (own_ne3 gs lsb (wh.imp And.left And.left)) (ninS (own_ne3 gb lbb (wh.imp And.left And.left)) nin0)
  have nvs : v2 ∉ [b109, b] := ninS (own_ne3 gs lsb (wh.imp And.right And.right)) (ninS (own_ne3 gb lbb (wh.imp And.right And.right)) nin0)
  have Fs2 := Fs1.ext E114
  have Kk2 : Keep h0 h114 [] := Kk1.ext E114
  have Zs2 : h0.size ≤ h114.size := Kk2.1
  have Os2 := OH.keep Kk2 all0
  have gL0 : h114.size ≤ h114.size := Nat.le_refl _
  obtain ⟨cq115, kq115, q115a, q115b, q115c⟩ := isOf hZ e114 Fs2.1
  obtain ⟨_, _, ⟨T115, L115, k115, n115⟩, -, X115, ⟨Lc115, hQ115, l115, y115, z115⟩, st115⟩ := X114.virtualBack hx (y := (⟨"java/lang/StringBuilder", "append", "(Ljava/lang/String;)Ljava/lang/StringBuilder;"⟩ : MethodName)) (z := (⟨"java/lang/StringBuilder", "append", "(Ljava/lang/String;)Ljava/lang/StringBuilder;"⟩ : MethodName)) hown (mvT hZ (hw _ (List.mem_of_getElem? (i := 139) rfl))) (mvT hZ (hw _ (List.mem_of_getElem? (i := 105) rfl))) (notFace_of_selects (args := #[]) (mvT hZ (hw _ (List.mem_of_getElem? (i := 107) rfl)))) (mvT hZ (hw _ (List.mem_of_getElem? (i := 107) rfl))) (mvT hZ (hw _ (List.mem_of_getElem? (i := 106) rfl))) (by decide) (backOf (W := 0) (sb_appS l Z a0 hw [] b109 b 17 [x0, y0, y1].length (tf [x0, y0, y1]) u2 v2 [(44 : Int32), (32 : Int32)].length (tf [(44 : Int32), (32 : Int32)]) cs h114 h0.size Zs2 S0 hcs Os2 Fs2 Lx (by simp) gs gb) hZ (hw _ (List.mem_of_getElem? (i := 108) rfl)) (hw _ (List.mem_of_getElem? (i := 71) rfl)) (by decide) (by decide)) q115a q115c (g := (mkF m 29 #[.val (.ref a1), .val (.int (3 : Int32)), .val (.ref b109), .val (.int (1 : Int32))] [(.ref u2), (.ref b109)])) rfl (by rw [hml]; rfl) (Steps.refl _) (argsL := [(.ref u2)]) (rest := []) (lenOf pd_16 rfl) rfl (by show 2 * 0 + _ ≤ _; exact Nat.le_of_eq rfl) (hb hby d13_29) (fun _ _ => ⟨rfl, e114, (by decide : 4 + 0 ≤ _), (by decide : 33 + 0 ≤ _)⟩)
  dsimp only [Pt.U, Pt.locs, Pt.cells, Pt.slots] at X115 l115 y115 z115 st115 hQ115
  subst l115 y115 z115
  obtain ⟨rfl, N115q, K115, Fx115⟩ := hQ115
  have N115 := Fr.app N113 N115q
  refine EndsW.st st115 ?_
  have Fs3 : SBd Z T115.heap b109 b 17 [x0, y0, y1, (44 : Int32), (32 : Int32)].length (tf [x0, y0, y1, (44 : Int32), (32 : Int32)]) := SBd.cat Fx115
  have Kk3 : Keep h0 T115.heap [] := Kk2.trans K115 (allS (Or.inr gs) (allS (Or.inr gb) all0))
  have Zs3 : h0.size ≤ T115.heap.size := Kk3.1
  have Os3 := OH.keep Kk3 all0
  have Lx1 := Lx.keep K115 nus nvs
  have gL1 : h114.size ≤ T115.heap.size := Nat.le_trans gL0 K115.1
  refine EndsW.of (F' := T115.setTop (mkF m 33 #[.val (.ref a1), .val (.int (3 : Int32)), .val (.ref b109), .val (.int (1 : Int32))] [(.ref a1), (.ref b109)])) (fun _ kt => ?_) ?_
  · show Steps p.tables e below (T115.setTop (mkF m 32 #[.val (.ref a1), .val (.int (3 : Int32)), .val (.ref b109), .val (.int (1 : Int32))] [(.ref b109)])) _
    refine XS.aloadN X115.here hx rfl (hb hby d13_32) rfl rfl ?_
    exact kt
  obtain ⟨T116, X116, e116, st116⟩ := getF X115 hx hZ hown (host := "") (Or.inl (hw _ (List.mem_of_getElem? (i := 58) rfl))) Via.refl rfl (F_row.keep Kk3 nin0) (g := (mkF m 33 #[.val (.ref a1), .val (.int (3 : Int32)), .val (.ref b109), .val (.int (1 : Int32))] [(.ref a1), (.ref b109)])) rfl rfl (hb hby d13_33)
  refine EndsW.of st116 ?_
  obtain ⟨cq117, kq117, q117a, q117b, q117c⟩ := isOf hZ e116 Fs3.1
  obtain ⟨_, _, ⟨T117, L117, k117, n117⟩, -, X117, ⟨Lc117, hQ117, l117, y117, z117⟩, st117⟩ := X116.virtualBack hx (y := (⟨"java/lang/StringBuilder", "append", "(Ljava/lang/String;)Ljava/lang/StringBuilder;"⟩ : MethodName)) (z := (⟨"java/lang/StringBuilder", "append", "(Ljava/lang/String;)Ljava/lang/StringBuilder;"⟩ : MethodName)) hown (mvT hZ (hw _ (List.mem_of_getElem? (i := 139) rfl))) (mvT hZ (hw _ (List.mem_of_getElem? (i := 105) rfl))) (notFace_of_selects (args := #[]) (mvT hZ (hw _ (List.mem_of_getElem? (i := 107) rfl)))) (mvT hZ (hw _ (List.mem_of_getElem? (i := 107) rfl))) (mvT hZ (hw _ (List.mem_of_getElem? (i := 106) rfl))) (by decide) (backOf (W := 0) (sb_appS l Z a0 hw [] b109 b 17 [x0, y0, y1, (44 : Int32), (32 : Int32)].length (tf [x0, y0, y1, (44 : Int32), (32 : Int32)]) sr dsr [y0, y1].length (tf [y0, y1]) cs T115.heap h0.size Zs3 S0 hcs Os3 Fs3 (T_sr.keep Kk3 nin0 nin0) (by simp) gs gb) hZ (hw _ (List.mem_of_getElem? (i := 108) rfl)) (hw _ (List.mem_of_getElem? (i := 71) rfl)) (by decide) (by decide)) q117a q117c (g := (mkF m 36 #[.val (.ref a1), .val (.int (3 : Int32)), .val (.ref b109), .val (.int (1 : Int32))] [(.ref sr), (.ref b109)])) rfl (by rw [hml]; rfl) (Steps.refl _) (argsL := [(.ref sr)]) (rest := []) (lenOf pd_16 rfl) rfl (by show 2 * 0 + _ ≤ _; exact Nat.le_of_eq rfl) (hb hby d13_36) (fun _ _ => ⟨rfl, e116, (by decide : 4 + 0 ≤ _), (by decide : 33 + 0 ≤ _)⟩)
  dsimp only [Pt.U, Pt.locs, Pt.cells, Pt.slots] at X117 l117 y117 z117 st117 hQ117
  subst l117 y117 z117
  obtain ⟨rfl, N117q, K117, Fx117⟩ := hQ117
  have N117 := Fr.app N115 N117q
  refine EndsW.st st117 ?_
  have Fs4 : SBd Z T117.heap b109 b 17 [x0, y0, y1, (44 : Int32), (32 : Int32), y0, y1].length (tf [x0, y0, y1, (44 : Int32), (32 : Int32), y0, y1]) := SBd.cat Fx117
  have Kk4 : Keep h0 T117.heap [] := Kk3.trans K117 (allS (Or.inr gs) (allS (Or.inr gb) all0))
  have Zs4 : h0.size ≤ T117.heap.size := Kk4.1
  have Os4 := OH.keep Kk4 all0
  have Lx2 := Lx1.keep K117 nus nvs
  have gL2 : h114.size ≤ T117.heap.size := Nat.le_trans gL1 K117.1
  refine EndsW.of (F' := T117.setTop (mkF m 21 #[.val (.ref a1), .val (.int (3 : Int32)), .val (.ref b109), .val (.int ((1 : Int32) + (1 : Int32)))] [])) (fun _ kt => ?_) ?_
  · show Steps p.tables e below (T117.setTop (mkF m 39 #[.val (.ref a1), .val (.int (3 : Int32)), .val (.ref b109), .val (.int (1 : Int32))] [(.ref b109)])) _
    refine XS.pop X117.here hx rfl (hb hby d13_39) rfl rfl ?_
    show Steps p.tables e below (T117.setTop (mkF m 40 #[.val (.ref a1), .val (.int (3 : Int32)), .val (.ref b109), .val (.int (1 : Int32))] [])) _
    refine XS.iinc X117.here hx rfl (hb hby d13_40) rfl (l' := #[.val (.ref a1), .val (.int (3 : Int32)), .val (.ref b109), .val (.int ((1 : Int32) + (1 : Int32)))]) rfl ?_
    show Steps p.tables e below (T117.setTop (mkF m 43 #[.val (.ref a1), .val (.int (3 : Int32)), .val (.ref b109), .val (.int ((1 : Int32) + (1 : Int32)))] [])) _
    refine XS.goto X117.here hx rfl (pc0 := 43) (pc' := 21) rfl (hb hby d13_43) (by decide) (by decide) ?_
    exact kt
  rw [show (1 : Int32) + (1 : Int32) = (2 : Int32) by decide]
  refine EndsW.of (F' := T117.setTop (mkF m 27 #[.val (.ref a1), .val (.int (3 : Int32)), .val (.ref b109), .val (.int (2 : Int32))] [(.ref b109)])) (fun _ kt => ?_) ?_
  · show Steps p.tables e below (T117.setTop (mkF m 21 #[.val (.ref a1), .val (.int (3 : Int32)), .val (.ref b109), .val (.int (2 : Int32))] [])) _
    refine XS.iloadN X117.here hx rfl (hb hby d13_21) rfl ?_
    show Steps p.tables e below (T117.setTop (mkF m 22 #[.val (.ref a1), .val (.int (3 : Int32)), .val (.ref b109), .val (.int (2 : Int32))] [(.int (2 : Int32))])) _
    refine XS.iloadN X117.here hx rfl (hb hby d13_22) rfl ?_
    show Steps p.tables e below (T117.setTop (mkF m 23 #[.val (.ref a1), .val (.int (3 : Int32)), .val (.ref b109), .val (.int (2 : Int32))] [(.int (3 : Int32)), (.int (2 : Int32))])) _
    refine XS.icmpNo X117.here hx rfl (hb hby d13_23) rfl (tlt (by decide)).2.1 ?_
    show Steps p.tables e below (T117.setTop (mkF m 26 #[.val (.ref a1), .val (.int (3 : Int32)), .val (.ref b109), .val (.int (2 : Int32))] [])) _
    refine XS.aloadN X117.here hx rfl (hb hby d13_26) rfl rfl ?_
    exact kt
  refine EndsW.of (ldcAgain (Z := Z) (own := "com/example/coordinant/coordinant/Log$Rows") (text := ", ") (index := 32) X117 hx hZ hown (hw _ (List.mem_of_getElem? (i := 193) rfl)) Li (g := (mkF m 27 #[.val (.ref a1), .val (.int (3 : Int32)), .val (.ref b109), .val (.int (2 : Int32))] [(.ref b109)])) rfl (hb hby d13_27)) ?_
  obtain ⟨cq118, kq118, q118a, q118b, q118c⟩ := isOf hZ rfl Fs4.1
  obtain ⟨_, _, ⟨T118, L118, k118, n118⟩, -, X118, ⟨Lc118, hQ118, l118, y118, z118⟩, st118⟩ := X117.virtualBack hx (y := (⟨"java/lang/StringBuilder", "append", "(Ljava/lang/String;)Ljava/lang/StringBuilder;"⟩ : MethodName)) (z := (⟨"java/lang/StringBuilder", "append", "(Ljava/lang/String;)Ljava/lang/StringBuilder;"⟩ : MethodName)) hown (mvT hZ (hw _ (List.mem_of_getElem? (i := 139) rfl))) (mvT hZ (hw _ (List.mem_of_getElem? (i := 105) rfl))) (notFace_of_selects (args := #[]) (mvT hZ (hw _ (List.mem_of_getElem? (i := 107) rfl)))) (mvT hZ (hw _ (List.mem_of_getElem? (i := 107) rfl))) (mvT hZ (hw _ (List.mem_of_getElem? (i := 106) rfl))) (by decide) (backOf (W := 0) (sb_appS l Z a0 hw [] b109 b 17 [x0, y0, y1, (44 : Int32), (32 : Int32), y0, y1].length (tf [x0, y0, y1, (44 : Int32), (32 : Int32), y0, y1]) u2 v2 [(44 : Int32), (32 : Int32)].length (tf [(44 : Int32), (32 : Int32)]) cs T117.heap h0.size Zs4 S0 hcs Os4 Fs4 Lx2 (by simp) gs gb) hZ (hw _ (List.mem_of_getElem? (i := 108) rfl)) (hw _ (List.mem_of_getElem? (i := 71) rfl)) (by decide) (by decide)) q118a q118c (g := (mkF m 29 #[.val (.ref a1), .val (.int (3 : Int32)), .val (.ref b109), .val (.int (2 : Int32))] [(.ref u2), (.ref b109)])) rfl (by rw [hml]; rfl) (Steps.refl _) (argsL := [(.ref u2)]) (rest := []) (lenOf pd_16 rfl) rfl (by show 2 * 0 + _ ≤ _; exact Nat.le_of_eq rfl) (hb hby d13_29) (fun _ _ => ⟨rfl, rfl, (by decide : 4 + 0 ≤ _), (by decide : 33 + 0 ≤ _)⟩)
  dsimp only [Pt.U, Pt.locs, Pt.cells, Pt.slots] at X118 l118 y118 z118 st118 hQ118
  subst l118 y118 z118
  obtain ⟨rfl, N118q, K118, Fx118⟩ := hQ118
  have N118 := Fr.app N117 N118q
  refine EndsW.st st118 ?_
  have Fs5 : SBd Z T118.heap b109 b 17 [x0, y0, y1, (44 : Int32), (32 : Int32), y0, y1, (44 : Int32), (32 : Int32)].length (tf [x0, y0, y1, (44 : Int32), (32 : Int32), y0, y1, (44 : Int32), (32 : Int32)]) := SBd.cat Fx118
  have Kk5 : Keep h0 T118.heap [] := Kk4.trans K118 (allS (Or.inr gs) (allS (Or.inr gb) all0))
  have Zs5 : h0.size ≤ T118.heap.size := Kk5.1
  have Os5 := OH.keep Kk5 all0
  have Lx3 := Lx2.keep K118 nus nvs
  have gL3 : h114.size ≤ T118.heap.size := Nat.le_trans gL2 K118.1
  refine EndsW.of (F' := T118.setTop (mkF m 33 #[.val (.ref a1), .val (.int (3 : Int32)), .val (.ref b109), .val (.int (2 : Int32))] [(.ref a1), (.ref b109)])) (fun _ kt => ?_) ?_
  · show Steps p.tables e below (T118.setTop (mkF m 32 #[.val (.ref a1), .val (.int (3 : Int32)), .val (.ref b109), .val (.int (2 : Int32))] [(.ref b109)])) _
    refine XS.aloadN X118.here hx rfl (hb hby d13_32) rfl rfl ?_
    exact kt
  obtain ⟨T119, X119, e119, st119⟩ := getF X118 hx hZ hown (host := "") (Or.inl (hw _ (List.mem_of_getElem? (i := 58) rfl))) Via.refl rfl (F_row.keep Kk5 nin0) (g := (mkF m 33 #[.val (.ref a1), .val (.int (3 : Int32)), .val (.ref b109), .val (.int (2 : Int32))] [(.ref a1), (.ref b109)])) rfl rfl (hb hby d13_33)
  refine EndsW.of st119 ?_
  obtain ⟨cq120, kq120, q120a, q120b, q120c⟩ := isOf hZ e119 Fs5.1
  obtain ⟨_, _, ⟨T120, L120, k120, n120⟩, -, X120, ⟨Lc120, hQ120, l120, y120, z120⟩, st120⟩ := X119.virtualBack hx (y := (⟨"java/lang/StringBuilder", "append", "(Ljava/lang/String;)Ljava/lang/StringBuilder;"⟩ : MethodName)) (z := (⟨"java/lang/StringBuilder", "append", "(Ljava/lang/String;)Ljava/lang/StringBuilder;"⟩ : MethodName)) hown (mvT hZ (hw _ (List.mem_of_getElem? (i := 139) rfl))) (mvT hZ (hw _ (List.mem_of_getElem? (i := 105) rfl))) (notFace_of_selects (args := #[]) (mvT hZ (hw _ (List.mem_of_getElem? (i := 107) rfl)))) (mvT hZ (hw _ (List.mem_of_getElem? (i := 107) rfl))) (mvT hZ (hw _ (List.mem_of_getElem? (i := 106) rfl))) (by decide) (backOf (W := 0) (sb_appS l Z a0 hw [] b109 b 17 [x0, y0, y1, (44 : Int32), (32 : Int32), y0, y1, (44 : Int32), (32 : Int32)].length (tf [x0, y0, y1, (44 : Int32), (32 : Int32), y0, y1, (44 : Int32), (32 : Int32)]) sr dsr [y0, y1].length (tf [y0, y1]) cs T118.heap h0.size Zs5 S0 hcs Os5 Fs5 (T_sr.keep Kk5 nin0 nin0) (by simp) gs gb) hZ (hw _ (List.mem_of_getElem? (i := 108) rfl)) (hw _ (List.mem_of_getElem? (i := 71) rfl)) (by decide) (by decide)) q120a q120c (g := (mkF m 36 #[.val (.ref a1), .val (.int (3 : Int32)), .val (.ref b109), .val (.int (2 : Int32))] [(.ref sr), (.ref b109)])) rfl (by rw [hml]; rfl) (Steps.refl _) (argsL := [(.ref sr)]) (rest := []) (lenOf pd_16 rfl) rfl (by show 2 * 0 + _ ≤ _; exact Nat.le_of_eq rfl) (hb hby d13_36) (fun _ _ => ⟨rfl, e119, (by decide : 4 + 0 ≤ _), (by decide : 33 + 0 ≤ _)⟩)
  dsimp only [Pt.U, Pt.locs, Pt.cells, Pt.slots] at X120 l120 y120 z120 st120 hQ120
  subst l120 y120 z120
  obtain ⟨rfl, N120q, K120, Fx120⟩ := hQ120
  have N120 := Fr.app N118 N120q
  refine EndsW.st st120 ?_
  have Fs6 : SBd Z T120.heap b109 b 17 [x0, y0, y1, (44 : Int32), (32 : Int32), y0, y1, (44 : Int32), (32 : Int32), y0, y1].length (tf [x0, y0, y1, (44 : Int32), (32 : Int32), y0, y1, (44 : Int32), (32 : Int32), y0, y1]) := SBd.cat Fx120
  have Kk6 : Keep h0 T120.heap [] := Kk5.trans K120 (allS (Or.inr gs) (allS (Or.inr gb) all0))
  have Zs6 : h0.size ≤ T120.heap.size := Kk6.1
  have Os6 := OH.keep Kk6 all0
  have Lx4 := Lx3.keep K120 nus nvs
  have gL4 : h114.size ≤ T120.heap.size := Nat.le_trans gL3 K120.1
  refine EndsW.of (F' := T120.setTop (mkF m 21 #[.val (.ref a1), .val (.int (3 : Int32)), .val (.ref b109), .val (.int ((2 : Int32) + (1 : Int32)))] [])) (fun _ kt => ?_) ?_
  · show Steps p.tables e below (T120.setTop (mkF m 39 #[.val (.ref a1), .val (.int (3 : Int32)), .val (.ref b109), .val (.int (2 : Int32))] [(.ref b109)])) _
    refine XS.pop X120.here hx rfl (hb hby d13_39) rfl rfl ?_
    show Steps p.tables e below (T120.setTop (mkF m 40 #[.val (.ref a1), .val (.int (3 : Int32)), .val (.ref b109), .val (.int (2 : Int32))] [])) _
    refine XS.iinc X120.here hx rfl (hb hby d13_40) rfl (l' := #[.val (.ref a1), .val (.int (3 : Int32)), .val (.ref b109), .val (.int ((2 : Int32) + (1 : Int32)))]) rfl ?_
    show Steps p.tables e below (T120.setTop (mkF m 43 #[.val (.ref a1), .val (.int (3 : Int32)), .val (.ref b109), .val (.int ((2 : Int32) + (1 : Int32)))] [])) _
    refine XS.goto X120.here hx rfl (pc0 := 43) (pc' := 21) rfl (hb hby d13_43) (by decide) (by decide) ?_
    exact kt
  rw [show (2 : Int32) + (1 : Int32) = (3 : Int32) by decide]
  refine EndsW.of (F' := T120.setTop (mkF m 48 #[.val (.ref a1), .val (.int (3 : Int32)), .val (.ref b109), .val (.int (3 : Int32))] [(.ref a1), (.ref b109)])) (fun _ kt => ?_) ?_
  · show Steps p.tables e below (T120.setTop (mkF m 21 #[.val (.ref a1), .val (.int (3 : Int32)), .val (.ref b109), .val (.int (3 : Int32))] [])) _
    refine XS.iloadN X120.here hx rfl (hb hby d13_21) rfl ?_
    show Steps p.tables e below (T120.setTop (mkF m 22 #[.val (.ref a1), .val (.int (3 : Int32)), .val (.ref b109), .val (.int (3 : Int32))] [(.int (3 : Int32))])) _
    refine XS.iloadN X120.here hx rfl (hb hby d13_22) rfl ?_
    show Steps p.tables e below (T120.setTop (mkF m 23 #[.val (.ref a1), .val (.int (3 : Int32)), .val (.ref b109), .val (.int (3 : Int32))] [(.int (3 : Int32)), (.int (3 : Int32))])) _
    refine XS.icmpYes X120.here hx rfl (pc0 := 23) (pc' := 46) rfl (hb hby d13_23) rfl (flt (by decide)).2.1 (by decide) (by decide) ?_
    show Steps p.tables e below (T120.setTop (mkF m 46 #[.val (.ref a1), .val (.int (3 : Int32)), .val (.ref b109), .val (.int (3 : Int32))] [])) _
    refine XS.aloadN X120.here hx rfl (hb hby d13_46) rfl rfl ?_
    show Steps p.tables e below (T120.setTop (mkF m 47 #[.val (.ref a1), .val (.int (3 : Int32)), .val (.ref b109), .val (.int (3 : Int32))] [(.ref b109)])) _
    refine XS.aloadN X120.here hx rfl (hb hby d13_47) rfl rfl ?_
    exact kt
  obtain ⟨T121, X121, e121, st121⟩ := getF X120 hx hZ hown (host := "") (Or.inl (hw _ (List.mem_of_getElem? (i := 60) rfl))) Via.refl rfl (F_tail.keep Kk6 nin0) (g := (mkF m 48 #[.val (.ref a1), .val (.int (3 : Int32)), .val (.ref b109), .val (.int (3 : Int32))] [(.ref a1), (.ref b109)])) rfl rfl (hb hby d13_48)
  refine EndsW.of st121 ?_
  obtain ⟨cq122, kq122, q122a, q122b, q122c⟩ := isOf hZ e121 Fs6.1
  obtain ⟨_, _, ⟨T122, L122, k122, n122⟩, -, X122, ⟨Lc122, hQ122, l122, y122, z122⟩, st122⟩ := X121.virtualBack hx (y := (⟨"java/lang/StringBuilder", "append", "(Ljava/lang/String;)Ljava/lang/StringBuilder;"⟩ : MethodName)) (z := (⟨"java/lang/StringBuilder", "append", "(Ljava/lang/String;)Ljava/lang/StringBuilder;"⟩ : MethodName)) hown (mvT hZ (hw _ (List.mem_of_getElem? (i := 139) rfl))) (mvT hZ (hw _ (List.mem_of_getElem? (i := 105) rfl))) (notFace_of_selects (args := #[]) (mvT hZ (hw _ (List.mem_of_getElem? (i := 107) rfl)))) (mvT hZ (hw _ (List.mem_of_getElem? (i := 107) rfl))) (mvT hZ (hw _ (List.mem_of_getElem? (i := 106) rfl))) (by decide) (backOf (W := 0) (sb_appS l Z a0 hw [] b109 b 17 [x0, y0, y1, (44 : Int32), (32 : Int32), y0, y1, (44 : Int32), (32 : Int32), y0, y1].length (tf [x0, y0, y1, (44 : Int32), (32 : Int32), y0, y1, (44 : Int32), (32 : Int32), y0, y1]) st dst [z0].length (tf [z0]) cs T120.heap h0.size Zs6 S0 hcs Os6 Fs6 (T_st.keep Kk6 nin0 nin0) (by simp) gs gb) hZ (hw _ (List.mem_of_getElem? (i := 108) rfl)) (hw _ (List.mem_of_getElem? (i := 71) rfl)) (by decide) (by decide)) q122a q122c (g := (mkF m 51 #[.val (.ref a1), .val (.int (3 : Int32)), .val (.ref b109), .val (.int (3 : Int32))] [(.ref st), (.ref b109)])) rfl (by rw [hml]; rfl) (Steps.refl _) (argsL := [(.ref st)]) (rest := []) (lenOf pd_16 rfl) rfl (by show 2 * 0 + _ ≤ _; exact Nat.le_of_eq rfl) (hb hby d13_51) (fun _ _ => ⟨rfl, e121, (by decide : 4 + 0 ≤ _), (by decide : 33 + 0 ≤ _)⟩)
  dsimp only [Pt.U, Pt.locs, Pt.cells, Pt.slots] at X122 l122 y122 z122 st122 hQ122
  subst l122 y122 z122
  obtain ⟨rfl, N122q, K122, Fx122⟩ := hQ122
  have N122 := Fr.app N120 N122q
  refine EndsW.st st122 ?_
  have Fs7 : SBd Z T122.heap b109 b 17 [x0, y0, y1, (44 : Int32), (32 : Int32), y0, y1, (44 : Int32), (32 : Int32), y0, y1, z0].length (tf [x0, y0, y1, (44 : Int32), (32 : Int32), y0, y1, (44 : Int32), (32 : Int32), y0, y1, z0]) := SBd.cat Fx122
  have Kk7 : Keep h0 T122.heap [] := Kk6.trans K122 (allS (Or.inr gs) (allS (Or.inr gb) all0))
  have Zs7 : h0.size ≤ T122.heap.size := Kk7.1
  have Os7 := OH.keep Kk7 all0
  obtain ⟨cq123, kq123, q123a, q123b, q123c⟩ := isOf hZ rfl Fs7.1
  obtain ⟨_, _, ⟨T123, L123, k123, n123⟩, -, X123, ⟨Lc123, hQ123, l123, y123, z123⟩, st123⟩ := X122.virtualBack hx (y := (⟨"java/lang/StringBuilder", "toString", "()Ljava/lang/String;"⟩ : MethodName)) (z := (⟨"java/lang/StringBuilder", "toString", "()Ljava/lang/String;"⟩ : MethodName)) hown (mvT hZ (hw _ (List.mem_of_getElem? (i := 140) rfl))) (mvT hZ (hw _ (List.mem_of_getElem? (i := 141) rfl))) (notFace_of_selects (args := #[]) (mvT hZ (hw _ (List.mem_of_getElem? (i := 143) rfl)))) (mvT hZ (hw _ (List.mem_of_getElem? (i := 143) rfl))) (mvT hZ (hw _ (List.mem_of_getElem? (i := 142) rfl))) (by decide) (backOf (W := 0) (sb_str l Z a0 hw [] b109 b 17 [x0, y0, y1, (44 : Int32), (32 : Int32), y0, y1, (44 : Int32), (32 : Int32), y0, y1, z0].length (tf [x0, y0, y1, (44 : Int32), (32 : Int32), y0, y1, (44 : Int32), (32 : Int32), y0, y1, z0]) cs T122.heap h0.size Zs7 S0 hcs Os7 Fs7 (by simp) (by simp)) hZ (hw _ (List.mem_of_getElem? (i := 144) rfl)) (hw _ (List.mem_of_getElem? (i := 71) rfl)) (by decide) (by decide)) q123a q123c (g := (mkF m 54 #[.val (.ref a1), .val (.int (3 : Int32)), .val (.ref b109), .val (.int (3 : Int32))] [(.ref b109)])) rfl (by rw [hml]; rfl) (Steps.refl _) (argsL := []) (rest := []) (lenOf pd_21 rfl) rfl (by show 2 * 0 + _ ≤ _; exact Nat.le_of_eq rfl) (hb hby d13_54) (fun _ _ => ⟨rfl, rfl, (by decide : 4 + 2 ≤ _), (by decide : 33 + 20 ≤ _)⟩)
  dsimp only [Pt.U, Pt.locs, Pt.cells, Pt.slots] at X123 l123 y123 z123 st123 hQ123
  subst l123 y123 z123
  obtain ⟨d123, rfl, N123q, K123, St123, gd123⟩ := hQ123
  have N123 := Fr.app N122 N123q
  refine EndsW.st st123 ?_
  have Ke : Keep h0 T123.heap [] := Kk7.trans K123 all0
  have hkz : k114 ≤ T123.heap.size := Nat.le_trans hk (Nat.le_trans gL4 (Nat.le_trans K122.1 K123.1))
  obtain ⟨fs, hr, hrun, hended, hEW⟩ := X123.leaveW hS hkz (v := some (.ref T122.heap.size)) (fun h => by rw [Bd.returns] at h; cases h)
  refine ⟨_, _, ?_, hrun, hended, _, _, rfl, ⟨_, d123, rfl, own_frm Z0 N123, Ke, St123⟩, hEW.1, hEW.2.1, hEW.2.2.1, hEW.2.2.2.mono (by decide) (by decide)⟩
  show Steps p.tables e below (T123.setTop (mkF m 57 #[.val (.ref a1), .val (.int (3 : Int32)), .val (.ref b109), .val (.int (3 : Int32))] [(.ref T122.heap.size)])) _
  jvm_step X123.here [X123.here.top, hx, (hb hby d13_57), X123.method', Bd.returns, Value.isRef, FieldType.isReference]
  first | (intro acts; rw [hr _ acts rfl rfl rfl]) | rw [hr _ _ rfl rfl rfl]
  exact Steps.refl _
theorem pn_8 : plainName "com/example/coordinant/coordinant/RowsStatementPinLaw" = true := by first | (simp [plainName, overriddenIn]; done) | decide +kernel
def Q0 (Z : State) (p1 : Int32) (p2 : Int32) (p3 : Int32) (p4 : Int32) (p5 : Int32) (cs : Int32) (h0 : Heap) (n0 : Nat) (v : Option Value) (h : Heap) (L : List Loc) : Prop := v = some (.int (1 : Int32)) ∧ Fr n0 L
set_option maxRecDepth 65536 in
set_option maxHeartbeats 40000000 in
theorem rm0 (l : Launch) (Z : State) (a0 : Array Value) (hw : ∀ d ∈ tables_1, d.before a0 Z = true) (ws : List Jvm.Cond) (p1 : Int32) (p2 : Int32) (p3 : Int32) (p4 : Int32) (p5 : Int32) (cs : Int32) (h0 : Heap) (n0 : Nat) (Z0 : n0 ≤ h0.size) (S0 : Sta Z Z.heap "java/lang/String" "COMPACT_STRINGS" "Z" (.int cs)) (hcs : ¬ cs = (0 : Int32)) (O : Oll Z n0 h0) (hh0 : ∀ q ∈ consts_1, Jvm.Lit.constHeld Z q.1 q.2) (hcw : Jvm.Lit.compactW.before a0 Z = true) :
    MetFree l x (head1 (Jvm.Cond.code x code maxLocals ret :: ws) room_1) (fun a U => a = #[(.int p1), (.int p2), (.int p3), (.int p4), (.int p5)] ∧ Z.Warmed39 U.vm ∧ U.heap = h0 ∧ U = Z) (fun _ _ _ _ _ => True) (fun _ U o U' => ∃ v L, o = .returned v ∧ Q0 Z p1 p2 p3 p4 p5 cs h0 n0 v U'.heap L ∧ ReturnedEndW U o U' L room_1.cells room_1.slots) := by
  refine MetFree.of_bodySF (plainFor_of_name pn_8) hisR ?_
  intro p e s m args below meth c s₁ Bd hml0 hP hK
  obtain ⟨rfl, hZ, hh, hUZ⟩ := hP
  have hx := Bd.exec
  have hby := Bd.bytes
  have hml : c.maxLocals = 16 := hml0
  have hown : s.vm.findClass "com/example/coordinant/coordinant/RowsStatementPinLaw" = some m.cls := findClass_of_methodNamed Bd.named
  have hnm := (name_of_methodNamed Bd.named Bd.method).1
  have X0 : Stand p l e room_1 s m #[(.int p1), (.int p2), (.int p3), (.int p4), (.int p5)] below meth c s₁ [] 0 0 := Stand.of_body Bd
  have e0 : s₁.heap = h0 := by rw [← hh, Bd.state]; rfl
  have N0 := Fr.nil n0
  have eF : entryFrame m #[(.int p1), (.int p2), (.int p3), (.int p4), (.int p5)] maxLocals = mkF m 0 #[.val (.int p1), .val (.int p2), .val (.int p3), .val (.int p4), .val (.int p5), .unset, .unset, .unset, .unset, .unset, .unset, .unset, .unset, .unset, .unset, .unset] [] := by first | (simp [entryFrame, mkF, argsToLocals, Value.category, maxLocals]; done) | rfl
  show EndsW p e below s room_1 (Q0 Z p1 p2 p3 p4 p5 cs h0 n0) (s₁.setTop (entryFrame m #[(.int p1), (.int p2), (.int p3), (.int p4), (.int p5)] maxLocals))
  rw [eF]
  have hI : s.vm.interned = Z.vm.interned := by rw [hUZ]
  have hS0 : s.Since s.vm s.heap.size := (State.WarmedH.refl s).since _
  have mid : ∀ (hc r0 r1 tc : Int32), Lch hc → Lch r0 → Lch r1 → Lch tc → EndsW p e below s room_1 (Q0 Z p1 p2 p3 p4 p5 cs h0 n0) (s₁.setTop (mkF m 35 #[.val (.int p1), .val (.int p2), .val (.int p3), .val (.int p4), .val (.int p5), .val (.int hc), .val (.int r0), .val (.int r1), .val (.int tc), .unset, .unset, .unset, .unset, .unset, .unset, .unset] [])) := by
    intro hc r0 r1 tc c1 c2 c3 c4
    refine EndsW.of (F' := s₁.setTop (mkF m 37 #[.val (.int p1), .val (.int p2), .val (.int p3), .val (.int p4), .val (.int p5), .val (.int hc), .val (.int r0), .val (.int r1), .val (.int tc), .unset, .unset, .unset, .unset, .unset, .unset, .unset] [(.int hc)])) (fun _ kt => ?_) ?_
    · show Steps p.tables e below (s₁.setTop (mkF m 35 #[.val (.int p1), .val (.int p2), .val (.int p3), .val (.int p4), .val (.int p5), .val (.int hc), .val (.int r0), .val (.int r1), .val (.int tc), .unset, .unset, .unset, .unset, .unset, .unset, .unset] [])) _
      refine XS.iload X0.here hx rfl (hb hby at_35) rfl ?_
      exact kt
    obtain ⟨_, _, ⟨T124, L124, k124, n124⟩, -, X124, ⟨Lc124, hQ124, l124, y124, z124⟩, st124⟩ := Jvm.LawKit.callS X0 hx (y := (⟨"java/lang/String", "valueOf", "(C)Ljava/lang/String;"⟩ : MethodName)) hown (mvT hZ (hw _ (List.mem_of_getElem? (i := 0) rfl))) (mvT hZ (hw _ (List.mem_of_getElem? (i := 1) rfl))) (mvT hZ (hw _ (List.mem_of_getElem? (i := 2) rfl))) (mvT hZ (hw _ (List.mem_of_getElem? (i := 3) rfl))) (by decide) (backOf (W := 0) (str_valC l Z a0 hw [] hc cs h0 n0 Z0 S0 hcs O c1.1) hZ (hw _ (List.mem_of_getElem? (i := 3) rfl)) (hw _ (List.mem_of_getElem? (i := 2) rfl)) (by decide) (by decide)) (g := (mkF m 37 #[.val (.int p1), .val (.int p2), .val (.int p3), .val (.int p4), .val (.int p5), .val (.int hc), .val (.int r0), .val (.int r1), .val (.int tc), .unset, .unset, .unset, .unset, .unset, .unset, .unset] [(.int hc)])) rfl (by rw [hml]; rfl) (argsL := [(.int hc)]) (rest := []) (lenOf pd_0 rfl) rfl (by show 2 * 0 + _ ≤ _; exact Nat.le_of_eq rfl) (hb hby at_37) (fun _ _ => ⟨rfl, e0, (by decide : 0 + 2 ≤ _), (by decide : 0 + 5 ≤ _)⟩)
    dsimp only [Pt.U, Pt.locs, Pt.cells, Pt.slots] at X124 l124 y124 z124 st124 hQ124
    subst l124 y124 z124
    obtain ⟨bv124, rfl, N124q, K124, St124⟩ := hQ124
    have N124 := Fr.app N0 N124q
    refine EndsW.of st124 ?_
    have S_h : Str Z T124.heap h0.size bv124 1 (tf [hc.toInt8.toInt32]) := St124.congr (fun i hi => by
      rcases (by omega : i = 0) with rfl; rfl)
    have Kt1 : Keep h0 T124.heap [] := (Keep.refl h0 []).trans K124 all0
    have Zt1 : n0 ≤ T124.heap.size := Nat.le_trans Z0 Kt1.1
    have Ot1 := O.keep Kt1 all0
    refine EndsW.of (F' := T124.setTop (mkF m 42 #[.val (.int p1), .val (.int p2), .val (.int p3), .val (.int p4), .val (.int p5), .val (.int hc), .val (.int r0), .val (.int r1), .val (.int tc), .val (.ref h0.size), .unset, .unset, .unset, .unset, .unset, .unset] [])) (fun _ kt => ?_) ?_
    · show Steps p.tables e below (T124.setTop (mkF m 40 #[.val (.int p1), .val (.int p2), .val (.int p3), .val (.int p4), .val (.int p5), .val (.int hc), .val (.int r0), .val (.int r1), .val (.int tc), .unset, .unset, .unset, .unset, .unset, .unset, .unset] [(.ref h0.size)])) _
      refine XS.astore X124.here hx rfl (hb hby at_40) rfl rfl (l' := #[.val (.int p1), .val (.int p2), .val (.int p3), .val (.int p4), .val (.int p5), .val (.int hc), .val (.int r0), .val (.int r1), .val (.int tc), .val (.ref h0.size), .unset, .unset, .unset, .unset, .unset, .unset]) rfl ?_
      exact kt
    obtain ⟨T125, h125, X125, e125, E125, A125, D125, -, st125⟩ := newO X124 hx hZ hown (hw _ (List.mem_of_getElem? (i := 26) rfl)) (hw _ (List.mem_of_getElem? (i := 10) rfl)) (hw _ (List.mem_of_getElem? (i := 2) rfl)) rfl (g := (mkF m 42 #[.val (.int p1), .val (.int p2), .val (.int p3), .val (.int p4), .val (.int p5), .val (.int hc), .val (.int r0), .val (.int r1), .val (.int tc), .val (.ref h0.size), .unset, .unset, .unset, .unset, .unset, .unset] [])) rfl (hb hby at_42) (by decide) (by decide)
    obtain ⟨b125, g125⟩ : ∃ z, z = T124.heap.size := ⟨_, rfl⟩
    rw [← g125] at A125 D125 st125
    have F_value_b125 : Fld Z h125 b125 "java/lang/String" "value" "[B" .null := D125 (Or.inr (hw _ (List.mem_of_getElem? (i := 23) rfl))) (ty := (.array .byte)) (by decide)
    have F_coder_b125 : Fld Z h125 b125 "java/lang/String" "coder" "B" (.int (0 : Int32)) := D125 (Or.inr (hw _ (List.mem_of_getElem? (i := 25) rfl))) (ty := .byte) (by decide)
    refine EndsW.of st125 ?_
    refine EndsW.of (F' := T125.setTop (mkF m 47 #[.val (.int p1), .val (.int p2), .val (.int p3), .val (.int p4), .val (.int p5), .val (.int hc), .val (.int r0), .val (.int r1), .val (.int tc), .val (.ref h0.size), .unset, .unset, .unset, .unset, .unset, .unset] [(.int (2 : Int32)), (.ref b125), (.ref b125)])) (fun _ kt => ?_) ?_
    · show Steps p.tables e below (T125.setTop (mkF m 45 #[.val (.int p1), .val (.int p2), .val (.int p3), .val (.int p4), .val (.int p5), .val (.int hc), .val (.int r0), .val (.int r1), .val (.int tc), .val (.ref h0.size), .unset, .unset, .unset, .unset, .unset, .unset] [(.ref b125)])) _
      refine XS.dup X125.here hx rfl (hb hby at_45) rfl rfl ?_
      show Steps p.tables e below (T125.setTop (mkF m 46 #[.val (.int p1), .val (.int p2), .val (.int p3), .val (.int p4), .val (.int p5), .val (.int hc), .val (.int r0), .val (.int r1), .val (.int tc), .val (.ref h0.size), .unset, .unset, .unset, .unset, .unset, .unset] [(.ref b125), (.ref b125)])) _
      refine XS.iconst X125.here hx rfl (hb hby at_46) ?_
      exact kt
    obtain ⟨T126, h126, k126, X126, e126, E126, A126, st126⟩ := newP X125 hx hZ (hw _ (List.mem_of_getElem? (i := 27) rfl)) e125 (g := (mkF m 47 #[.val (.int p1), .val (.int p2), .val (.int p3), .val (.int p4), .val (.int p5), .val (.int hc), .val (.int r0), .val (.int r1), .val (.int tc), .val (.ref h0.size), .unset, .unset, .unset, .unset, .unset, .unset] [(.int (2 : Int32)), (.ref b125), (.ref b125)])) rfl (hb hby at_47) rfl (by decide) (cap := 2) (by decide) (by decide) (by decide) (by decide)
    obtain ⟨b126, g126⟩ : ∃ z, z = h125.size := ⟨_, rfl⟩
    rw [← g126] at A126 st126
    refine EndsW.of st126 ?_
    have V126_0 : Ary .char Z h126 b126 2 (fun _ => 0) := Ary.new (n := 2) A126 (by omega) rfl
    have ga126 : T124.heap.size ≤ b126 := Nat.le_trans E125.1 (Nat.le_of_eq g126.symm)
    have gs126 : T124.heap.size ≤ b125 := Nat.le_of_eq g125.symm
    have ne126 : b125 ≠ b126 := Nat.ne_of_lt (Nat.lt_of_lt_of_le A125.lt (Nat.le_of_eq g126.symm))
    have Km126_0 : Keep h125 h126 [b126] := (Keep.refl h125 [b126]).ext E126
    obtain ⟨cx126_0, Ax126_0, Sx126_0, -, put126_0⟩ := V126_0.op
    refine EndsW.of (F' := T126.setTop (mkF m 53 #[.val (.int p1), .val (.int p2), .val (.int p3), .val (.int p4), .val (.int p5), .val (.int hc), .val (.int r0), .val (.int r1), .val (.int tc), .val (.ref h0.size), .unset, .unset, .unset, .unset, .unset, .unset] [(.int r0), (.int (0 : Int32)), (.ref b126), (.ref b126), (.ref b125), (.ref b125)])) (fun _ kt => ?_) ?_
    · show Steps p.tables e below (T126.setTop (mkF m 49 #[.val (.int p1), .val (.int p2), .val (.int p3), .val (.int p4), .val (.int p5), .val (.int hc), .val (.int r0), .val (.int r1), .val (.int tc), .val (.ref h0.size), .unset, .unset, .unset, .unset, .unset, .unset] [(.ref b126), (.ref b125), (.ref b125)])) _
      refine XS.dup X126.here hx rfl (hb hby at_49) rfl rfl ?_
      show Steps p.tables e below (T126.setTop (mkF m 50 #[.val (.int p1), .val (.int p2), .val (.int p3), .val (.int p4), .val (.int p5), .val (.int hc), .val (.int r0), .val (.int r1), .val (.int tc), .val (.ref h0.size), .unset, .unset, .unset, .unset, .unset, .unset] [(.ref b126), (.ref b126), (.ref b125), (.ref b125)])) _
      refine XS.iconst X126.here hx rfl (hb hby at_50) ?_
      show Steps p.tables e below (T126.setTop (mkF m 51 #[.val (.int p1), .val (.int p2), .val (.int p3), .val (.int p4), .val (.int p5), .val (.int hc), .val (.int r0), .val (.int r1), .val (.int tc), .val (.ref h0.size), .unset, .unset, .unset, .unset, .unset, .unset] [(.int (0 : Int32)), (.ref b126), (.ref b126), (.ref b125), (.ref b125)])) _
      refine XS.iload X126.here hx rfl (hb hby at_51) rfl ?_
      exact kt
    obtain ⟨T127, h127, X127, e127, W127, st127⟩ := stC X126 hx hZ e126 Ax126_0 (j := (0 : Int32)) (own_hin (i := 0) Sx126_0 rfl (by omega) (by omega)) (g := (mkF m 53 #[.val (.int p1), .val (.int p2), .val (.int p3), .val (.int p4), .val (.int p5), .val (.int hc), .val (.int r0), .val (.int r1), .val (.int tc), .val (.ref h0.size), .unset, .unset, .unset, .unset, .unset, .unset] [(.int r0), (.int (0 : Int32)), (.ref b126), (.ref b126), (.ref b125), (.ref b125)])) rfl rfl (hb hby at_53)
    refine EndsW.of st127 ?_
    have N127 := Fr.snoc X127 N124 (Nat.le_trans Zt1 ga126)
    rw [c2.2] at W127
    have V126_1 := put126_0 _ _ _ 0 W127 (by decide) (by omega) c2.fits
    have Km126_1 := Km126_0.wr W127 (Or.inl (List.mem_of_getElem? (i := 0) rfl))
    obtain ⟨cx126_1, Ax126_1, Sx126_1, -, put126_1⟩ := V126_1.op
    refine EndsW.of (F' := T127.setTop (mkF m 58 #[.val (.int p1), .val (.int p2), .val (.int p3), .val (.int p4), .val (.int p5), .val (.int hc), .val (.int r0), .val (.int r1), .val (.int tc), .val (.ref h0.size), .unset, .unset, .unset, .unset, .unset, .unset] [(.int r1), (.int (1 : Int32)), (.ref b126), (.ref b126), (.ref b125), (.ref b125)])) (fun _ kt => ?_) ?_
    · show Steps p.tables e below (T127.setTop (mkF m 54 #[.val (.int p1), .val (.int p2), .val (.int p3), .val (.int p4), .val (.int p5), .val (.int hc), .val (.int r0), .val (.int r1), .val (.int tc), .val (.ref h0.size), .unset, .unset, .unset, .unset, .unset, .unset] [(.ref b126), (.ref b125), (.ref b125)])) _
      refine XS.dup X127.here hx rfl (hb hby at_54) rfl rfl ?_
      show Steps p.tables e below (T127.setTop (mkF m 55 #[.val (.int p1), .val (.int p2), .val (.int p3), .val (.int p4), .val (.int p5), .val (.int hc), .val (.int r0), .val (.int r1), .val (.int tc), .val (.ref h0.size), .unset, .unset, .unset, .unset, .unset, .unset] [(.ref b126), (.ref b126), (.ref b125), (.ref b125)])) _
      refine XS.iconst X127.here hx rfl (hb hby at_55) ?_
      show Steps p.tables e below (T127.setTop (mkF m 56 #[.val (.int p1), .val (.int p2), .val (.int p3), .val (.int p4), .val (.int p5), .val (.int hc), .val (.int r0), .val (.int r1), .val (.int tc), .val (.ref h0.size), .unset, .unset, .unset, .unset, .unset, .unset] [(.int (1 : Int32)), (.ref b126), (.ref b126), (.ref b125), (.ref b125)])) _
      refine XS.iload X127.here hx rfl (hb hby at_56) rfl ?_
      exact kt
    obtain ⟨T128, h128, X128, e128, W128, st128⟩ := stC X127 hx hZ e127 Ax126_1 (j := (1 : Int32)) (own_hin (i := 1) Sx126_1 rfl (by omega) (by omega)) (g := (mkF m 58 #[.val (.int p1), .val (.int p2), .val (.int p3), .val (.int p4), .val (.int p5), .val (.int hc), .val (.int r0), .val (.int r1), .val (.int tc), .val (.ref h0.size), .unset, .unset, .unset, .unset, .unset, .unset] [(.int r1), (.int (1 : Int32)), (.ref b126), (.ref b126), (.ref b125), (.ref b125)])) rfl rfl (hb hby at_58)
    refine EndsW.of st128 ?_
    have N128 := Fr.snoc X128 N127 (Nat.le_trans Zt1 ga126)
    rw [c3.2] at W128
    have V126_2 := put126_1 _ _ _ 1 W128 (by decide) (by omega) c3.fits
    have Km126_2 := Km126_1.wr W128 (Or.inl (List.mem_of_getElem? (i := 0) rfl))
    have Vc126 : Ary .char Z h128 b126 2 (tf [r0, r1]) := V126_2.congr (fun i hi => by
      rcases (by omega : i = 0 ∨ i = 1) with rfl | rfl <;> rfl)
    have Ka126 : Keep T124.heap h128 [] := ((Keep.refl T124.heap []).ext E125).trans Km126_2 (allS (Or.inr ga126) all0)
    have Kta126 : Keep h0 h128 [] := Kt1.trans Ka126 all0
    have Za126 : n0 ≤ h128.size := Nat.le_trans Z0 Kta126.1
    have ni126 : b125 ∉ [b126] := ninS ne126 nin0
    obtain ⟨_, _, ⟨T129, L129, k129, n129⟩, -, X129, ⟨Lc129, hQ129, l129, y129, z129⟩, st129⟩ := X128.specialBack hx (y := (⟨"java/lang/String", "<init>", "([C)V"⟩ : MethodName)) rfl hown (mvT hZ (hw _ (List.mem_of_getElem? (i := 28) rfl))) (mvT hZ (hw _ (List.mem_of_getElem? (i := 29) rfl))) (mvT hZ (hw _ (List.mem_of_getElem? (i := 30) rfl))) (by decide) (backOf (W := 1) (str_initC l Z a0 hw [] b125 b126 2 (tf [r0, r1]) cs h128 n0 Za126 S0 hcs (O.keep Kta126 all0) (A125.keep Km126_2) (F_value_b125.keep Km126_2 ni126) (F_coder_b125.keep Km126_2 ni126) Vc126 (fun i hi => by
      rcases (by omega : i = 0 ∨ i = 1) with rfl | rfl
      · exact c2.1
      · exact c3.1) (by omega) (by omega) (Nat.le_trans Zt1 gs126)) hZ (hw _ (List.mem_of_getElem? (i := 30) rfl)) (hw _ (List.mem_of_getElem? (i := 2) rfl)) (by decide) (by decide)) (g := (mkF m 59 #[.val (.int p1), .val (.int p2), .val (.int p3), .val (.int p4), .val (.int p5), .val (.int hc), .val (.int r0), .val (.int r1), .val (.int tc), .val (.ref h0.size), .unset, .unset, .unset, .unset, .unset, .unset] [(.ref b126), (.ref b125), (.ref b125)])) rfl (by rw [hml]; rfl) (Steps.refl _) (a := b125) (argsL := [(.ref b126)]) (rest := [(.ref b125)]) (lenOf pd_5 rfl) rfl (by show 2 * 0 + _ ≤ _; exact Nat.le_of_eq rfl) (hb hby at_59) (fun _ _ => ⟨rfl, e128, (by decide : 4 + 1 ≤ _), (by decide : 11 + 12 ≤ _)⟩)
    dsimp only [Pt.U, Pt.locs, Pt.cells, Pt.slots] at X129 l129 y129 z129 st129 hQ129
    subst l129 y129 z129
    obtain ⟨rfl, N129q, K129, bi129, St129, gi129⟩ := hQ129
    have N129 := Fr.app N128 N129q
    refine EndsW.st st129 ?_
    have S_r : Str Z T129.heap b125 bi129 2 (tf [r0.toInt8.toInt32, r1.toInt8.toInt32]) := St129.congr (fun i hi => by
      rcases (by omega : i = 0 ∨ i = 1) with rfl | rfl <;> first | rfl | (show (44 : Int32).toInt8.toInt32 = (44 : Int32); decide) | (show (32 : Int32).toInt8.toInt32 = (32 : Int32); decide))
    have Kb126 : Keep T124.heap T129.heap [] := Ka126.trans K129 (allS (Or.inr gs126) all0)
    have Kt2 : Keep h0 T129.heap [] := Kt1.trans Kb126 all0
    have Zt2 : n0 ≤ T129.heap.size := Nat.le_trans Z0 Kt2.1
    have Ot2 := O.keep Kt2 all0
    have S_h_2 := S_h.keep Kb126 nin0 nin0
    refine EndsW.of (F' := T129.setTop (mkF m 66 #[.val (.int p1), .val (.int p2), .val (.int p3), .val (.int p4), .val (.int p5), .val (.int hc), .val (.int r0), .val (.int r1), .val (.int tc), .val (.ref h0.size), .val (.ref b125), .unset, .unset, .unset, .unset, .unset] [(.int tc)])) (fun _ kt => ?_) ?_
    · show Steps p.tables e below (T129.setTop (mkF m 62 #[.val (.int p1), .val (.int p2), .val (.int p3), .val (.int p4), .val (.int p5), .val (.int hc), .val (.int r0), .val (.int r1), .val (.int tc), .val (.ref h0.size), .unset, .unset, .unset, .unset, .unset, .unset] [(.ref b125)])) _
      refine XS.astore X129.here hx rfl (hb hby at_62) rfl rfl (l' := #[.val (.int p1), .val (.int p2), .val (.int p3), .val (.int p4), .val (.int p5), .val (.int hc), .val (.int r0), .val (.int r1), .val (.int tc), .val (.ref h0.size), .val (.ref b125), .unset, .unset, .unset, .unset, .unset]) rfl ?_
      show Steps p.tables e below (T129.setTop (mkF m 64 #[.val (.int p1), .val (.int p2), .val (.int p3), .val (.int p4), .val (.int p5), .val (.int hc), .val (.int r0), .val (.int r1), .val (.int tc), .val (.ref h0.size), .val (.ref b125), .unset, .unset, .unset, .unset, .unset] [])) _
      refine XS.iload X129.here hx rfl (hb hby at_64) rfl ?_
      exact kt
    obtain ⟨_, _, ⟨T130, L130, k130, n130⟩, -, X130, ⟨Lc130, hQ130, l130, y130, z130⟩, st130⟩ := Jvm.LawKit.callS X129 hx (y := (⟨"java/lang/String", "valueOf", "(C)Ljava/lang/String;"⟩ : MethodName)) hown (mvT hZ (hw _ (List.mem_of_getElem? (i := 0) rfl))) (mvT hZ (hw _ (List.mem_of_getElem? (i := 1) rfl))) (mvT hZ (hw _ (List.mem_of_getElem? (i := 2) rfl))) (mvT hZ (hw _ (List.mem_of_getElem? (i := 3) rfl))) (by decide) (backOf (W := 0) (str_valC l Z a0 hw [] tc cs T129.heap n0 Zt2 S0 hcs Ot2 c4.1) hZ (hw _ (List.mem_of_getElem? (i := 3) rfl)) (hw _ (List.mem_of_getElem? (i := 2) rfl)) (by decide) (by decide)) (g := (mkF m 66 #[.val (.int p1), .val (.int p2), .val (.int p3), .val (.int p4), .val (.int p5), .val (.int hc), .val (.int r0), .val (.int r1), .val (.int tc), .val (.ref h0.size), .val (.ref b125), .unset, .unset, .unset, .unset, .unset] [(.int tc)])) rfl (by rw [hml]; rfl) (argsL := [(.int tc)]) (rest := []) (lenOf pd_0 rfl) rfl (by show 2 * 0 + _ ≤ _; exact Nat.le_of_eq rfl) (hb hby at_66) (fun _ _ => ⟨rfl, rfl, (by decide : 5 + 2 ≤ _), (by decide : 23 + 5 ≤ _)⟩)
    dsimp only [Pt.U, Pt.locs, Pt.cells, Pt.slots] at X130 l130 y130 z130 st130 hQ130
    subst l130 y130 z130
    obtain ⟨bv130, rfl, N130q, K130, St130⟩ := hQ130
    have N130 := Fr.app N129 N130q
    refine EndsW.of st130 ?_
    have S_t : Str Z T130.heap T129.heap.size bv130 1 (tf [tc.toInt8.toInt32]) := St130.congr (fun i hi => by
      rcases (by omega : i = 0) with rfl; rfl)
    have Kt3 : Keep h0 T130.heap [] := Kt2.trans K130 all0
    have Zt3 : n0 ≤ T130.heap.size := Nat.le_trans Z0 Kt3.1
    have Ot3 := O.keep Kt3 all0
    have S_h_3 := S_h_2.keep K130 nin0 nin0
    have S_r_3 := S_r.keep K130 nin0 nin0
    refine EndsW.of (F' := T130.setTop (mkF m 71 #[.val (.int p1), .val (.int p2), .val (.int p3), .val (.int p4), .val (.int p5), .val (.int hc), .val (.int r0), .val (.int r1), .val (.int tc), .val (.ref h0.size), .val (.ref b125), .val (.ref T129.heap.size), .unset, .unset, .unset, .unset] [])) (fun _ kt => ?_) ?_
    · show Steps p.tables e below (T130.setTop (mkF m 69 #[.val (.int p1), .val (.int p2), .val (.int p3), .val (.int p4), .val (.int p5), .val (.int hc), .val (.int r0), .val (.int r1), .val (.int tc), .val (.ref h0.size), .val (.ref b125), .unset, .unset, .unset, .unset, .unset] [(.ref T129.heap.size)])) _
      refine XS.astore X130.here hx rfl (hb hby at_69) rfl rfl (l' := #[.val (.int p1), .val (.int p2), .val (.int p3), .val (.int p4), .val (.int p5), .val (.int hc), .val (.int r0), .val (.int r1), .val (.int tc), .val (.ref h0.size), .val (.ref b125), .val (.ref T129.heap.size), .unset, .unset, .unset, .unset]) rfl ?_
      exact kt
    obtain ⟨T131, h131, X131, e131, E131, A131, D131, -, st131⟩ := newO X130 hx hZ hown (hw _ (List.mem_of_getElem? (i := 44) rfl)) (hw _ (List.mem_of_getElem? (i := 45) rfl)) (hw _ (List.mem_of_getElem? (i := 46) rfl)) rfl (g := (mkF m 71 #[.val (.int p1), .val (.int p2), .val (.int p3), .val (.int p4), .val (.int p5), .val (.int hc), .val (.int r0), .val (.int r1), .val (.int tc), .val (.ref h0.size), .val (.ref b125), .val (.ref T129.heap.size), .unset, .unset, .unset, .unset] [])) rfl (hb hby at_71) (by decide) (by decide)
    obtain ⟨b131, g131⟩ : ∃ z, z = T130.heap.size := ⟨_, rfl⟩
    rw [← g131] at A131 D131 st131
    have F_head_b131 : Fld Z h131 b131 "com/example/coordinant/coordinant/Log$Rows" "head" "Ljava/lang/String;" .null := D131 (Or.inr (hw _ (List.mem_of_getElem? (i := 57) rfl))) (ty := (.object "java/lang/String")) (by decide)
    have F_row_b131 : Fld Z h131 b131 "com/example/coordinant/coordinant/Log$Rows" "row" "Ljava/lang/String;" .null := D131 (Or.inr (hw _ (List.mem_of_getElem? (i := 59) rfl))) (ty := (.object "java/lang/String")) (by decide)
    have F_tail_b131 : Fld Z h131 b131 "com/example/coordinant/coordinant/Log$Rows" "tail" "Ljava/lang/String;" .null := D131 (Or.inr (hw _ (List.mem_of_getElem? (i := 61) rfl))) (ty := (.object "java/lang/String")) (by decide)
    have F_repeatable_b131 : Fld Z h131 b131 "com/example/coordinant/coordinant/Log$Rows" "repeatable" "Z" (.int (0 : Int32)) := D131 (Or.inr (hw _ (List.mem_of_getElem? (i := 63) rfl))) (ty := .boolean) (by decide)
    refine EndsW.of st131 ?_
    refine EndsW.of (F' := T131.setTop (mkF m 85 #[.val (.int p1), .val (.int p2), .val (.int p3), .val (.int p4), .val (.int p5), .val (.int hc), .val (.int r0), .val (.int r1), .val (.int tc), .val (.ref h0.size), .val (.ref b125), .val (.ref T129.heap.size), .unset, .unset, .unset, .unset] [(.int (p5 &&& (1 : Int32))), (.ref T129.heap.size), (.ref b125), (.ref h0.size), (.ref b131), (.ref b131)])) (fun _ kt => ?_) ?_
    · show Steps p.tables e below (T131.setTop (mkF m 74 #[.val (.int p1), .val (.int p2), .val (.int p3), .val (.int p4), .val (.int p5), .val (.int hc), .val (.int r0), .val (.int r1), .val (.int tc), .val (.ref h0.size), .val (.ref b125), .val (.ref T129.heap.size), .unset, .unset, .unset, .unset] [(.ref b131)])) _
      refine XS.dup X131.here hx rfl (hb hby at_74) rfl rfl ?_
      show Steps p.tables e below (T131.setTop (mkF m 75 #[.val (.int p1), .val (.int p2), .val (.int p3), .val (.int p4), .val (.int p5), .val (.int hc), .val (.int r0), .val (.int r1), .val (.int tc), .val (.ref h0.size), .val (.ref b125), .val (.ref T129.heap.size), .unset, .unset, .unset, .unset] [(.ref b131), (.ref b131)])) _
      refine XS.aload X131.here hx rfl (hb hby at_75) rfl rfl ?_
      show Steps p.tables e below (T131.setTop (mkF m 77 #[.val (.int p1), .val (.int p2), .val (.int p3), .val (.int p4), .val (.int p5), .val (.int hc), .val (.int r0), .val (.int r1), .val (.int tc), .val (.ref h0.size), .val (.ref b125), .val (.ref T129.heap.size), .unset, .unset, .unset, .unset] [(.ref h0.size), (.ref b131), (.ref b131)])) _
      refine XS.aload X131.here hx rfl (hb hby at_77) rfl rfl ?_
      show Steps p.tables e below (T131.setTop (mkF m 79 #[.val (.int p1), .val (.int p2), .val (.int p3), .val (.int p4), .val (.int p5), .val (.int hc), .val (.int r0), .val (.int r1), .val (.int tc), .val (.ref h0.size), .val (.ref b125), .val (.ref T129.heap.size), .unset, .unset, .unset, .unset] [(.ref b125), (.ref h0.size), (.ref b131), (.ref b131)])) _
      refine XS.aload X131.here hx rfl (hb hby at_79) rfl rfl ?_
      show Steps p.tables e below (T131.setTop (mkF m 81 #[.val (.int p1), .val (.int p2), .val (.int p3), .val (.int p4), .val (.int p5), .val (.int hc), .val (.int r0), .val (.int r1), .val (.int tc), .val (.ref h0.size), .val (.ref b125), .val (.ref T129.heap.size), .unset, .unset, .unset, .unset] [(.ref T129.heap.size), (.ref b125), (.ref h0.size), (.ref b131), (.ref b131)])) _
      refine XS.iload X131.here hx rfl (hb hby at_81) rfl ?_
      show Steps p.tables e below (T131.setTop (mkF m 83 #[.val (.int p1), .val (.int p2), .val (.int p3), .val (.int p4), .val (.int p5), .val (.int hc), .val (.int r0), .val (.int r1), .val (.int tc), .val (.ref h0.size), .val (.ref b125), .val (.ref T129.heap.size), .unset, .unset, .unset, .unset] [(.int p5), (.ref T129.heap.size), (.ref b125), (.ref h0.size), (.ref b131), (.ref b131)])) _
      refine XS.iconst X131.here hx rfl (hb hby at_83) ?_
      show Steps p.tables e below (T131.setTop (mkF m 84 #[.val (.int p1), .val (.int p2), .val (.int p3), .val (.int p4), .val (.int p5), .val (.int hc), .val (.int r0), .val (.int r1), .val (.int tc), .val (.ref h0.size), .val (.ref b125), .val (.ref T129.heap.size), .unset, .unset, .unset, .unset] [(.int (1 : Int32)), (.int p5), (.ref T129.heap.size), (.ref b125), (.ref h0.size), (.ref b131), (.ref b131)])) _
      refine XS.iand X131.here hx rfl (hb hby at_84) rfl ?_
      exact kt
    have rest : ∀ q5 : Int32, EndsW p e below s room_1 (Q0 Z p1 p2 p3 p4 p5 cs h0 n0) (T131.setTop (mkF m 93 #[.val (.int p1), .val (.int p2), .val (.int p3), .val (.int p4), .val (.int p5), .val (.int hc), .val (.int r0), .val (.int r1), .val (.int tc), .val (.ref h0.size), .val (.ref b125), .val (.ref T129.heap.size), .unset, .unset, .unset, .unset] [(.int q5), (.ref T129.heap.size), (.ref b125), (.ref h0.size), (.ref b131), (.ref b131)])) := by
      intro q5
      have gr : T130.heap.size ≤ b131 := Nat.le_of_eq g131.symm
      have Zr : n0 ≤ h131.size := Nat.le_trans Zt3 E131.1
      obtain ⟨_, _, ⟨T132, L132, k132, n132⟩, -, X132, ⟨Lc132, hQ132, l132, y132, z132⟩, st132⟩ := X131.specialBack hx (y := (⟨"com/example/coordinant/coordinant/Log$Rows", "<init>", "(Ljava/lang/String;Ljava/lang/String;Ljava/lang/String;Z)V"⟩ : MethodName)) rfl hown (mvT hZ (hw _ (List.mem_of_getElem? (i := 47) rfl))) (mvT hZ (hw _ (List.mem_of_getElem? (i := 48) rfl))) (mvT hZ (hw _ (List.mem_of_getElem? (i := 49) rfl))) (by decide) (backOf (W := 1) (rows_init l Z a0 hw [] b131 h0.size b125 T129.heap.size q5 h131 n0 Zr A131 F_head_b131 F_row_b131 F_tail_b131 F_repeatable_b131 (Nat.le_trans Zt3 gr)) hZ (hw _ (List.mem_of_getElem? (i := 49) rfl)) (hw _ (List.mem_of_getElem? (i := 46) rfl)) (by decide) (by decide)) (g := (mkF m 93 #[.val (.int p1), .val (.int p2), .val (.int p3), .val (.int p4), .val (.int p5), .val (.int hc), .val (.int r0), .val (.int r1), .val (.int tc), .val (.ref h0.size), .val (.ref b125), .val (.ref T129.heap.size), .unset, .unset, .unset, .unset] [(.int q5), (.ref T129.heap.size), (.ref b125), (.ref h0.size), (.ref b131), (.ref b131)])) rfl (by rw [hml]; rfl) (Steps.refl _) (a := b131) (argsL := [(.ref h0.size), (.ref b125), (.ref T129.heap.size), (.int q5)]) (rest := [(.ref b131)]) (lenOf pd_10 rfl) rfl (by show 2 * 0 + _ ≤ _; exact Nat.le_of_eq rfl) (hb hby at_93) (fun _ _ => ⟨rfl, e131, (by decide : 8 + 0 ≤ _), (by decide : 32 + 0 ≤ _)⟩)
      dsimp only [Pt.U, Pt.locs, Pt.cells, Pt.slots] at X132 l132 y132 z132 st132 hQ132
      subst l132 y132 z132
      obtain ⟨rfl, N132q, K132, E_r, F_h, F_r, F_t⟩ := hQ132
      have N132 := Fr.app N130 N132q
      refine EndsW.st st132 ?_
      have Kr : Keep T130.heap T132.heap [] := ((Keep.refl T130.heap []).ext E131).trans K132 (allS (Or.inr gr) all0)
      have Kt4 : Keep h0 T132.heap [] := Kt3.trans Kr all0
      have Zt4 : n0 ≤ T132.heap.size := Nat.le_trans Z0 Kt4.1
      have Ot4 := O.keep Kt4 all0
      have S_h_4 := S_h_3.keep Kr nin0 nin0
      have S_r_4 := S_r_3.keep Kr nin0 nin0
      have S_t_4 := S_t.keep Kr nin0 nin0
      refine EndsW.of (F' := T132.setTop (mkF m 100 #[.val (.int p1), .val (.int p2), .val (.int p3), .val (.int p4), .val (.int p5), .val (.int hc), .val (.int r0), .val (.int r1), .val (.int tc), .val (.ref h0.size), .val (.ref b125), .val (.ref T129.heap.size), .val (.ref b131), .unset, .unset, .unset] [(.int (2 : Int32)), (.int p4)])) (fun _ kt => ?_) ?_
      · show Steps p.tables e below (T132.setTop (mkF m 96 #[.val (.int p1), .val (.int p2), .val (.int p3), .val (.int p4), .val (.int p5), .val (.int hc), .val (.int r0), .val (.int r1), .val (.int tc), .val (.ref h0.size), .val (.ref b125), .val (.ref T129.heap.size), .unset, .unset, .unset, .unset] [(.ref b131)])) _
        refine XS.astore X132.here hx rfl (hb hby at_96) rfl rfl (l' := #[.val (.int p1), .val (.int p2), .val (.int p3), .val (.int p4), .val (.int p5), .val (.int hc), .val (.int r0), .val (.int r1), .val (.int tc), .val (.ref h0.size), .val (.ref b125), .val (.ref T129.heap.size), .val (.ref b131), .unset, .unset, .unset]) rfl ?_
        show Steps p.tables e below (T132.setTop (mkF m 98 #[.val (.int p1), .val (.int p2), .val (.int p3), .val (.int p4), .val (.int p5), .val (.int hc), .val (.int r0), .val (.int r1), .val (.int tc), .val (.ref h0.size), .val (.ref b125), .val (.ref T129.heap.size), .val (.ref b131), .unset, .unset, .unset] [])) _
        refine XS.iloadN X132.here hx rfl (hb hby at_98) rfl ?_
        show Steps p.tables e below (T132.setTop (mkF m 99 #[.val (.int p1), .val (.int p2), .val (.int p3), .val (.int p4), .val (.int p5), .val (.int hc), .val (.int r0), .val (.int r1), .val (.int tc), .val (.ref h0.size), .val (.ref b125), .val (.ref T129.heap.size), .val (.ref b131), .unset, .unset, .unset] [(.int p4)])) _
        refine XS.iconst X132.here hx rfl (hb hby at_99) ?_
        exact kt
      by_cases h2 : p4 < (2 : Int32)
      · refine EndsW.of (F' := T132.setTop (mkF m 118 #[.val (.int p1), .val (.int p2), .val (.int p3), .val (.int p4), .val (.int p5), .val (.int hc), .val (.int r0), .val (.int r1), .val (.int tc), .val (.ref h0.size), .val (.ref b125), .val (.ref T129.heap.size), .val (.ref b131), .val (.int p4), .unset, .unset] [(.int p4), (.ref b131)])) (fun _ kt => ?_) ?_
        · show Steps p.tables e below (T132.setTop (mkF m 100 #[.val (.int p1), .val (.int p2), .val (.int p3), .val (.int p4), .val (.int p5), .val (.int hc), .val (.int r0), .val (.int r1), .val (.int tc), .val (.ref h0.size), .val (.ref b125), .val (.ref T129.heap.size), .val (.ref b131), .unset, .unset, .unset] [(.int (2 : Int32)), (.int p4)])) _
          refine XS.icmpYes X132.here hx rfl (pc0 := 100) (pc' := 111) rfl (hb hby at_100) rfl (tlt h2).1 (by decide) (by decide) ?_
          show Steps p.tables e below (T132.setTop (mkF m 111 #[.val (.int p1), .val (.int p2), .val (.int p3), .val (.int p4), .val (.int p5), .val (.int hc), .val (.int r0), .val (.int r1), .val (.int tc), .val (.ref h0.size), .val (.ref b125), .val (.ref T129.heap.size), .val (.ref b131), .unset, .unset, .unset] [])) _
          refine XS.iloadN X132.here hx rfl (hb hby at_111) rfl ?_
          show Steps p.tables e below (T132.setTop (mkF m 112 #[.val (.int p1), .val (.int p2), .val (.int p3), .val (.int p4), .val (.int p5), .val (.int hc), .val (.int r0), .val (.int r1), .val (.int tc), .val (.ref h0.size), .val (.ref b125), .val (.ref T129.heap.size), .val (.ref b131), .unset, .unset, .unset] [(.int p4)])) _
          refine XS.istore X132.here hx rfl (hb hby at_112) rfl (l' := #[.val (.int p1), .val (.int p2), .val (.int p3), .val (.int p4), .val (.int p5), .val (.int hc), .val (.int r0), .val (.int r1), .val (.int tc), .val (.ref h0.size), .val (.ref b125), .val (.ref T129.heap.size), .val (.ref b131), .val (.int p4), .unset, .unset]) rfl ?_
          show Steps p.tables e below (T132.setTop (mkF m 114 #[.val (.int p1), .val (.int p2), .val (.int p3), .val (.int p4), .val (.int p5), .val (.int hc), .val (.int r0), .val (.int r1), .val (.int tc), .val (.ref h0.size), .val (.ref b125), .val (.ref T129.heap.size), .val (.ref b131), .val (.int p4), .unset, .unset] [])) _
          refine XS.aload X132.here hx rfl (hb hby at_114) rfl rfl ?_
          show Steps p.tables e below (T132.setTop (mkF m 116 #[.val (.int p1), .val (.int p2), .val (.int p3), .val (.int p4), .val (.int p5), .val (.int hc), .val (.int r0), .val (.int r1), .val (.int tc), .val (.ref h0.size), .val (.ref b125), .val (.ref T129.heap.size), .val (.ref b131), .val (.int p4), .unset, .unset] [(.ref b131)])) _
          refine XS.iload X132.here hx rfl (hb hby at_116) rfl ?_
          exact kt
        obtain ⟨cq133, kq133, q133a, q133b, q133c⟩ := isOf hZ rfl E_r
        obtain ⟨_, _, ⟨T133, L133, k133, n133⟩, -, X133, ⟨Lc133, hQ133, l133, y133, z133⟩, st133⟩ := X132.virtualBack hx (y := (⟨"com/example/coordinant/coordinant/Log$Rows", "statement", "(I)Ljava/lang/String;"⟩ : MethodName)) (z := (⟨"com/example/coordinant/coordinant/Log$Rows", "statement", "(I)Ljava/lang/String;"⟩ : MethodName)) hown (mvT hZ (hw _ (List.mem_of_getElem? (i := 64) rfl))) (mvT hZ (hw _ (List.mem_of_getElem? (i := 65) rfl))) (notFace_of_selects (args := #[]) (mvT hZ (hw _ (List.mem_of_getElem? (i := 67) rfl)))) (mvT hZ (hw _ (List.mem_of_getElem? (i := 67) rfl))) (mvT hZ (hw _ (List.mem_of_getElem? (i := 66) rfl))) (by decide) (backOf (W := 0) (stm0 l Z a0 hw [] b131 p4 h0.size b125 T129.heap.size bv124 bi129 bv130 hc.toInt8.toInt32 r0.toInt8.toInt32 r1.toInt8.toInt32 tc.toInt8.toInt32 cs T132.heap n0 Zt4 S0 hcs Ot4 (own_c1 h2) F_h F_r F_t S_h_4 S_r_4 S_t_4) hZ (hw _ (List.mem_of_getElem? (i := 68) rfl)) (hw _ (List.mem_of_getElem? (i := 46) rfl)) (by decide) (by decide)) q133a q133c (g := (mkF m 118 #[.val (.int p1), .val (.int p2), .val (.int p3), .val (.int p4), .val (.int p5), .val (.int hc), .val (.int r0), .val (.int r1), .val (.int tc), .val (.ref h0.size), .val (.ref b125), .val (.ref T129.heap.size), .val (.ref b131), .val (.int p4), .unset, .unset] [(.int p4), (.ref b131)])) rfl (by rw [hml]; rfl) (Steps.refl _) (argsL := [(.int p4)]) (rest := []) (lenOf pd_11 rfl) rfl (by show 2 * 0 + _ ≤ _; exact Nat.le_of_eq rfl) (hb hby at_118) (fun _ _ => ⟨rfl, rfl, (by decide : 8 + 4 ≤ _), (by decide : 32 + 41 ≤ _)⟩)
        dsimp only [Pt.U, Pt.locs, Pt.cells, Pt.slots] at X133 l133 y133 z133 st133 hQ133
        subst l133 y133 z133
        obtain ⟨u, d, rfl, N133q, K133, S_s⟩ := hQ133
        have N133 := Fr.app N132 N133q
        refine EndsW.st st133 ?_
        have Kt5 : Keep h0 T133.heap [] := Kt4.trans K133 all0
        have Zt5 : n0 ≤ T133.heap.size := Nat.le_trans Z0 Kt5.1
        have Ot5 := O.keep Kt5 all0
        have S_h_5 := S_h_4.keep K133 nin0 nin0
        have S_r_5 := S_r_4.keep K133 nin0 nin0
        have S_t_5 := S_t_4.keep K133 nin0 nin0
        have E_r_5 := E_r.keep K133
        have F_h_5 := F_h.keep K133 nin0
        have F_r_5 := F_r.keep K133 nin0
        have F_t_5 := F_t.keep K133 nin0
        have hkz0 : s.heap.size ≤ T133.heap.size := by rw [hh]; exact Kt5.1
        refine EndsW.of (F' := T133.setTop (mkF m 129 #[.val (.int p1), .val (.int p2), .val (.int p3), .val (.int p4), .val (.int p5), .val (.int hc), .val (.int r0), .val (.int r1), .val (.int tc), .val (.ref h0.size), .val (.ref b125), .val (.ref T129.heap.size), .val (.ref b131), .val (.int p4), .val (.ref u), .unset] [])) (fun _ kt => ?_) ?_
        · show Steps p.tables e below (T133.setTop (mkF m 121 #[.val (.int p1), .val (.int p2), .val (.int p3), .val (.int p4), .val (.int p5), .val (.int hc), .val (.int r0), .val (.int r1), .val (.int tc), .val (.ref h0.size), .val (.ref b125), .val (.ref T129.heap.size), .val (.ref b131), .val (.int p4), .unset, .unset] [(.ref u)])) _
          refine XS.astore X133.here hx rfl (hb hby at_121) rfl rfl (l' := #[.val (.int p1), .val (.int p2), .val (.int p3), .val (.int p4), .val (.int p5), .val (.int hc), .val (.int r0), .val (.int r1), .val (.int tc), .val (.ref h0.size), .val (.ref b125), .val (.ref T129.heap.size), .val (.ref b131), .val (.int p4), .val (.ref u), .unset]) rfl ?_
          show Steps p.tables e below (T133.setTop (mkF m 123 #[.val (.int p1), .val (.int p2), .val (.int p3), .val (.int p4), .val (.int p5), .val (.int hc), .val (.int r0), .val (.int r1), .val (.int tc), .val (.ref h0.size), .val (.ref b125), .val (.ref T129.heap.size), .val (.ref b131), .val (.int p4), .val (.ref u), .unset] [])) _
          refine XS.iload X133.here hx rfl (hb hby at_123) rfl ?_
          show Steps p.tables e below (T133.setTop (mkF m 125 #[.val (.int p1), .val (.int p2), .val (.int p3), .val (.int p4), .val (.int p5), .val (.int hc), .val (.int r0), .val (.int r1), .val (.int tc), .val (.ref h0.size), .val (.ref b125), .val (.ref T129.heap.size), .val (.ref b131), .val (.int p4), .val (.ref u), .unset] [(.int p4)])) _
          refine XS.iconst X133.here hx rfl (hb hby at_125) ?_
          show Steps p.tables e below (T133.setTop (mkF m 126 #[.val (.int p1), .val (.int p2), .val (.int p3), .val (.int p4), .val (.int p5), .val (.int hc), .val (.int r0), .val (.int r1), .val (.int tc), .val (.ref h0.size), .val (.ref b125), .val (.ref T129.heap.size), .val (.ref b131), .val (.int p4), .val (.ref u), .unset] [(.int (1 : Int32)), (.int p4)])) _
          refine XS.icmpNo X133.here hx rfl (hb hby at_126) rfl (flt (own_c1 h2)).2.2.1 ?_
          exact kt
        obtain ⟨T134, h134, X134, e134, E134, A134, D134, -, st134⟩ := newO X133 hx hZ hown (hw _ (List.mem_of_getElem? (i := 26) rfl)) (hw _ (List.mem_of_getElem? (i := 10) rfl)) (hw _ (List.mem_of_getElem? (i := 2) rfl)) rfl (g := (mkF m 129 #[.val (.int p1), .val (.int p2), .val (.int p3), .val (.int p4), .val (.int p5), .val (.int hc), .val (.int r0), .val (.int r1), .val (.int tc), .val (.ref h0.size), .val (.ref b125), .val (.ref T129.heap.size), .val (.ref b131), .val (.int p4), .val (.ref u), .unset] [])) rfl (hb hby at_129) (by decide) (by decide)
        obtain ⟨b134, g134⟩ : ∃ z, z = T133.heap.size := ⟨_, rfl⟩
        rw [← g134] at A134 D134 st134
        have F_value_b134 : Fld Z h134 b134 "java/lang/String" "value" "[B" .null := D134 (Or.inr (hw _ (List.mem_of_getElem? (i := 23) rfl))) (ty := (.array .byte)) (by decide)
        have F_coder_b134 : Fld Z h134 b134 "java/lang/String" "coder" "B" (.int (0 : Int32)) := D134 (Or.inr (hw _ (List.mem_of_getElem? (i := 25) rfl))) (ty := .byte) (by decide)
        refine EndsW.of st134 ?_
        refine EndsW.of (F' := T134.setTop (mkF m 134 #[.val (.int p1), .val (.int p2), .val (.int p3), .val (.int p4), .val (.int p5), .val (.int hc), .val (.int r0), .val (.int r1), .val (.int tc), .val (.ref h0.size), .val (.ref b125), .val (.ref T129.heap.size), .val (.ref b131), .val (.int p4), .val (.ref u), .unset] [(.int (4 : Int32)), (.ref b134), (.ref b134)])) (fun _ kt => ?_) ?_
        · show Steps p.tables e below (T134.setTop (mkF m 132 #[.val (.int p1), .val (.int p2), .val (.int p3), .val (.int p4), .val (.int p5), .val (.int hc), .val (.int r0), .val (.int r1), .val (.int tc), .val (.ref h0.size), .val (.ref b125), .val (.ref T129.heap.size), .val (.ref b131), .val (.int p4), .val (.ref u), .unset] [(.ref b134)])) _
          refine XS.dup X134.here hx rfl (hb hby at_132) rfl rfl ?_
          show Steps p.tables e below (T134.setTop (mkF m 133 #[.val (.int p1), .val (.int p2), .val (.int p3), .val (.int p4), .val (.int p5), .val (.int hc), .val (.int r0), .val (.int r1), .val (.int tc), .val (.ref h0.size), .val (.ref b125), .val (.ref T129.heap.size), .val (.ref b131), .val (.int p4), .val (.ref u), .unset] [(.ref b134), (.ref b134)])) _
          refine XS.iconst X134.here hx rfl (hb hby at_133) ?_
          exact kt
        obtain ⟨T135, h135, k135, X135, e135, E135, A135, st135⟩ := newP X134 hx hZ (hw _ (List.mem_of_getElem? (i := 27) rfl)) e134 (g := (mkF m 134 #[.val (.int p1), .val (.int p2), .val (.int p3), .val (.int p4), .val (.int p5), .val (.int hc), .val (.int r0), .val (.int r1), .val (.int tc), .val (.ref h0.size), .val (.ref b125), .val (.ref T129.heap.size), .val (.ref b131), .val (.int p4), .val (.ref u), .unset] [(.int (4 : Int32)), (.ref b134), (.ref b134)])) rfl (hb hby at_134) rfl (by decide) (cap := 4) (by decide) (by decide) (by decide) (by decide)
        obtain ⟨b135, g135⟩ : ∃ z, z = h134.size := ⟨_, rfl⟩
        rw [← g135] at A135 st135
        refine EndsW.of st135 ?_
        have V135_0 : Ary .char Z h135 b135 4 (fun _ => 0) := Ary.new (n := 4) A135 (by omega) rfl
        have ga135 : T133.heap.size ≤ b135 := Nat.le_trans E134.1 (Nat.le_of_eq g135.symm)
        have gs135 : T133.heap.size ≤ b134 := Nat.le_of_eq g134.symm
        have ne135 : b134 ≠ b135 := Nat.ne_of_lt (Nat.lt_of_lt_of_le A134.lt (Nat.le_of_eq g135.symm))
        have Km135_0 : Keep h134 h135 [b135] := (Keep.refl h134 [b135]).ext E135
        obtain ⟨cx135_0, Ax135_0, Sx135_0, -, put135_0⟩ := V135_0.op
        refine EndsW.of (F' := T135.setTop (mkF m 140 #[.val (.int p1), .val (.int p2), .val (.int p3), .val (.int p4), .val (.int p5), .val (.int hc), .val (.int r0), .val (.int r1), .val (.int tc), .val (.ref h0.size), .val (.ref b125), .val (.ref T129.heap.size), .val (.ref b131), .val (.int p4), .val (.ref u), .unset] [(.int hc), (.int (0 : Int32)), (.ref b135), (.ref b135), (.ref b134), (.ref b134)])) (fun _ kt => ?_) ?_
        · show Steps p.tables e below (T135.setTop (mkF m 136 #[.val (.int p1), .val (.int p2), .val (.int p3), .val (.int p4), .val (.int p5), .val (.int hc), .val (.int r0), .val (.int r1), .val (.int tc), .val (.ref h0.size), .val (.ref b125), .val (.ref T129.heap.size), .val (.ref b131), .val (.int p4), .val (.ref u), .unset] [(.ref b135), (.ref b134), (.ref b134)])) _
          refine XS.dup X135.here hx rfl (hb hby at_136) rfl rfl ?_
          show Steps p.tables e below (T135.setTop (mkF m 137 #[.val (.int p1), .val (.int p2), .val (.int p3), .val (.int p4), .val (.int p5), .val (.int hc), .val (.int r0), .val (.int r1), .val (.int tc), .val (.ref h0.size), .val (.ref b125), .val (.ref T129.heap.size), .val (.ref b131), .val (.int p4), .val (.ref u), .unset] [(.ref b135), (.ref b135), (.ref b134), (.ref b134)])) _
          refine XS.iconst X135.here hx rfl (hb hby at_137) ?_
          show Steps p.tables e below (T135.setTop (mkF m 138 #[.val (.int p1), .val (.int p2), .val (.int p3), .val (.int p4), .val (.int p5), .val (.int hc), .val (.int r0), .val (.int r1), .val (.int tc), .val (.ref h0.size), .val (.ref b125), .val (.ref T129.heap.size), .val (.ref b131), .val (.int p4), .val (.ref u), .unset] [(.int (0 : Int32)), (.ref b135), (.ref b135), (.ref b134), (.ref b134)])) _
          refine XS.iload X135.here hx rfl (hb hby at_138) rfl ?_
          exact kt
        obtain ⟨T136, h136, X136, e136, W136, st136⟩ := stC X135 hx hZ e135 Ax135_0 (j := (0 : Int32)) (own_hin (i := 0) Sx135_0 rfl (by omega) (by omega)) (g := (mkF m 140 #[.val (.int p1), .val (.int p2), .val (.int p3), .val (.int p4), .val (.int p5), .val (.int hc), .val (.int r0), .val (.int r1), .val (.int tc), .val (.ref h0.size), .val (.ref b125), .val (.ref T129.heap.size), .val (.ref b131), .val (.int p4), .val (.ref u), .unset] [(.int hc), (.int (0 : Int32)), (.ref b135), (.ref b135), (.ref b134), (.ref b134)])) rfl rfl (hb hby at_140)
        refine EndsW.of st136 ?_
        have N136 := Fr.snoc X136 N133 (Nat.le_trans Zt5 ga135)
        rw [c1.2] at W136
        have V135_1 := put135_0 _ _ _ 0 W136 (by decide) (by omega) c1.fits
        have Km135_1 := Km135_0.wr W136 (Or.inl (List.mem_of_getElem? (i := 0) rfl))
        obtain ⟨cx135_1, Ax135_1, Sx135_1, -, put135_1⟩ := V135_1.op
        refine EndsW.of (F' := T136.setTop (mkF m 145 #[.val (.int p1), .val (.int p2), .val (.int p3), .val (.int p4), .val (.int p5), .val (.int hc), .val (.int r0), .val (.int r1), .val (.int tc), .val (.ref h0.size), .val (.ref b125), .val (.ref T129.heap.size), .val (.ref b131), .val (.int p4), .val (.ref u), .unset] [(.int r0), (.int (1 : Int32)), (.ref b135), (.ref b135), (.ref b134), (.ref b134)])) (fun _ kt => ?_) ?_
        · show Steps p.tables e below (T136.setTop (mkF m 141 #[.val (.int p1), .val (.int p2), .val (.int p3), .val (.int p4), .val (.int p5), .val (.int hc), .val (.int r0), .val (.int r1), .val (.int tc), .val (.ref h0.size), .val (.ref b125), .val (.ref T129.heap.size), .val (.ref b131), .val (.int p4), .val (.ref u), .unset] [(.ref b135), (.ref b134), (.ref b134)])) _
          refine XS.dup X136.here hx rfl (hb hby at_141) rfl rfl ?_
          show Steps p.tables e below (T136.setTop (mkF m 142 #[.val (.int p1), .val (.int p2), .val (.int p3), .val (.int p4), .val (.int p5), .val (.int hc), .val (.int r0), .val (.int r1), .val (.int tc), .val (.ref h0.size), .val (.ref b125), .val (.ref T129.heap.size), .val (.ref b131), .val (.int p4), .val (.ref u), .unset] [(.ref b135), (.ref b135), (.ref b134), (.ref b134)])) _
          refine XS.iconst X136.here hx rfl (hb hby at_142) ?_
          show Steps p.tables e below (T136.setTop (mkF m 143 #[.val (.int p1), .val (.int p2), .val (.int p3), .val (.int p4), .val (.int p5), .val (.int hc), .val (.int r0), .val (.int r1), .val (.int tc), .val (.ref h0.size), .val (.ref b125), .val (.ref T129.heap.size), .val (.ref b131), .val (.int p4), .val (.ref u), .unset] [(.int (1 : Int32)), (.ref b135), (.ref b135), (.ref b134), (.ref b134)])) _
          refine XS.iload X136.here hx rfl (hb hby at_143) rfl ?_
          exact kt
        obtain ⟨T137, h137, X137, e137, W137, st137⟩ := stC X136 hx hZ e136 Ax135_1 (j := (1 : Int32)) (own_hin (i := 1) Sx135_1 rfl (by omega) (by omega)) (g := (mkF m 145 #[.val (.int p1), .val (.int p2), .val (.int p3), .val (.int p4), .val (.int p5), .val (.int hc), .val (.int r0), .val (.int r1), .val (.int tc), .val (.ref h0.size), .val (.ref b125), .val (.ref T129.heap.size), .val (.ref b131), .val (.int p4), .val (.ref u), .unset] [(.int r0), (.int (1 : Int32)), (.ref b135), (.ref b135), (.ref b134), (.ref b134)])) rfl rfl (hb hby at_145)
        refine EndsW.of st137 ?_
        have N137 := Fr.snoc X137 N136 (Nat.le_trans Zt5 ga135)
        rw [c2.2] at W137
        have V135_2 := put135_1 _ _ _ 1 W137 (by decide) (by omega) c2.fits
        have Km135_2 := Km135_1.wr W137 (Or.inl (List.mem_of_getElem? (i := 0) rfl))
        obtain ⟨cx135_2, Ax135_2, Sx135_2, -, put135_2⟩ := V135_2.op
        refine EndsW.of (F' := T137.setTop (mkF m 150 #[.val (.int p1), .val (.int p2), .val (.int p3), .val (.int p4), .val (.int p5), .val (.int hc), .val (.int r0), .val (.int r1), .val (.int tc), .val (.ref h0.size), .val (.ref b125), .val (.ref T129.heap.size), .val (.ref b131), .val (.int p4), .val (.ref u), .unset] [(.int r1), (.int (2 : Int32)), (.ref b135), (.ref b135), (.ref b134), (.ref b134)])) (fun _ kt => ?_) ?_
        · show Steps p.tables e below (T137.setTop (mkF m 146 #[.val (.int p1), .val (.int p2), .val (.int p3), .val (.int p4), .val (.int p5), .val (.int hc), .val (.int r0), .val (.int r1), .val (.int tc), .val (.ref h0.size), .val (.ref b125), .val (.ref T129.heap.size), .val (.ref b131), .val (.int p4), .val (.ref u), .unset] [(.ref b135), (.ref b134), (.ref b134)])) _
          refine XS.dup X137.here hx rfl (hb hby at_146) rfl rfl ?_
          show Steps p.tables e below (T137.setTop (mkF m 147 #[.val (.int p1), .val (.int p2), .val (.int p3), .val (.int p4), .val (.int p5), .val (.int hc), .val (.int r0), .val (.int r1), .val (.int tc), .val (.ref h0.size), .val (.ref b125), .val (.ref T129.heap.size), .val (.ref b131), .val (.int p4), .val (.ref u), .unset] [(.ref b135), (.ref b135), (.ref b134), (.ref b134)])) _
          refine XS.iconst X137.here hx rfl (hb hby at_147) ?_
          show Steps p.tables e below (T137.setTop (mkF m 148 #[.val (.int p1), .val (.int p2), .val (.int p3), .val (.int p4), .val (.int p5), .val (.int hc), .val (.int r0), .val (.int r1), .val (.int tc), .val (.ref h0.size), .val (.ref b125), .val (.ref T129.heap.size), .val (.ref b131), .val (.int p4), .val (.ref u), .unset] [(.int (2 : Int32)), (.ref b135), (.ref b135), (.ref b134), (.ref b134)])) _
          refine XS.iload X137.here hx rfl (hb hby at_148) rfl ?_
          exact kt
        obtain ⟨T138, h138, X138, e138, W138, st138⟩ := stC X137 hx hZ e137 Ax135_2 (j := (2 : Int32)) (own_hin (i := 2) Sx135_2 rfl (by omega) (by omega)) (g := (mkF m 150 #[.val (.int p1), .val (.int p2), .val (.int p3), .val (.int p4), .val (.int p5), .val (.int hc), .val (.int r0), .val (.int r1), .val (.int tc), .val (.ref h0.size), .val (.ref b125), .val (.ref T129.heap.size), .val (.ref b131), .val (.int p4), .val (.ref u), .unset] [(.int r1), (.int (2 : Int32)), (.ref b135), (.ref b135), (.ref b134), (.ref b134)])) rfl rfl (hb hby at_150)
        refine EndsW.of st138 ?_
        have N138 := Fr.snoc X138 N137 (Nat.le_trans Zt5 ga135)
        rw [c3.2] at W138
        have V135_3 := put135_2 _ _ _ 2 W138 (by decide) (by omega) c3.fits
        have Km135_3 := Km135_2.wr W138 (Or.inl (List.mem_of_getElem? (i := 0) rfl))
        obtain ⟨cx135_3, Ax135_3, Sx135_3, -, put135_3⟩ := V135_3.op
        refine EndsW.of (F' := T138.setTop (mkF m 155 #[.val (.int p1), .val (.int p2), .val (.int p3), .val (.int p4), .val (.int p5), .val (.int hc), .val (.int r0), .val (.int r1), .val (.int tc), .val (.ref h0.size), .val (.ref b125), .val (.ref T129.heap.size), .val (.ref b131), .val (.int p4), .val (.ref u), .unset] [(.int tc), (.int (3 : Int32)), (.ref b135), (.ref b135), (.ref b134), (.ref b134)])) (fun _ kt => ?_) ?_
        · show Steps p.tables e below (T138.setTop (mkF m 151 #[.val (.int p1), .val (.int p2), .val (.int p3), .val (.int p4), .val (.int p5), .val (.int hc), .val (.int r0), .val (.int r1), .val (.int tc), .val (.ref h0.size), .val (.ref b125), .val (.ref T129.heap.size), .val (.ref b131), .val (.int p4), .val (.ref u), .unset] [(.ref b135), (.ref b134), (.ref b134)])) _
          refine XS.dup X138.here hx rfl (hb hby at_151) rfl rfl ?_
          show Steps p.tables e below (T138.setTop (mkF m 152 #[.val (.int p1), .val (.int p2), .val (.int p3), .val (.int p4), .val (.int p5), .val (.int hc), .val (.int r0), .val (.int r1), .val (.int tc), .val (.ref h0.size), .val (.ref b125), .val (.ref T129.heap.size), .val (.ref b131), .val (.int p4), .val (.ref u), .unset] [(.ref b135), (.ref b135), (.ref b134), (.ref b134)])) _
          refine XS.iconst X138.here hx rfl (hb hby at_152) ?_
          show Steps p.tables e below (T138.setTop (mkF m 153 #[.val (.int p1), .val (.int p2), .val (.int p3), .val (.int p4), .val (.int p5), .val (.int hc), .val (.int r0), .val (.int r1), .val (.int tc), .val (.ref h0.size), .val (.ref b125), .val (.ref T129.heap.size), .val (.ref b131), .val (.int p4), .val (.ref u), .unset] [(.int (3 : Int32)), (.ref b135), (.ref b135), (.ref b134), (.ref b134)])) _
          refine XS.iload X138.here hx rfl (hb hby at_153) rfl ?_
          exact kt
        obtain ⟨T139, h139, X139, e139, W139, st139⟩ := stC X138 hx hZ e138 Ax135_3 (j := (3 : Int32)) (own_hin (i := 3) Sx135_3 rfl (by omega) (by omega)) (g := (mkF m 155 #[.val (.int p1), .val (.int p2), .val (.int p3), .val (.int p4), .val (.int p5), .val (.int hc), .val (.int r0), .val (.int r1), .val (.int tc), .val (.ref h0.size), .val (.ref b125), .val (.ref T129.heap.size), .val (.ref b131), .val (.int p4), .val (.ref u), .unset] [(.int tc), (.int (3 : Int32)), (.ref b135), (.ref b135), (.ref b134), (.ref b134)])) rfl rfl (hb hby at_155)
        refine EndsW.of st139 ?_
        have N139 := Fr.snoc X139 N138 (Nat.le_trans Zt5 ga135)
        rw [c4.2] at W139
        have V135_4 := put135_3 _ _ _ 3 W139 (by decide) (by omega) c4.fits
        have Km135_4 := Km135_3.wr W139 (Or.inl (List.mem_of_getElem? (i := 0) rfl))
        have Vc135 : Ary .char Z h139 b135 4 (tf [hc, r0, r1, tc]) := V135_4.congr (fun i hi => by
      rcases (by omega : i = 0 ∨ i = 1 ∨ i = 2 ∨ i = 3) with rfl | rfl | rfl | rfl <;> rfl)
        have Ka135 : Keep T133.heap h139 [] := ((Keep.refl T133.heap []).ext E134).trans Km135_4 (allS (Or.inr ga135) all0)
        have Kta135 : Keep h0 h139 [] := Kt5.trans Ka135 all0
        have Za135 : n0 ≤ h139.size := Nat.le_trans Z0 Kta135.1
        have ni135 : b134 ∉ [b135] := ninS ne135 nin0
        obtain ⟨_, _, ⟨T140, L140, k140, n140⟩, -, X140, ⟨Lc140, hQ140, l140, y140, z140⟩, st140⟩ := X139.specialBack hx (y := (⟨"java/lang/String", "<init>", "([C)V"⟩ : MethodName)) rfl hown (mvT hZ (hw _ (List.mem_of_getElem? (i := 28) rfl))) (mvT hZ (hw _ (List.mem_of_getElem? (i := 29) rfl))) (mvT hZ (hw _ (List.mem_of_getElem? (i := 30) rfl))) (by decide) (backOf (W := 1) (str_initC l Z a0 hw [] b134 b135 4 (tf [hc, r0, r1, tc]) cs h139 n0 Za135 S0 hcs (O.keep Kta135 all0) (A134.keep Km135_4) (F_value_b134.keep Km135_4 ni135) (F_coder_b134.keep Km135_4 ni135) Vc135 (fun i hi => by
      rcases (by omega : i = 0 ∨ i = 1 ∨ i = 2 ∨ i = 3) with rfl | rfl | rfl | rfl
      · exact c1.1
      · exact c2.1
      · exact c3.1
      · exact c4.1) (by omega) (by omega) (Nat.le_trans Zt5 gs135)) hZ (hw _ (List.mem_of_getElem? (i := 30) rfl)) (hw _ (List.mem_of_getElem? (i := 2) rfl)) (by decide) (by decide)) (g := (mkF m 156 #[.val (.int p1), .val (.int p2), .val (.int p3), .val (.int p4), .val (.int p5), .val (.int hc), .val (.int r0), .val (.int r1), .val (.int tc), .val (.ref h0.size), .val (.ref b125), .val (.ref T129.heap.size), .val (.ref b131), .val (.int p4), .val (.ref u), .unset] [(.ref b135), (.ref b134), (.ref b134)])) rfl (by rw [hml]; rfl) (Steps.refl _) (a := b134) (argsL := [(.ref b135)]) (rest := [(.ref b134)]) (lenOf pd_5 rfl) rfl (by show 2 * 0 + _ ≤ _; exact Nat.le_of_eq rfl) (hb hby at_156) (fun _ _ => ⟨rfl, e139, (by decide : 14 + 1 ≤ _), (by decide : 81 + 12 ≤ _)⟩)
        dsimp only [Pt.U, Pt.locs, Pt.cells, Pt.slots] at X140 l140 y140 z140 st140 hQ140
        subst l140 y140 z140
        obtain ⟨rfl, N140q, K140, bi140, St140, gi140⟩ := hQ140
        have N140 := Fr.app N139 N140q
        refine EndsW.st st140 ?_
        have S_e : Str Z T140.heap b134 bi140 4 (tf [hc.toInt8.toInt32, r0.toInt8.toInt32, r1.toInt8.toInt32, tc.toInt8.toInt32]) := St140.congr (fun i hi => by
      rcases (by omega : i = 0 ∨ i = 1 ∨ i = 2 ∨ i = 3) with rfl | rfl | rfl | rfl <;> first | rfl | (show (44 : Int32).toInt8.toInt32 = (44 : Int32); decide) | (show (32 : Int32).toInt8.toInt32 = (32 : Int32); decide))
        have Kb135 : Keep T133.heap T140.heap [] := Ka135.trans K140 (allS (Or.inr gs135) all0)
        have Kt6 : Keep h0 T140.heap [] := Kt5.trans Kb135 all0
        have Zt6 : n0 ≤ T140.heap.size := Nat.le_trans Z0 Kt6.1
        have Ot6 := O.keep Kt6 all0
        have S_s_6 := S_s.keep Kb135 nin0 nin0
        have neq : ¬ u = b134 := Nat.ne_of_lt (Nat.lt_of_lt_of_le S_s.1.lt (Nat.le_of_eq g134.symm))
        have hkz : s.heap.size ≤ T140.heap.size := Nat.le_trans hkz0 Kb135.1
        refine EndsW.of (F' := T140.setTop (mkF m 311 #[.val (.int p1), .val (.int p2), .val (.int p3), .val (.int p4), .val (.int p5), .val (.int hc), .val (.int r0), .val (.int r1), .val (.int tc), .val (.ref h0.size), .val (.ref b125), .val (.ref T129.heap.size), .val (.ref b131), .val (.int p4), .val (.ref u), .val (.ref b134)] [(.ref b134), (.ref u)])) (fun _ kt => ?_) ?_
        · show Steps p.tables e below (T140.setTop (mkF m 159 #[.val (.int p1), .val (.int p2), .val (.int p3), .val (.int p4), .val (.int p5), .val (.int hc), .val (.int r0), .val (.int r1), .val (.int tc), .val (.ref h0.size), .val (.ref b125), .val (.ref T129.heap.size), .val (.ref b131), .val (.int p4), .val (.ref u), .unset] [(.ref b134)])) _
          refine XS.astore X140.here hx rfl (hb hby at_159) rfl rfl (l' := #[.val (.int p1), .val (.int p2), .val (.int p3), .val (.int p4), .val (.int p5), .val (.int hc), .val (.int r0), .val (.int r1), .val (.int tc), .val (.ref h0.size), .val (.ref b125), .val (.ref T129.heap.size), .val (.ref b131), .val (.int p4), .val (.ref u), .val (.ref b134)]) rfl ?_
          show Steps p.tables e below (T140.setTop (mkF m 161 #[.val (.int p1), .val (.int p2), .val (.int p3), .val (.int p4), .val (.int p5), .val (.int hc), .val (.int r0), .val (.int r1), .val (.int tc), .val (.ref h0.size), .val (.ref b125), .val (.ref T129.heap.size), .val (.ref b131), .val (.int p4), .val (.ref u), .val (.ref b134)] [])) _
          refine XS.goto X140.here hx rfl (pc0 := 161) (pc' := 307) rfl (hb hby at_161) (by decide) (by decide) ?_
          show Steps p.tables e below (T140.setTop (mkF m 307 #[.val (.int p1), .val (.int p2), .val (.int p3), .val (.int p4), .val (.int p5), .val (.int hc), .val (.int r0), .val (.int r1), .val (.int tc), .val (.ref h0.size), .val (.ref b125), .val (.ref T129.heap.size), .val (.ref b131), .val (.int p4), .val (.ref u), .val (.ref b134)] [])) _
          refine XS.aload X140.here hx rfl (hb hby at_307) rfl rfl ?_
          show Steps p.tables e below (T140.setTop (mkF m 309 #[.val (.int p1), .val (.int p2), .val (.int p3), .val (.int p4), .val (.int p5), .val (.int hc), .val (.int r0), .val (.int r1), .val (.int tc), .val (.ref h0.size), .val (.ref b125), .val (.ref T129.heap.size), .val (.ref b131), .val (.int p4), .val (.ref u), .val (.ref b134)] [(.ref u)])) _
          refine XS.aload X140.here hx rfl (hb hby at_309) rfl rfl ?_
          exact kt
        obtain ⟨cq141, kq141, q141a, q141b, q141c⟩ := isOf hZ rfl S_s_6.1
        obtain ⟨_, _, ⟨T141, L141, k141, n141⟩, -, X141, ⟨Lc141, hQ141, l141, y141, z141⟩, st141⟩ := X140.virtualBack hx (y := (⟨"java/lang/String", "equals", "(Ljava/lang/Object;)Z"⟩ : MethodName)) (z := (⟨"java/lang/String", "equals", "(Ljava/lang/Object;)Z"⟩ : MethodName)) hown (mvT hZ (hw _ (List.mem_of_getElem? (i := 185) rfl))) (mvT hZ (hw _ (List.mem_of_getElem? (i := 186) rfl))) (notFace_of_selects (args := #[]) (mvT hZ (hw _ (List.mem_of_getElem? (i := 188) rfl)))) (mvT hZ (hw _ (List.mem_of_getElem? (i := 188) rfl))) (mvT hZ (hw _ (List.mem_of_getElem? (i := 187) rfl))) (by decide) (backOf (W := 0) (str_equals l Z a0 hw [] u b134 d bi140 4 4 (tf [hc.toInt8.toInt32, r0.toInt8.toInt32, r1.toInt8.toInt32, tc.toInt8.toInt32]) (tf [hc.toInt8.toInt32, r0.toInt8.toInt32, r1.toInt8.toInt32, tc.toInt8.toInt32]) cs T140.heap n0 Zt6 S0 hcs Ot6 S_s_6 S_e neq) hZ (hw _ (List.mem_of_getElem? (i := 189) rfl)) (hw _ (List.mem_of_getElem? (i := 2) rfl)) (by decide) (by decide)) q141a q141c (g := (mkF m 311 #[.val (.int p1), .val (.int p2), .val (.int p3), .val (.int p4), .val (.int p5), .val (.int hc), .val (.int r0), .val (.int r1), .val (.int tc), .val (.ref h0.size), .val (.ref b125), .val (.ref T129.heap.size), .val (.ref b131), .val (.int p4), .val (.ref u), .val (.ref b134)] [(.ref b134), (.ref u)])) rfl (by rw [hml]; rfl) (Steps.refl _) (argsL := [(.ref b134)]) (rest := []) (lenOf pd_29 rfl) rfl (by show 2 * 0 + _ ≤ _; exact Nat.le_of_eq rfl) (hb hby at_311) (fun _ _ => ⟨rfl, rfl, (by decide : 15 + 0 ≤ _), (by decide : 93 + 0 ≤ _)⟩)
        dsimp only [Pt.U, Pt.locs, Pt.cells, Pt.slots] at X141 l141 y141 z141 st141 hQ141
        subst l141 y141 z141
        obtain ⟨rfl, N141q, e141⟩ := hQ141
        have N141 := Fr.app N140 N141q
        refine EndsW.st st141 ?_
        rw [if_pos ⟨rfl, fun _ _ => rfl⟩]
        obtain ⟨fs, hr, hrun, hended, hEW⟩ := Stand.leaveW (s := s) (vm₁ := s.vm) X141 hS0 (by rw [e141]; exact hkz) (v := some (.int (1 : Int32))) (fun h => by rw [Bd.returns] at h; cases h)
        exact ⟨_, _, retN X141 hx (t := .boolean) Bd.returns (by simp) (hb hby at_314) hr, hrun, hended, _, _, rfl, ⟨rfl, N141⟩, hEW.1, hEW.2.1, hEW.2.2.1, hEW.2.2.2.mono (by decide) (by decide)⟩
      · refine EndsW.of (F' := T132.setTop (mkF m 118 #[.val (.int p1), .val (.int p2), .val (.int p3), .val (.int p4), .val (.int p5), .val (.int hc), .val (.int r0), .val (.int r1), .val (.int tc), .val (.ref h0.size), .val (.ref b125), .val (.ref T129.heap.size), .val (.ref b131), .val (.int ((2 : Int32) + (p4 &&& (1 : Int32)))), .unset, .unset] [(.int ((2 : Int32) + (p4 &&& (1 : Int32)))), (.ref b131)])) (fun _ kt => ?_) ?_
        · show Steps p.tables e below (T132.setTop (mkF m 100 #[.val (.int p1), .val (.int p2), .val (.int p3), .val (.int p4), .val (.int p5), .val (.int hc), .val (.int r0), .val (.int r1), .val (.int tc), .val (.ref h0.size), .val (.ref b125), .val (.ref T129.heap.size), .val (.ref b131), .unset, .unset, .unset] [(.int (2 : Int32)), (.int p4)])) _
          refine XS.icmpNo X132.here hx rfl (hb hby at_100) rfl (flt h2).1 ?_
          show Steps p.tables e below (T132.setTop (mkF m 103 #[.val (.int p1), .val (.int p2), .val (.int p3), .val (.int p4), .val (.int p5), .val (.int hc), .val (.int r0), .val (.int r1), .val (.int tc), .val (.ref h0.size), .val (.ref b125), .val (.ref T129.heap.size), .val (.ref b131), .unset, .unset, .unset] [])) _
          refine XS.iconst X132.here hx rfl (hb hby at_103) ?_
          show Steps p.tables e below (T132.setTop (mkF m 104 #[.val (.int p1), .val (.int p2), .val (.int p3), .val (.int p4), .val (.int p5), .val (.int hc), .val (.int r0), .val (.int r1), .val (.int tc), .val (.ref h0.size), .val (.ref b125), .val (.ref T129.heap.size), .val (.ref b131), .unset, .unset, .unset] [(.int (2 : Int32))])) _
          refine XS.iloadN X132.here hx rfl (hb hby at_104) rfl ?_
          show Steps p.tables e below (T132.setTop (mkF m 105 #[.val (.int p1), .val (.int p2), .val (.int p3), .val (.int p4), .val (.int p5), .val (.int hc), .val (.int r0), .val (.int r1), .val (.int tc), .val (.ref h0.size), .val (.ref b125), .val (.ref T129.heap.size), .val (.ref b131), .unset, .unset, .unset] [(.int p4), (.int (2 : Int32))])) _
          refine XS.iconst X132.here hx rfl (hb hby at_105) ?_
          show Steps p.tables e below (T132.setTop (mkF m 106 #[.val (.int p1), .val (.int p2), .val (.int p3), .val (.int p4), .val (.int p5), .val (.int hc), .val (.int r0), .val (.int r1), .val (.int tc), .val (.ref h0.size), .val (.ref b125), .val (.ref T129.heap.size), .val (.ref b131), .unset, .unset, .unset] [(.int (1 : Int32)), (.int p4), (.int (2 : Int32))])) _
          refine XS.iand X132.here hx rfl (hb hby at_106) rfl ?_
          show Steps p.tables e below (T132.setTop (mkF m 107 #[.val (.int p1), .val (.int p2), .val (.int p3), .val (.int p4), .val (.int p5), .val (.int hc), .val (.int r0), .val (.int r1), .val (.int tc), .val (.ref h0.size), .val (.ref b125), .val (.ref T129.heap.size), .val (.ref b131), .unset, .unset, .unset] [(.int (p4 &&& (1 : Int32))), (.int (2 : Int32))])) _
          refine XS.iadd X132.here hx rfl (hb hby at_107) rfl ?_
          show Steps p.tables e below (T132.setTop (mkF m 108 #[.val (.int p1), .val (.int p2), .val (.int p3), .val (.int p4), .val (.int p5), .val (.int hc), .val (.int r0), .val (.int r1), .val (.int tc), .val (.ref h0.size), .val (.ref b125), .val (.ref T129.heap.size), .val (.ref b131), .unset, .unset, .unset] [(.int ((2 : Int32) + (p4 &&& (1 : Int32))))])) _
          refine XS.goto X132.here hx rfl (pc0 := 108) (pc' := 112) rfl (hb hby at_108) (by decide) (by decide) ?_
          show Steps p.tables e below (T132.setTop (mkF m 112 #[.val (.int p1), .val (.int p2), .val (.int p3), .val (.int p4), .val (.int p5), .val (.int hc), .val (.int r0), .val (.int r1), .val (.int tc), .val (.ref h0.size), .val (.ref b125), .val (.ref T129.heap.size), .val (.ref b131), .unset, .unset, .unset] [(.int ((2 : Int32) + (p4 &&& (1 : Int32))))])) _
          refine XS.istore X132.here hx rfl (hb hby at_112) rfl (l' := #[.val (.int p1), .val (.int p2), .val (.int p3), .val (.int p4), .val (.int p5), .val (.int hc), .val (.int r0), .val (.int r1), .val (.int tc), .val (.ref h0.size), .val (.ref b125), .val (.ref T129.heap.size), .val (.ref b131), .val (.int ((2 : Int32) + (p4 &&& (1 : Int32)))), .unset, .unset]) rfl ?_
          show Steps p.tables e below (T132.setTop (mkF m 114 #[.val (.int p1), .val (.int p2), .val (.int p3), .val (.int p4), .val (.int p5), .val (.int hc), .val (.int r0), .val (.int r1), .val (.int tc), .val (.ref h0.size), .val (.ref b125), .val (.ref T129.heap.size), .val (.ref b131), .val (.int ((2 : Int32) + (p4 &&& (1 : Int32)))), .unset, .unset] [])) _
          refine XS.aload X132.here hx rfl (hb hby at_114) rfl rfl ?_
          show Steps p.tables e below (T132.setTop (mkF m 116 #[.val (.int p1), .val (.int p2), .val (.int p3), .val (.int p4), .val (.int p5), .val (.int hc), .val (.int r0), .val (.int r1), .val (.int tc), .val (.ref h0.size), .val (.ref b125), .val (.ref T129.heap.size), .val (.ref b131), .val (.int ((2 : Int32) + (p4 &&& (1 : Int32)))), .unset, .unset] [(.ref b131)])) _
          refine XS.iload X132.here hx rfl (hb hby at_116) rfl ?_
          exact kt
        by_cases hpb : (p4 &&& (1 : Int32)) = (0 : Int32)
        · rw [hpb, show (2 : Int32) + (0 : Int32) = (2 : Int32) by decide]
          obtain ⟨cq142, kq142, q142a, q142b, q142c⟩ := isOf hZ rfl E_r
          obtain ⟨_, _, ⟨T142, L142, k142, n142⟩, -, X142, hS142, hg142, ⟨Lc142, hQ142, l142, y142, z142⟩, st142⟩ := X132.virtualBackS hx (y := (⟨"com/example/coordinant/coordinant/Log$Rows", "statement", "(I)Ljava/lang/String;"⟩ : MethodName)) (z := (⟨"com/example/coordinant/coordinant/Log$Rows", "statement", "(I)Ljava/lang/String;"⟩ : MethodName)) hown (mvT hZ (hw _ (List.mem_of_getElem? (i := 64) rfl))) (mvT hZ (hw _ (List.mem_of_getElem? (i := 65) rfl))) (notFace_of_selects (args := #[]) (mvT hZ (hw _ (List.mem_of_getElem? (i := 67) rfl)))) (mvT hZ (hw _ (List.mem_of_getElem? (i := 67) rfl))) (mvT hZ (hw _ (List.mem_of_getElem? (i := 66) rfl))) (by decide) (own_backOfS (W := 0) (stm2 l Z a0 hw [] b131 h0.size b125 T129.heap.size bv124 bi129 bv130 hc.toInt8.toInt32 r0.toInt8.toInt32 r1.toInt8.toInt32 tc.toInt8.toInt32 cs T132.heap n0 Zt4 S0 hcs Ot4 F_h F_r F_t S_h_4 S_r_4 S_t_4 hh0 hcw) hZ hI (hw _ (List.mem_of_getElem? (i := 68) rfl)) (hw _ (List.mem_of_getElem? (i := 46) rfl)) (by decide) (by decide)) q142a q142c (g := (mkF m 118 #[.val (.int p1), .val (.int p2), .val (.int p3), .val (.int p4), .val (.int p5), .val (.int hc), .val (.int r0), .val (.int r1), .val (.int tc), .val (.ref h0.size), .val (.ref b125), .val (.ref T129.heap.size), .val (.ref b131), .val (.int (2 : Int32)), .unset, .unset] [(.int (2 : Int32)), (.ref b131)])) rfl (by rw [hml]; rfl) (Steps.refl _) (argsL := [(.int (2 : Int32))]) (rest := []) (lenOf pd_11 rfl) rfl (by show 2 * 0 + _ ≤ _; exact Nat.le_of_eq rfl) (hb hby at_118) (fun _ _ => ⟨rfl, rfl, (by decide : 8 + 6 ≤ _), (by decide : 32 + 53 ≤ _)⟩)
          dsimp only [Pt.U, Pt.locs, Pt.cells, Pt.slots] at X142 l142 y142 z142 st142 hQ142 hS142 hg142
          subst l142 y142 z142
          have hZ := State.Warmed39.trans hZ hS142.1
          have hown := (hS142.1.alike.findClass _ _).trans hown
          obtain ⟨u, d, rfl, N142q, K142, S_s⟩ := hQ142
          have N142 := Fr.app N132 N142q
          refine EndsW.st st142 ?_
          have Kt5 : Keep h0 T142.heap [] := Kt4.trans K142 all0
          have Zt5 : n0 ≤ T142.heap.size := Nat.le_trans Z0 Kt5.1
          have Ot5 := O.keep Kt5 all0
          have S_h_5 := S_h_4.keep K142 nin0 nin0
          have S_r_5 := S_r_4.keep K142 nin0 nin0
          have S_t_5 := S_t_4.keep K142 nin0 nin0
          have E_r_5 := E_r.keep K142
          have F_h_5 := F_h.keep K142 nin0
          have F_r_5 := F_r.keep K142 nin0
          have F_t_5 := F_t.keep K142 nin0
          have hkz0 : T142.heap.size ≤ T142.heap.size := Nat.le_refl _
          refine EndsW.of (F' := T142.setTop (mkF m 170 #[.val (.int p1), .val (.int p2), .val (.int p3), .val (.int p4), .val (.int p5), .val (.int hc), .val (.int r0), .val (.int r1), .val (.int tc), .val (.ref h0.size), .val (.ref b125), .val (.ref T129.heap.size), .val (.ref b131), .val (.int (2 : Int32)), .val (.ref u), .unset] [])) (fun _ kt => ?_) ?_
          · show Steps p.tables e below (T142.setTop (mkF m 121 #[.val (.int p1), .val (.int p2), .val (.int p3), .val (.int p4), .val (.int p5), .val (.int hc), .val (.int r0), .val (.int r1), .val (.int tc), .val (.ref h0.size), .val (.ref b125), .val (.ref T129.heap.size), .val (.ref b131), .val (.int (2 : Int32)), .unset, .unset] [(.ref u)])) _
            refine XS.astore X142.here hx rfl (hb hby at_121) rfl rfl (l' := #[.val (.int p1), .val (.int p2), .val (.int p3), .val (.int p4), .val (.int p5), .val (.int hc), .val (.int r0), .val (.int r1), .val (.int tc), .val (.ref h0.size), .val (.ref b125), .val (.ref T129.heap.size), .val (.ref b131), .val (.int (2 : Int32)), .val (.ref u), .unset]) rfl ?_
            show Steps p.tables e below (T142.setTop (mkF m 123 #[.val (.int p1), .val (.int p2), .val (.int p3), .val (.int p4), .val (.int p5), .val (.int hc), .val (.int r0), .val (.int r1), .val (.int tc), .val (.ref h0.size), .val (.ref b125), .val (.ref T129.heap.size), .val (.ref b131), .val (.int (2 : Int32)), .val (.ref u), .unset] [])) _
            refine XS.iload X142.here hx rfl (hb hby at_123) rfl ?_
            show Steps p.tables e below (T142.setTop (mkF m 125 #[.val (.int p1), .val (.int p2), .val (.int p3), .val (.int p4), .val (.int p5), .val (.int hc), .val (.int r0), .val (.int r1), .val (.int tc), .val (.ref h0.size), .val (.ref b125), .val (.ref T129.heap.size), .val (.ref b131), .val (.int (2 : Int32)), .val (.ref u), .unset] [(.int (2 : Int32))])) _
            refine XS.iconst X142.here hx rfl (hb hby at_125) ?_
            show Steps p.tables e below (T142.setTop (mkF m 126 #[.val (.int p1), .val (.int p2), .val (.int p3), .val (.int p4), .val (.int p5), .val (.int hc), .val (.int r0), .val (.int r1), .val (.int tc), .val (.ref h0.size), .val (.ref b125), .val (.ref T129.heap.size), .val (.ref b131), .val (.int (2 : Int32)), .val (.ref u), .unset] [(.int (1 : Int32)), (.int (2 : Int32))])) _
            refine XS.icmpYes X142.here hx rfl (pc0 := 126) (pc' := 164) rfl (hb hby at_126) rfl (tlt (by decide)).2.2.1 (by decide) (by decide) ?_
            show Steps p.tables e below (T142.setTop (mkF m 164 #[.val (.int p1), .val (.int p2), .val (.int p3), .val (.int p4), .val (.int p5), .val (.int hc), .val (.int r0), .val (.int r1), .val (.int tc), .val (.ref h0.size), .val (.ref b125), .val (.ref T129.heap.size), .val (.ref b131), .val (.int (2 : Int32)), .val (.ref u), .unset] [])) _
            refine XS.iload X142.here hx rfl (hb hby at_164) rfl ?_
            show Steps p.tables e below (T142.setTop (mkF m 166 #[.val (.int p1), .val (.int p2), .val (.int p3), .val (.int p4), .val (.int p5), .val (.int hc), .val (.int r0), .val (.int r1), .val (.int tc), .val (.ref h0.size), .val (.ref b125), .val (.ref T129.heap.size), .val (.ref b131), .val (.int (2 : Int32)), .val (.ref u), .unset] [(.int (2 : Int32))])) _
            refine XS.iconst X142.here hx rfl (hb hby at_166) ?_
            show Steps p.tables e below (T142.setTop (mkF m 167 #[.val (.int p1), .val (.int p2), .val (.int p3), .val (.int p4), .val (.int p5), .val (.int hc), .val (.int r0), .val (.int r1), .val (.int tc), .val (.ref h0.size), .val (.ref b125), .val (.ref T129.heap.size), .val (.ref b131), .val (.int (2 : Int32)), .val (.ref u), .unset] [(.int (2 : Int32)), (.int (2 : Int32))])) _
            refine XS.icmpNo X142.here hx rfl (hb hby at_167) rfl (teq rfl).2 ?_
            exact kt
          obtain ⟨T143, h143, X143, e143, E143, A143, D143, -, st143⟩ := newO X142 hx hZ hown (hw _ (List.mem_of_getElem? (i := 26) rfl)) (hw _ (List.mem_of_getElem? (i := 10) rfl)) (hw _ (List.mem_of_getElem? (i := 2) rfl)) rfl (g := (mkF m 170 #[.val (.int p1), .val (.int p2), .val (.int p3), .val (.int p4), .val (.int p5), .val (.int hc), .val (.int r0), .val (.int r1), .val (.int tc), .val (.ref h0.size), .val (.ref b125), .val (.ref T129.heap.size), .val (.ref b131), .val (.int (2 : Int32)), .val (.ref u), .unset] [])) rfl (hb hby at_170) (by decide) (by decide)
          obtain ⟨b143, g143⟩ : ∃ z, z = T142.heap.size := ⟨_, rfl⟩
          rw [← g143] at A143 D143 st143
          have F_value_b143 : Fld Z h143 b143 "java/lang/String" "value" "[B" .null := D143 (Or.inr (hw _ (List.mem_of_getElem? (i := 23) rfl))) (ty := (.array .byte)) (by decide)
          have F_coder_b143 : Fld Z h143 b143 "java/lang/String" "coder" "B" (.int (0 : Int32)) := D143 (Or.inr (hw _ (List.mem_of_getElem? (i := 25) rfl))) (ty := .byte) (by decide)
          refine EndsW.of st143 ?_
          refine EndsW.of (F' := T143.setTop (mkF m 176 #[.val (.int p1), .val (.int p2), .val (.int p3), .val (.int p4), .val (.int p5), .val (.int hc), .val (.int r0), .val (.int r1), .val (.int tc), .val (.ref h0.size), .val (.ref b125), .val (.ref T129.heap.size), .val (.ref b131), .val (.int (2 : Int32)), .val (.ref u), .unset] [(.int (8 : Int32)), (.ref b143), (.ref b143)])) (fun _ kt => ?_) ?_
          · show Steps p.tables e below (T143.setTop (mkF m 173 #[.val (.int p1), .val (.int p2), .val (.int p3), .val (.int p4), .val (.int p5), .val (.int hc), .val (.int r0), .val (.int r1), .val (.int tc), .val (.ref h0.size), .val (.ref b125), .val (.ref T129.heap.size), .val (.ref b131), .val (.int (2 : Int32)), .val (.ref u), .unset] [(.ref b143)])) _
            refine XS.dup X143.here hx rfl (hb hby at_173) rfl rfl ?_
            show Steps p.tables e below (T143.setTop (mkF m 174 #[.val (.int p1), .val (.int p2), .val (.int p3), .val (.int p4), .val (.int p5), .val (.int hc), .val (.int r0), .val (.int r1), .val (.int tc), .val (.ref h0.size), .val (.ref b125), .val (.ref T129.heap.size), .val (.ref b131), .val (.int (2 : Int32)), .val (.ref u), .unset] [(.ref b143), (.ref b143)])) _
            refine XS.bipush X143.here hx rfl (hb hby at_174) ?_
            exact kt
          obtain ⟨T144, h144, k144, X144, e144, E144, A144, st144⟩ := newP X143 hx hZ (hw _ (List.mem_of_getElem? (i := 27) rfl)) e143 (g := (mkF m 176 #[.val (.int p1), .val (.int p2), .val (.int p3), .val (.int p4), .val (.int p5), .val (.int hc), .val (.int r0), .val (.int r1), .val (.int tc), .val (.ref h0.size), .val (.ref b125), .val (.ref T129.heap.size), .val (.ref b131), .val (.int (2 : Int32)), .val (.ref u), .unset] [(.int (8 : Int32)), (.ref b143), (.ref b143)])) rfl (hb hby at_176) rfl (by decide) (cap := 8) (by decide) (by decide) (by decide) (by decide)
          obtain ⟨b144, g144⟩ : ∃ z, z = h143.size := ⟨_, rfl⟩
          rw [← g144] at A144 st144
          refine EndsW.of st144 ?_
          have V144_0 : Ary .char Z h144 b144 8 (fun _ => 0) := Ary.new (n := 8) A144 (by omega) rfl
          have ga144 : T142.heap.size ≤ b144 := Nat.le_trans E143.1 (Nat.le_of_eq g144.symm)
          have gs144 : T142.heap.size ≤ b143 := Nat.le_of_eq g143.symm
          have ne144 : b143 ≠ b144 := Nat.ne_of_lt (Nat.lt_of_lt_of_le A143.lt (Nat.le_of_eq g144.symm))
          have Km144_0 : Keep h143 h144 [b144] := (Keep.refl h143 [b144]).ext E144
          obtain ⟨cx144_0, Ax144_0, Sx144_0, -, put144_0⟩ := V144_0.op
          refine EndsW.of (F' := T144.setTop (mkF m 182 #[.val (.int p1), .val (.int p2), .val (.int p3), .val (.int p4), .val (.int p5), .val (.int hc), .val (.int r0), .val (.int r1), .val (.int tc), .val (.ref h0.size), .val (.ref b125), .val (.ref T129.heap.size), .val (.ref b131), .val (.int (2 : Int32)), .val (.ref u), .unset] [(.int hc), (.int (0 : Int32)), (.ref b144), (.ref b144), (.ref b143), (.ref b143)])) (fun _ kt => ?_) ?_
          · show Steps p.tables e below (T144.setTop (mkF m 178 #[.val (.int p1), .val (.int p2), .val (.int p3), .val (.int p4), .val (.int p5), .val (.int hc), .val (.int r0), .val (.int r1), .val (.int tc), .val (.ref h0.size), .val (.ref b125), .val (.ref T129.heap.size), .val (.ref b131), .val (.int (2 : Int32)), .val (.ref u), .unset] [(.ref b144), (.ref b143), (.ref b143)])) _
            refine XS.dup X144.here hx rfl (hb hby at_178) rfl rfl ?_
            show Steps p.tables e below (T144.setTop (mkF m 179 #[.val (.int p1), .val (.int p2), .val (.int p3), .val (.int p4), .val (.int p5), .val (.int hc), .val (.int r0), .val (.int r1), .val (.int tc), .val (.ref h0.size), .val (.ref b125), .val (.ref T129.heap.size), .val (.ref b131), .val (.int (2 : Int32)), .val (.ref u), .unset] [(.ref b144), (.ref b144), (.ref b143), (.ref b143)])) _
            refine XS.iconst X144.here hx rfl (hb hby at_179) ?_
            show Steps p.tables e below (T144.setTop (mkF m 180 #[.val (.int p1), .val (.int p2), .val (.int p3), .val (.int p4), .val (.int p5), .val (.int hc), .val (.int r0), .val (.int r1), .val (.int tc), .val (.ref h0.size), .val (.ref b125), .val (.ref T129.heap.size), .val (.ref b131), .val (.int (2 : Int32)), .val (.ref u), .unset] [(.int (0 : Int32)), (.ref b144), (.ref b144), (.ref b143), (.ref b143)])) _
            refine XS.iload X144.here hx rfl (hb hby at_180) rfl ?_
            exact kt
          obtain ⟨T145, h145, X145, e145, W145, st145⟩ := stC X144 hx hZ e144 Ax144_0 (j := (0 : Int32)) (own_hin (i := 0) Sx144_0 rfl (by omega) (by omega)) (g := (mkF m 182 #[.val (.int p1), .val (.int p2), .val (.int p3), .val (.int p4), .val (.int p5), .val (.int hc), .val (.int r0), .val (.int r1), .val (.int tc), .val (.ref h0.size), .val (.ref b125), .val (.ref T129.heap.size), .val (.ref b131), .val (.int (2 : Int32)), .val (.ref u), .unset] [(.int hc), (.int (0 : Int32)), (.ref b144), (.ref b144), (.ref b143), (.ref b143)])) rfl rfl (hb hby at_182)
          refine EndsW.of st145 ?_
          have N145 := Fr.snoc X145 N142 (Nat.le_trans Zt5 ga144)
          rw [c1.2] at W145
          have V144_1 := put144_0 _ _ _ 0 W145 (by decide) (by omega) c1.fits
          have Km144_1 := Km144_0.wr W145 (Or.inl (List.mem_of_getElem? (i := 0) rfl))
          obtain ⟨cx144_1, Ax144_1, Sx144_1, -, put144_1⟩ := V144_1.op
          refine EndsW.of (F' := T145.setTop (mkF m 187 #[.val (.int p1), .val (.int p2), .val (.int p3), .val (.int p4), .val (.int p5), .val (.int hc), .val (.int r0), .val (.int r1), .val (.int tc), .val (.ref h0.size), .val (.ref b125), .val (.ref T129.heap.size), .val (.ref b131), .val (.int (2 : Int32)), .val (.ref u), .unset] [(.int r0), (.int (1 : Int32)), (.ref b144), (.ref b144), (.ref b143), (.ref b143)])) (fun _ kt => ?_) ?_
          · show Steps p.tables e below (T145.setTop (mkF m 183 #[.val (.int p1), .val (.int p2), .val (.int p3), .val (.int p4), .val (.int p5), .val (.int hc), .val (.int r0), .val (.int r1), .val (.int tc), .val (.ref h0.size), .val (.ref b125), .val (.ref T129.heap.size), .val (.ref b131), .val (.int (2 : Int32)), .val (.ref u), .unset] [(.ref b144), (.ref b143), (.ref b143)])) _
            refine XS.dup X145.here hx rfl (hb hby at_183) rfl rfl ?_
            show Steps p.tables e below (T145.setTop (mkF m 184 #[.val (.int p1), .val (.int p2), .val (.int p3), .val (.int p4), .val (.int p5), .val (.int hc), .val (.int r0), .val (.int r1), .val (.int tc), .val (.ref h0.size), .val (.ref b125), .val (.ref T129.heap.size), .val (.ref b131), .val (.int (2 : Int32)), .val (.ref u), .unset] [(.ref b144), (.ref b144), (.ref b143), (.ref b143)])) _
            refine XS.iconst X145.here hx rfl (hb hby at_184) ?_
            show Steps p.tables e below (T145.setTop (mkF m 185 #[.val (.int p1), .val (.int p2), .val (.int p3), .val (.int p4), .val (.int p5), .val (.int hc), .val (.int r0), .val (.int r1), .val (.int tc), .val (.ref h0.size), .val (.ref b125), .val (.ref T129.heap.size), .val (.ref b131), .val (.int (2 : Int32)), .val (.ref u), .unset] [(.int (1 : Int32)), (.ref b144), (.ref b144), (.ref b143), (.ref b143)])) _
            refine XS.iload X145.here hx rfl (hb hby at_185) rfl ?_
            exact kt
          obtain ⟨T146, h146, X146, e146, W146, st146⟩ := stC X145 hx hZ e145 Ax144_1 (j := (1 : Int32)) (own_hin (i := 1) Sx144_1 rfl (by omega) (by omega)) (g := (mkF m 187 #[.val (.int p1), .val (.int p2), .val (.int p3), .val (.int p4), .val (.int p5), .val (.int hc), .val (.int r0), .val (.int r1), .val (.int tc), .val (.ref h0.size), .val (.ref b125), .val (.ref T129.heap.size), .val (.ref b131), .val (.int (2 : Int32)), .val (.ref u), .unset] [(.int r0), (.int (1 : Int32)), (.ref b144), (.ref b144), (.ref b143), (.ref b143)])) rfl rfl (hb hby at_187)
          refine EndsW.of st146 ?_
          have N146 := Fr.snoc X146 N145 (Nat.le_trans Zt5 ga144)
          rw [c2.2] at W146
          have V144_2 := put144_1 _ _ _ 1 W146 (by decide) (by omega) c2.fits
          have Km144_2 := Km144_1.wr W146 (Or.inl (List.mem_of_getElem? (i := 0) rfl))
          obtain ⟨cx144_2, Ax144_2, Sx144_2, -, put144_2⟩ := V144_2.op
          refine EndsW.of (F' := T146.setTop (mkF m 192 #[.val (.int p1), .val (.int p2), .val (.int p3), .val (.int p4), .val (.int p5), .val (.int hc), .val (.int r0), .val (.int r1), .val (.int tc), .val (.ref h0.size), .val (.ref b125), .val (.ref T129.heap.size), .val (.ref b131), .val (.int (2 : Int32)), .val (.ref u), .unset] [(.int r1), (.int (2 : Int32)), (.ref b144), (.ref b144), (.ref b143), (.ref b143)])) (fun _ kt => ?_) ?_
          · show Steps p.tables e below (T146.setTop (mkF m 188 #[.val (.int p1), .val (.int p2), .val (.int p3), .val (.int p4), .val (.int p5), .val (.int hc), .val (.int r0), .val (.int r1), .val (.int tc), .val (.ref h0.size), .val (.ref b125), .val (.ref T129.heap.size), .val (.ref b131), .val (.int (2 : Int32)), .val (.ref u), .unset] [(.ref b144), (.ref b143), (.ref b143)])) _
            refine XS.dup X146.here hx rfl (hb hby at_188) rfl rfl ?_
            show Steps p.tables e below (T146.setTop (mkF m 189 #[.val (.int p1), .val (.int p2), .val (.int p3), .val (.int p4), .val (.int p5), .val (.int hc), .val (.int r0), .val (.int r1), .val (.int tc), .val (.ref h0.size), .val (.ref b125), .val (.ref T129.heap.size), .val (.ref b131), .val (.int (2 : Int32)), .val (.ref u), .unset] [(.ref b144), (.ref b144), (.ref b143), (.ref b143)])) _
            refine XS.iconst X146.here hx rfl (hb hby at_189) ?_
            show Steps p.tables e below (T146.setTop (mkF m 190 #[.val (.int p1), .val (.int p2), .val (.int p3), .val (.int p4), .val (.int p5), .val (.int hc), .val (.int r0), .val (.int r1), .val (.int tc), .val (.ref h0.size), .val (.ref b125), .val (.ref T129.heap.size), .val (.ref b131), .val (.int (2 : Int32)), .val (.ref u), .unset] [(.int (2 : Int32)), (.ref b144), (.ref b144), (.ref b143), (.ref b143)])) _
            refine XS.iload X146.here hx rfl (hb hby at_190) rfl ?_
            exact kt
          obtain ⟨T147, h147, X147, e147, W147, st147⟩ := stC X146 hx hZ e146 Ax144_2 (j := (2 : Int32)) (own_hin (i := 2) Sx144_2 rfl (by omega) (by omega)) (g := (mkF m 192 #[.val (.int p1), .val (.int p2), .val (.int p3), .val (.int p4), .val (.int p5), .val (.int hc), .val (.int r0), .val (.int r1), .val (.int tc), .val (.ref h0.size), .val (.ref b125), .val (.ref T129.heap.size), .val (.ref b131), .val (.int (2 : Int32)), .val (.ref u), .unset] [(.int r1), (.int (2 : Int32)), (.ref b144), (.ref b144), (.ref b143), (.ref b143)])) rfl rfl (hb hby at_192)
          refine EndsW.of st147 ?_
          have N147 := Fr.snoc X147 N146 (Nat.le_trans Zt5 ga144)
          rw [c3.2] at W147
          have V144_3 := put144_2 _ _ _ 2 W147 (by decide) (by omega) c3.fits
          have Km144_3 := Km144_2.wr W147 (Or.inl (List.mem_of_getElem? (i := 0) rfl))
          obtain ⟨cx144_3, Ax144_3, Sx144_3, -, put144_3⟩ := V144_3.op
          refine EndsW.of (F' := T147.setTop (mkF m 197 #[.val (.int p1), .val (.int p2), .val (.int p3), .val (.int p4), .val (.int p5), .val (.int hc), .val (.int r0), .val (.int r1), .val (.int tc), .val (.ref h0.size), .val (.ref b125), .val (.ref T129.heap.size), .val (.ref b131), .val (.int (2 : Int32)), .val (.ref u), .unset] [(.int (44 : Int32)), (.int (3 : Int32)), (.ref b144), (.ref b144), (.ref b143), (.ref b143)])) (fun _ kt => ?_) ?_
          · show Steps p.tables e below (T147.setTop (mkF m 193 #[.val (.int p1), .val (.int p2), .val (.int p3), .val (.int p4), .val (.int p5), .val (.int hc), .val (.int r0), .val (.int r1), .val (.int tc), .val (.ref h0.size), .val (.ref b125), .val (.ref T129.heap.size), .val (.ref b131), .val (.int (2 : Int32)), .val (.ref u), .unset] [(.ref b144), (.ref b143), (.ref b143)])) _
            refine XS.dup X147.here hx rfl (hb hby at_193) rfl rfl ?_
            show Steps p.tables e below (T147.setTop (mkF m 194 #[.val (.int p1), .val (.int p2), .val (.int p3), .val (.int p4), .val (.int p5), .val (.int hc), .val (.int r0), .val (.int r1), .val (.int tc), .val (.ref h0.size), .val (.ref b125), .val (.ref T129.heap.size), .val (.ref b131), .val (.int (2 : Int32)), .val (.ref u), .unset] [(.ref b144), (.ref b144), (.ref b143), (.ref b143)])) _
            refine XS.iconst X147.here hx rfl (hb hby at_194) ?_
            show Steps p.tables e below (T147.setTop (mkF m 195 #[.val (.int p1), .val (.int p2), .val (.int p3), .val (.int p4), .val (.int p5), .val (.int hc), .val (.int r0), .val (.int r1), .val (.int tc), .val (.ref h0.size), .val (.ref b125), .val (.ref T129.heap.size), .val (.ref b131), .val (.int (2 : Int32)), .val (.ref u), .unset] [(.int (3 : Int32)), (.ref b144), (.ref b144), (.ref b143), (.ref b143)])) _
            refine XS.bipush X147.here hx rfl (hb hby at_195) ?_
            exact kt
          obtain ⟨T148, h148, X148, e148, W148, st148⟩ := stC X147 hx hZ e147 Ax144_3 (j := (3 : Int32)) (own_hin (i := 3) Sx144_3 rfl (by omega) (by omega)) (g := (mkF m 197 #[.val (.int p1), .val (.int p2), .val (.int p3), .val (.int p4), .val (.int p5), .val (.int hc), .val (.int r0), .val (.int r1), .val (.int tc), .val (.ref h0.size), .val (.ref b125), .val (.ref T129.heap.size), .val (.ref b131), .val (.int (2 : Int32)), .val (.ref u), .unset] [(.int (44 : Int32)), (.int (3 : Int32)), (.ref b144), (.ref b144), (.ref b143), (.ref b143)])) rfl rfl (hb hby at_197)
          refine EndsW.of st148 ?_
          have N148 := Fr.snoc X148 N147 (Nat.le_trans Zt5 ga144)
          rw [own_44.2] at W148
          have V144_4 := put144_3 _ _ _ 3 W148 (by decide) (by omega) own_44.fits
          have Km144_4 := Km144_3.wr W148 (Or.inl (List.mem_of_getElem? (i := 0) rfl))
          obtain ⟨cx144_4, Ax144_4, Sx144_4, -, put144_4⟩ := V144_4.op
          refine EndsW.of (F' := T148.setTop (mkF m 202 #[.val (.int p1), .val (.int p2), .val (.int p3), .val (.int p4), .val (.int p5), .val (.int hc), .val (.int r0), .val (.int r1), .val (.int tc), .val (.ref h0.size), .val (.ref b125), .val (.ref T129.heap.size), .val (.ref b131), .val (.int (2 : Int32)), .val (.ref u), .unset] [(.int (32 : Int32)), (.int (4 : Int32)), (.ref b144), (.ref b144), (.ref b143), (.ref b143)])) (fun _ kt => ?_) ?_
          · show Steps p.tables e below (T148.setTop (mkF m 198 #[.val (.int p1), .val (.int p2), .val (.int p3), .val (.int p4), .val (.int p5), .val (.int hc), .val (.int r0), .val (.int r1), .val (.int tc), .val (.ref h0.size), .val (.ref b125), .val (.ref T129.heap.size), .val (.ref b131), .val (.int (2 : Int32)), .val (.ref u), .unset] [(.ref b144), (.ref b143), (.ref b143)])) _
            refine XS.dup X148.here hx rfl (hb hby at_198) rfl rfl ?_
            show Steps p.tables e below (T148.setTop (mkF m 199 #[.val (.int p1), .val (.int p2), .val (.int p3), .val (.int p4), .val (.int p5), .val (.int hc), .val (.int r0), .val (.int r1), .val (.int tc), .val (.ref h0.size), .val (.ref b125), .val (.ref T129.heap.size), .val (.ref b131), .val (.int (2 : Int32)), .val (.ref u), .unset] [(.ref b144), (.ref b144), (.ref b143), (.ref b143)])) _
            refine XS.iconst X148.here hx rfl (hb hby at_199) ?_
            show Steps p.tables e below (T148.setTop (mkF m 200 #[.val (.int p1), .val (.int p2), .val (.int p3), .val (.int p4), .val (.int p5), .val (.int hc), .val (.int r0), .val (.int r1), .val (.int tc), .val (.ref h0.size), .val (.ref b125), .val (.ref T129.heap.size), .val (.ref b131), .val (.int (2 : Int32)), .val (.ref u), .unset] [(.int (4 : Int32)), (.ref b144), (.ref b144), (.ref b143), (.ref b143)])) _
            refine XS.bipush X148.here hx rfl (hb hby at_200) ?_
            exact kt
          obtain ⟨T149, h149, X149, e149, W149, st149⟩ := stC X148 hx hZ e148 Ax144_4 (j := (4 : Int32)) (own_hin (i := 4) Sx144_4 rfl (by omega) (by omega)) (g := (mkF m 202 #[.val (.int p1), .val (.int p2), .val (.int p3), .val (.int p4), .val (.int p5), .val (.int hc), .val (.int r0), .val (.int r1), .val (.int tc), .val (.ref h0.size), .val (.ref b125), .val (.ref T129.heap.size), .val (.ref b131), .val (.int (2 : Int32)), .val (.ref u), .unset] [(.int (32 : Int32)), (.int (4 : Int32)), (.ref b144), (.ref b144), (.ref b143), (.ref b143)])) rfl rfl (hb hby at_202)
          refine EndsW.of st149 ?_
          have N149 := Fr.snoc X149 N148 (Nat.le_trans Zt5 ga144)
          rw [own_32.2] at W149
          have V144_5 := put144_4 _ _ _ 4 W149 (by decide) (by omega) own_32.fits
          have Km144_5 := Km144_4.wr W149 (Or.inl (List.mem_of_getElem? (i := 0) rfl))
          obtain ⟨cx144_5, Ax144_5, Sx144_5, -, put144_5⟩ := V144_5.op
          refine EndsW.of (F' := T149.setTop (mkF m 207 #[.val (.int p1), .val (.int p2), .val (.int p3), .val (.int p4), .val (.int p5), .val (.int hc), .val (.int r0), .val (.int r1), .val (.int tc), .val (.ref h0.size), .val (.ref b125), .val (.ref T129.heap.size), .val (.ref b131), .val (.int (2 : Int32)), .val (.ref u), .unset] [(.int r0), (.int (5 : Int32)), (.ref b144), (.ref b144), (.ref b143), (.ref b143)])) (fun _ kt => ?_) ?_
          · show Steps p.tables e below (T149.setTop (mkF m 203 #[.val (.int p1), .val (.int p2), .val (.int p3), .val (.int p4), .val (.int p5), .val (.int hc), .val (.int r0), .val (.int r1), .val (.int tc), .val (.ref h0.size), .val (.ref b125), .val (.ref T129.heap.size), .val (.ref b131), .val (.int (2 : Int32)), .val (.ref u), .unset] [(.ref b144), (.ref b143), (.ref b143)])) _
            refine XS.dup X149.here hx rfl (hb hby at_203) rfl rfl ?_
            show Steps p.tables e below (T149.setTop (mkF m 204 #[.val (.int p1), .val (.int p2), .val (.int p3), .val (.int p4), .val (.int p5), .val (.int hc), .val (.int r0), .val (.int r1), .val (.int tc), .val (.ref h0.size), .val (.ref b125), .val (.ref T129.heap.size), .val (.ref b131), .val (.int (2 : Int32)), .val (.ref u), .unset] [(.ref b144), (.ref b144), (.ref b143), (.ref b143)])) _
            refine XS.iconst X149.here hx rfl (hb hby at_204) ?_
            show Steps p.tables e below (T149.setTop (mkF m 205 #[.val (.int p1), .val (.int p2), .val (.int p3), .val (.int p4), .val (.int p5), .val (.int hc), .val (.int r0), .val (.int r1), .val (.int tc), .val (.ref h0.size), .val (.ref b125), .val (.ref T129.heap.size), .val (.ref b131), .val (.int (2 : Int32)), .val (.ref u), .unset] [(.int (5 : Int32)), (.ref b144), (.ref b144), (.ref b143), (.ref b143)])) _
            refine XS.iload X149.here hx rfl (hb hby at_205) rfl ?_
            exact kt
          obtain ⟨T150, h150, X150, e150, W150, st150⟩ := stC X149 hx hZ e149 Ax144_5 (j := (5 : Int32)) (own_hin (i := 5) Sx144_5 rfl (by omega) (by omega)) (g := (mkF m 207 #[.val (.int p1), .val (.int p2), .val (.int p3), .val (.int p4), .val (.int p5), .val (.int hc), .val (.int r0), .val (.int r1), .val (.int tc), .val (.ref h0.size), .val (.ref b125), .val (.ref T129.heap.size), .val (.ref b131), .val (.int (2 : Int32)), .val (.ref u), .unset] [(.int r0), (.int (5 : Int32)), (.ref b144), (.ref b144), (.ref b143), (.ref b143)])) rfl rfl (hb hby at_207)
          refine EndsW.of st150 ?_
          have N150 := Fr.snoc X150 N149 (Nat.le_trans Zt5 ga144)
          rw [c2.2] at W150
          have V144_6 := put144_5 _ _ _ 5 W150 (by decide) (by omega) c2.fits
          have Km144_6 := Km144_5.wr W150 (Or.inl (List.mem_of_getElem? (i := 0) rfl))
          obtain ⟨cx144_6, Ax144_6, Sx144_6, -, put144_6⟩ := V144_6.op
          refine EndsW.of (F' := T150.setTop (mkF m 213 #[.val (.int p1), .val (.int p2), .val (.int p3), .val (.int p4), .val (.int p5), .val (.int hc), .val (.int r0), .val (.int r1), .val (.int tc), .val (.ref h0.size), .val (.ref b125), .val (.ref T129.heap.size), .val (.ref b131), .val (.int (2 : Int32)), .val (.ref u), .unset] [(.int r1), (.int (6 : Int32)), (.ref b144), (.ref b144), (.ref b143), (.ref b143)])) (fun _ kt => ?_) ?_
          · show Steps p.tables e below (T150.setTop (mkF m 208 #[.val (.int p1), .val (.int p2), .val (.int p3), .val (.int p4), .val (.int p5), .val (.int hc), .val (.int r0), .val (.int r1), .val (.int tc), .val (.ref h0.size), .val (.ref b125), .val (.ref T129.heap.size), .val (.ref b131), .val (.int (2 : Int32)), .val (.ref u), .unset] [(.ref b144), (.ref b143), (.ref b143)])) _
            refine XS.dup X150.here hx rfl (hb hby at_208) rfl rfl ?_
            show Steps p.tables e below (T150.setTop (mkF m 209 #[.val (.int p1), .val (.int p2), .val (.int p3), .val (.int p4), .val (.int p5), .val (.int hc), .val (.int r0), .val (.int r1), .val (.int tc), .val (.ref h0.size), .val (.ref b125), .val (.ref T129.heap.size), .val (.ref b131), .val (.int (2 : Int32)), .val (.ref u), .unset] [(.ref b144), (.ref b144), (.ref b143), (.ref b143)])) _
            refine XS.bipush X150.here hx rfl (hb hby at_209) ?_
            show Steps p.tables e below (T150.setTop (mkF m 211 #[.val (.int p1), .val (.int p2), .val (.int p3), .val (.int p4), .val (.int p5), .val (.int hc), .val (.int r0), .val (.int r1), .val (.int tc), .val (.ref h0.size), .val (.ref b125), .val (.ref T129.heap.size), .val (.ref b131), .val (.int (2 : Int32)), .val (.ref u), .unset] [(.int (6 : Int32)), (.ref b144), (.ref b144), (.ref b143), (.ref b143)])) _
            refine XS.iload X150.here hx rfl (hb hby at_211) rfl ?_
            exact kt
          obtain ⟨T151, h151, X151, e151, W151, st151⟩ := stC X150 hx hZ e150 Ax144_6 (j := (6 : Int32)) (own_hin (i := 6) Sx144_6 rfl (by omega) (by omega)) (g := (mkF m 213 #[.val (.int p1), .val (.int p2), .val (.int p3), .val (.int p4), .val (.int p5), .val (.int hc), .val (.int r0), .val (.int r1), .val (.int tc), .val (.ref h0.size), .val (.ref b125), .val (.ref T129.heap.size), .val (.ref b131), .val (.int (2 : Int32)), .val (.ref u), .unset] [(.int r1), (.int (6 : Int32)), (.ref b144), (.ref b144), (.ref b143), (.ref b143)])) rfl rfl (hb hby at_213)
          refine EndsW.of st151 ?_
          have N151 := Fr.snoc X151 N150 (Nat.le_trans Zt5 ga144)
          rw [c3.2] at W151
          have V144_7 := put144_6 _ _ _ 6 W151 (by decide) (by omega) c3.fits
          have Km144_7 := Km144_6.wr W151 (Or.inl (List.mem_of_getElem? (i := 0) rfl))
          obtain ⟨cx144_7, Ax144_7, Sx144_7, -, put144_7⟩ := V144_7.op
          refine EndsW.of (F' := T151.setTop (mkF m 219 #[.val (.int p1), .val (.int p2), .val (.int p3), .val (.int p4), .val (.int p5), .val (.int hc), .val (.int r0), .val (.int r1), .val (.int tc), .val (.ref h0.size), .val (.ref b125), .val (.ref T129.heap.size), .val (.ref b131), .val (.int (2 : Int32)), .val (.ref u), .unset] [(.int tc), (.int (7 : Int32)), (.ref b144), (.ref b144), (.ref b143), (.ref b143)])) (fun _ kt => ?_) ?_
          · show Steps p.tables e below (T151.setTop (mkF m 214 #[.val (.int p1), .val (.int p2), .val (.int p3), .val (.int p4), .val (.int p5), .val (.int hc), .val (.int r0), .val (.int r1), .val (.int tc), .val (.ref h0.size), .val (.ref b125), .val (.ref T129.heap.size), .val (.ref b131), .val (.int (2 : Int32)), .val (.ref u), .unset] [(.ref b144), (.ref b143), (.ref b143)])) _
            refine XS.dup X151.here hx rfl (hb hby at_214) rfl rfl ?_
            show Steps p.tables e below (T151.setTop (mkF m 215 #[.val (.int p1), .val (.int p2), .val (.int p3), .val (.int p4), .val (.int p5), .val (.int hc), .val (.int r0), .val (.int r1), .val (.int tc), .val (.ref h0.size), .val (.ref b125), .val (.ref T129.heap.size), .val (.ref b131), .val (.int (2 : Int32)), .val (.ref u), .unset] [(.ref b144), (.ref b144), (.ref b143), (.ref b143)])) _
            refine XS.bipush X151.here hx rfl (hb hby at_215) ?_
            show Steps p.tables e below (T151.setTop (mkF m 217 #[.val (.int p1), .val (.int p2), .val (.int p3), .val (.int p4), .val (.int p5), .val (.int hc), .val (.int r0), .val (.int r1), .val (.int tc), .val (.ref h0.size), .val (.ref b125), .val (.ref T129.heap.size), .val (.ref b131), .val (.int (2 : Int32)), .val (.ref u), .unset] [(.int (7 : Int32)), (.ref b144), (.ref b144), (.ref b143), (.ref b143)])) _
            refine XS.iload X151.here hx rfl (hb hby at_217) rfl ?_
            exact kt
          obtain ⟨T152, h152, X152, e152, W152, st152⟩ := stC X151 hx hZ e151 Ax144_7 (j := (7 : Int32)) (own_hin (i := 7) Sx144_7 rfl (by omega) (by omega)) (g := (mkF m 219 #[.val (.int p1), .val (.int p2), .val (.int p3), .val (.int p4), .val (.int p5), .val (.int hc), .val (.int r0), .val (.int r1), .val (.int tc), .val (.ref h0.size), .val (.ref b125), .val (.ref T129.heap.size), .val (.ref b131), .val (.int (2 : Int32)), .val (.ref u), .unset] [(.int tc), (.int (7 : Int32)), (.ref b144), (.ref b144), (.ref b143), (.ref b143)])) rfl rfl (hb hby at_219)
          refine EndsW.of st152 ?_
          have N152 := Fr.snoc X152 N151 (Nat.le_trans Zt5 ga144)
          rw [c4.2] at W152
          have V144_8 := put144_7 _ _ _ 7 W152 (by decide) (by omega) c4.fits
          have Km144_8 := Km144_7.wr W152 (Or.inl (List.mem_of_getElem? (i := 0) rfl))
          have Vc144 : Ary .char Z h152 b144 8 (tf [hc, r0, r1, (44 : Int32), (32 : Int32), r0, r1, tc]) := V144_8.congr (fun i hi => by
      rcases (by omega : i = 0 ∨ i = 1 ∨ i = 2 ∨ i = 3 ∨ i = 4 ∨ i = 5 ∨ i = 6 ∨ i = 7) with rfl | rfl | rfl | rfl | rfl | rfl | rfl | rfl <;> rfl)
          have Ka144 : Keep T142.heap h152 [] := ((Keep.refl T142.heap []).ext E143).trans Km144_8 (allS (Or.inr ga144) all0)
          have Kta144 : Keep h0 h152 [] := Kt5.trans Ka144 all0
          have Za144 : n0 ≤ h152.size := Nat.le_trans Z0 Kta144.1
          have ni144 : b143 ∉ [b144] := ninS ne144 nin0
          obtain ⟨_, _, ⟨T153, L153, k153, n153⟩, -, X153, ⟨Lc153, hQ153, l153, y153, z153⟩, st153⟩ := X152.specialBack hx (y := (⟨"java/lang/String", "<init>", "([C)V"⟩ : MethodName)) rfl hown (mvT hZ (hw _ (List.mem_of_getElem? (i := 28) rfl))) (mvT hZ (hw _ (List.mem_of_getElem? (i := 29) rfl))) (mvT hZ (hw _ (List.mem_of_getElem? (i := 30) rfl))) (by decide) (backOf (W := 1) (str_initC l Z a0 hw [] b143 b144 8 (tf [hc, r0, r1, (44 : Int32), (32 : Int32), r0, r1, tc]) cs h152 n0 Za144 S0 hcs (O.keep Kta144 all0) (A143.keep Km144_8) (F_value_b143.keep Km144_8 ni144) (F_coder_b143.keep Km144_8 ni144) Vc144 (fun i hi => by
      rcases (by omega : i = 0 ∨ i = 1 ∨ i = 2 ∨ i = 3 ∨ i = 4 ∨ i = 5 ∨ i = 6 ∨ i = 7) with rfl | rfl | rfl | rfl | rfl | rfl | rfl | rfl
      · exact c1.1
      · exact c2.1
      · exact c3.1
      · exact own_44.1
      · exact own_32.1
      · exact c2.1
      · exact c3.1
      · exact c4.1) (by omega) (by omega) (Nat.le_trans Zt5 gs144)) hZ (hw _ (List.mem_of_getElem? (i := 30) rfl)) (hw _ (List.mem_of_getElem? (i := 2) rfl)) (by decide) (by decide)) (g := (mkF m 220 #[.val (.int p1), .val (.int p2), .val (.int p3), .val (.int p4), .val (.int p5), .val (.int hc), .val (.int r0), .val (.int r1), .val (.int tc), .val (.ref h0.size), .val (.ref b125), .val (.ref T129.heap.size), .val (.ref b131), .val (.int (2 : Int32)), .val (.ref u), .unset] [(.ref b144), (.ref b143), (.ref b143)])) rfl (by rw [hml]; rfl) (Steps.refl _) (a := b143) (argsL := [(.ref b144)]) (rest := [(.ref b143)]) (lenOf pd_5 rfl) rfl (by show 2 * 0 + _ ≤ _; exact Nat.le_of_eq rfl) (hb hby at_220) (fun _ _ => ⟨rfl, e152, (by decide : 16 + 1 ≤ _), (by decide : 97 + 12 ≤ _)⟩)
          dsimp only [Pt.U, Pt.locs, Pt.cells, Pt.slots] at X153 l153 y153 z153 st153 hQ153
          subst l153 y153 z153
          obtain ⟨rfl, N153q, K153, bi153, St153, gi153⟩ := hQ153
          have N153 := Fr.app N152 N153q
          refine EndsW.st st153 ?_
          have S_e : Str Z T153.heap b143 bi153 8 (tf [hc.toInt8.toInt32, r0.toInt8.toInt32, r1.toInt8.toInt32, (44 : Int32), (32 : Int32), r0.toInt8.toInt32, r1.toInt8.toInt32, tc.toInt8.toInt32]) := St153.congr (fun i hi => by
      rcases (by omega : i = 0 ∨ i = 1 ∨ i = 2 ∨ i = 3 ∨ i = 4 ∨ i = 5 ∨ i = 6 ∨ i = 7) with rfl | rfl | rfl | rfl | rfl | rfl | rfl | rfl <;> first | rfl | (show (44 : Int32).toInt8.toInt32 = (44 : Int32); decide) | (show (32 : Int32).toInt8.toInt32 = (32 : Int32); decide))
          have Kb144 : Keep T142.heap T153.heap [] := Ka144.trans K153 (allS (Or.inr gs144) all0)
          have Kt6 : Keep h0 T153.heap [] := Kt5.trans Kb144 all0
          have Zt6 : n0 ≤ T153.heap.size := Nat.le_trans Z0 Kt6.1
          have Ot6 := O.keep Kt6 all0
          have S_s_6 := S_s.keep Kb144 nin0 nin0
          have neq : ¬ u = b143 := Nat.ne_of_lt (Nat.lt_of_lt_of_le S_s.1.lt (Nat.le_of_eq g143.symm))
          have hkz : T142.heap.size ≤ T153.heap.size := Nat.le_trans hkz0 Kb144.1
          refine EndsW.of (F' := T153.setTop (mkF m 311 #[.val (.int p1), .val (.int p2), .val (.int p3), .val (.int p4), .val (.int p5), .val (.int hc), .val (.int r0), .val (.int r1), .val (.int tc), .val (.ref h0.size), .val (.ref b125), .val (.ref T129.heap.size), .val (.ref b131), .val (.int (2 : Int32)), .val (.ref u), .val (.ref b143)] [(.ref b143), (.ref u)])) (fun _ kt => ?_) ?_
          · show Steps p.tables e below (T153.setTop (mkF m 223 #[.val (.int p1), .val (.int p2), .val (.int p3), .val (.int p4), .val (.int p5), .val (.int hc), .val (.int r0), .val (.int r1), .val (.int tc), .val (.ref h0.size), .val (.ref b125), .val (.ref T129.heap.size), .val (.ref b131), .val (.int (2 : Int32)), .val (.ref u), .unset] [(.ref b143)])) _
            refine XS.astore X153.here hx rfl (hb hby at_223) rfl rfl (l' := #[.val (.int p1), .val (.int p2), .val (.int p3), .val (.int p4), .val (.int p5), .val (.int hc), .val (.int r0), .val (.int r1), .val (.int tc), .val (.ref h0.size), .val (.ref b125), .val (.ref T129.heap.size), .val (.ref b131), .val (.int (2 : Int32)), .val (.ref u), .val (.ref b143)]) rfl ?_
            show Steps p.tables e below (T153.setTop (mkF m 225 #[.val (.int p1), .val (.int p2), .val (.int p3), .val (.int p4), .val (.int p5), .val (.int hc), .val (.int r0), .val (.int r1), .val (.int tc), .val (.ref h0.size), .val (.ref b125), .val (.ref T129.heap.size), .val (.ref b131), .val (.int (2 : Int32)), .val (.ref u), .val (.ref b143)] [])) _
            refine XS.goto X153.here hx rfl (pc0 := 225) (pc' := 307) rfl (hb hby at_225) (by decide) (by decide) ?_
            show Steps p.tables e below (T153.setTop (mkF m 307 #[.val (.int p1), .val (.int p2), .val (.int p3), .val (.int p4), .val (.int p5), .val (.int hc), .val (.int r0), .val (.int r1), .val (.int tc), .val (.ref h0.size), .val (.ref b125), .val (.ref T129.heap.size), .val (.ref b131), .val (.int (2 : Int32)), .val (.ref u), .val (.ref b143)] [])) _
            refine XS.aload X153.here hx rfl (hb hby at_307) rfl rfl ?_
            show Steps p.tables e below (T153.setTop (mkF m 309 #[.val (.int p1), .val (.int p2), .val (.int p3), .val (.int p4), .val (.int p5), .val (.int hc), .val (.int r0), .val (.int r1), .val (.int tc), .val (.ref h0.size), .val (.ref b125), .val (.ref T129.heap.size), .val (.ref b131), .val (.int (2 : Int32)), .val (.ref u), .val (.ref b143)] [(.ref u)])) _
            refine XS.aload X153.here hx rfl (hb hby at_309) rfl rfl ?_
            exact kt
          obtain ⟨cq154, kq154, q154a, q154b, q154c⟩ := isOf hZ rfl S_s_6.1
          obtain ⟨_, _, ⟨T154, L154, k154, n154⟩, -, X154, ⟨Lc154, hQ154, l154, y154, z154⟩, st154⟩ := X153.virtualBack hx (y := (⟨"java/lang/String", "equals", "(Ljava/lang/Object;)Z"⟩ : MethodName)) (z := (⟨"java/lang/String", "equals", "(Ljava/lang/Object;)Z"⟩ : MethodName)) hown (mvT hZ (hw _ (List.mem_of_getElem? (i := 185) rfl))) (mvT hZ (hw _ (List.mem_of_getElem? (i := 186) rfl))) (notFace_of_selects (args := #[]) (mvT hZ (hw _ (List.mem_of_getElem? (i := 188) rfl)))) (mvT hZ (hw _ (List.mem_of_getElem? (i := 188) rfl))) (mvT hZ (hw _ (List.mem_of_getElem? (i := 187) rfl))) (by decide) (backOf (W := 0) (str_equals l Z a0 hw [] u b143 d bi153 8 8 (tf [hc.toInt8.toInt32, r0.toInt8.toInt32, r1.toInt8.toInt32, (44 : Int32), (32 : Int32), r0.toInt8.toInt32, r1.toInt8.toInt32, tc.toInt8.toInt32]) (tf [hc.toInt8.toInt32, r0.toInt8.toInt32, r1.toInt8.toInt32, (44 : Int32), (32 : Int32), r0.toInt8.toInt32, r1.toInt8.toInt32, tc.toInt8.toInt32]) cs T153.heap n0 Zt6 S0 hcs Ot6 S_s_6 S_e neq) hZ (hw _ (List.mem_of_getElem? (i := 189) rfl)) (hw _ (List.mem_of_getElem? (i := 2) rfl)) (by decide) (by decide)) q154a q154c (g := (mkF m 311 #[.val (.int p1), .val (.int p2), .val (.int p3), .val (.int p4), .val (.int p5), .val (.int hc), .val (.int r0), .val (.int r1), .val (.int tc), .val (.ref h0.size), .val (.ref b125), .val (.ref T129.heap.size), .val (.ref b131), .val (.int (2 : Int32)), .val (.ref u), .val (.ref b143)] [(.ref b143), (.ref u)])) rfl (by rw [hml]; rfl) (Steps.refl _) (argsL := [(.ref b143)]) (rest := []) (lenOf pd_29 rfl) rfl (by show 2 * 0 + _ ≤ _; exact Nat.le_of_eq rfl) (hb hby at_311) (fun _ _ => ⟨rfl, rfl, (by decide : 17 + 0 ≤ _), (by decide : 109 + 0 ≤ _)⟩)
          dsimp only [Pt.U, Pt.locs, Pt.cells, Pt.slots] at X154 l154 y154 z154 st154 hQ154
          subst l154 y154 z154
          obtain ⟨rfl, N154q, e154⟩ := hQ154
          have N154 := Fr.app N153 N154q
          refine EndsW.st st154 ?_
          rw [if_pos ⟨rfl, fun _ _ => rfl⟩]
          obtain ⟨fs, hr, hrun, hended, hEW⟩ := Stand.leaveW (s := s) (vm₁ := T142.vm) X154 hS142 (by rw [e154]; exact hkz) (v := some (.int (1 : Int32))) (fun h => by rw [Bd.returns] at h; cases h)
          exact ⟨_, _, retN X154 hx (t := .boolean) Bd.returns (by simp) (hb hby at_314) hr, hrun, hended, _, _, rfl, ⟨rfl, N154⟩, hEW.1, hEW.2.1, hEW.2.2.1, hEW.2.2.2.mono (by decide) (by decide)⟩
        · have hb1 := own_a1 hpb
          rw [hb1, show (2 : Int32) + (1 : Int32) = (3 : Int32) by decide]
          obtain ⟨cq155, kq155, q155a, q155b, q155c⟩ := isOf hZ rfl E_r
          obtain ⟨_, _, ⟨T155, L155, k155, n155⟩, -, X155, hS155, hg155, ⟨Lc155, hQ155, l155, y155, z155⟩, st155⟩ := X132.virtualBackS hx (y := (⟨"com/example/coordinant/coordinant/Log$Rows", "statement", "(I)Ljava/lang/String;"⟩ : MethodName)) (z := (⟨"com/example/coordinant/coordinant/Log$Rows", "statement", "(I)Ljava/lang/String;"⟩ : MethodName)) hown (mvT hZ (hw _ (List.mem_of_getElem? (i := 64) rfl))) (mvT hZ (hw _ (List.mem_of_getElem? (i := 65) rfl))) (notFace_of_selects (args := #[]) (mvT hZ (hw _ (List.mem_of_getElem? (i := 67) rfl)))) (mvT hZ (hw _ (List.mem_of_getElem? (i := 67) rfl))) (mvT hZ (hw _ (List.mem_of_getElem? (i := 66) rfl))) (by decide) (own_backOfS (W := 0) (stm3 l Z a0 hw [] b131 h0.size b125 T129.heap.size bv124 bi129 bv130 hc.toInt8.toInt32 r0.toInt8.toInt32 r1.toInt8.toInt32 tc.toInt8.toInt32 cs T132.heap n0 Zt4 S0 hcs Ot4 F_h F_r F_t S_h_4 S_r_4 S_t_4 hh0 hcw) hZ hI (hw _ (List.mem_of_getElem? (i := 68) rfl)) (hw _ (List.mem_of_getElem? (i := 46) rfl)) (by decide) (by decide)) q155a q155c (g := (mkF m 118 #[.val (.int p1), .val (.int p2), .val (.int p3), .val (.int p4), .val (.int p5), .val (.int hc), .val (.int r0), .val (.int r1), .val (.int tc), .val (.ref h0.size), .val (.ref b125), .val (.ref T129.heap.size), .val (.ref b131), .val (.int (3 : Int32)), .unset, .unset] [(.int (3 : Int32)), (.ref b131)])) rfl (by rw [hml]; rfl) (Steps.refl _) (argsL := [(.int (3 : Int32))]) (rest := []) (lenOf pd_11 rfl) rfl (by show 2 * 0 + _ ≤ _; exact Nat.le_of_eq rfl) (hb hby at_118) (fun _ _ => ⟨rfl, rfl, (by decide : 8 + 6 ≤ _), (by decide : 32 + 53 ≤ _)⟩)
          dsimp only [Pt.U, Pt.locs, Pt.cells, Pt.slots] at X155 l155 y155 z155 st155 hQ155 hS155 hg155
          subst l155 y155 z155
          have hZ := State.Warmed39.trans hZ hS155.1
          have hown := (hS155.1.alike.findClass _ _).trans hown
          obtain ⟨u, d, rfl, N155q, K155, S_s⟩ := hQ155
          have N155 := Fr.app N132 N155q
          refine EndsW.st st155 ?_
          have Kt5 : Keep h0 T155.heap [] := Kt4.trans K155 all0
          have Zt5 : n0 ≤ T155.heap.size := Nat.le_trans Z0 Kt5.1
          have Ot5 := O.keep Kt5 all0
          have S_h_5 := S_h_4.keep K155 nin0 nin0
          have S_r_5 := S_r_4.keep K155 nin0 nin0
          have S_t_5 := S_t_4.keep K155 nin0 nin0
          have E_r_5 := E_r.keep K155
          have F_h_5 := F_h.keep K155 nin0
          have F_r_5 := F_r.keep K155 nin0
          have F_t_5 := F_t.keep K155 nin0
          have hkz0 : T155.heap.size ≤ T155.heap.size := Nat.le_refl _
          refine EndsW.of (F' := T155.setTop (mkF m 228 #[.val (.int p1), .val (.int p2), .val (.int p3), .val (.int p4), .val (.int p5), .val (.int hc), .val (.int r0), .val (.int r1), .val (.int tc), .val (.ref h0.size), .val (.ref b125), .val (.ref T129.heap.size), .val (.ref b131), .val (.int (3 : Int32)), .val (.ref u), .unset] [])) (fun _ kt => ?_) ?_
          · show Steps p.tables e below (T155.setTop (mkF m 121 #[.val (.int p1), .val (.int p2), .val (.int p3), .val (.int p4), .val (.int p5), .val (.int hc), .val (.int r0), .val (.int r1), .val (.int tc), .val (.ref h0.size), .val (.ref b125), .val (.ref T129.heap.size), .val (.ref b131), .val (.int (3 : Int32)), .unset, .unset] [(.ref u)])) _
            refine XS.astore X155.here hx rfl (hb hby at_121) rfl rfl (l' := #[.val (.int p1), .val (.int p2), .val (.int p3), .val (.int p4), .val (.int p5), .val (.int hc), .val (.int r0), .val (.int r1), .val (.int tc), .val (.ref h0.size), .val (.ref b125), .val (.ref T129.heap.size), .val (.ref b131), .val (.int (3 : Int32)), .val (.ref u), .unset]) rfl ?_
            show Steps p.tables e below (T155.setTop (mkF m 123 #[.val (.int p1), .val (.int p2), .val (.int p3), .val (.int p4), .val (.int p5), .val (.int hc), .val (.int r0), .val (.int r1), .val (.int tc), .val (.ref h0.size), .val (.ref b125), .val (.ref T129.heap.size), .val (.ref b131), .val (.int (3 : Int32)), .val (.ref u), .unset] [])) _
            refine XS.iload X155.here hx rfl (hb hby at_123) rfl ?_
            show Steps p.tables e below (T155.setTop (mkF m 125 #[.val (.int p1), .val (.int p2), .val (.int p3), .val (.int p4), .val (.int p5), .val (.int hc), .val (.int r0), .val (.int r1), .val (.int tc), .val (.ref h0.size), .val (.ref b125), .val (.ref T129.heap.size), .val (.ref b131), .val (.int (3 : Int32)), .val (.ref u), .unset] [(.int (3 : Int32))])) _
            refine XS.iconst X155.here hx rfl (hb hby at_125) ?_
            show Steps p.tables e below (T155.setTop (mkF m 126 #[.val (.int p1), .val (.int p2), .val (.int p3), .val (.int p4), .val (.int p5), .val (.int hc), .val (.int r0), .val (.int r1), .val (.int tc), .val (.ref h0.size), .val (.ref b125), .val (.ref T129.heap.size), .val (.ref b131), .val (.int (3 : Int32)), .val (.ref u), .unset] [(.int (1 : Int32)), (.int (3 : Int32))])) _
            refine XS.icmpYes X155.here hx rfl (pc0 := 126) (pc' := 164) rfl (hb hby at_126) rfl (tlt (by decide)).2.2.1 (by decide) (by decide) ?_
            show Steps p.tables e below (T155.setTop (mkF m 164 #[.val (.int p1), .val (.int p2), .val (.int p3), .val (.int p4), .val (.int p5), .val (.int hc), .val (.int r0), .val (.int r1), .val (.int tc), .val (.ref h0.size), .val (.ref b125), .val (.ref T129.heap.size), .val (.ref b131), .val (.int (3 : Int32)), .val (.ref u), .unset] [])) _
            refine XS.iload X155.here hx rfl (hb hby at_164) rfl ?_
            show Steps p.tables e below (T155.setTop (mkF m 166 #[.val (.int p1), .val (.int p2), .val (.int p3), .val (.int p4), .val (.int p5), .val (.int hc), .val (.int r0), .val (.int r1), .val (.int tc), .val (.ref h0.size), .val (.ref b125), .val (.ref T129.heap.size), .val (.ref b131), .val (.int (3 : Int32)), .val (.ref u), .unset] [(.int (3 : Int32))])) _
            refine XS.iconst X155.here hx rfl (hb hby at_166) ?_
            show Steps p.tables e below (T155.setTop (mkF m 167 #[.val (.int p1), .val (.int p2), .val (.int p3), .val (.int p4), .val (.int p5), .val (.int hc), .val (.int r0), .val (.int r1), .val (.int tc), .val (.ref h0.size), .val (.ref b125), .val (.ref T129.heap.size), .val (.ref b131), .val (.int (3 : Int32)), .val (.ref u), .unset] [(.int (2 : Int32)), (.int (3 : Int32))])) _
            refine XS.icmpYes X155.here hx rfl (pc0 := 167) (pc' := 228) rfl (hb hby at_167) rfl (feq (by decide)).2 (by decide) (by decide) ?_
            exact kt
          obtain ⟨T156, h156, X156, e156, E156, A156, D156, -, st156⟩ := newO X155 hx hZ hown (hw _ (List.mem_of_getElem? (i := 26) rfl)) (hw _ (List.mem_of_getElem? (i := 10) rfl)) (hw _ (List.mem_of_getElem? (i := 2) rfl)) rfl (g := (mkF m 228 #[.val (.int p1), .val (.int p2), .val (.int p3), .val (.int p4), .val (.int p5), .val (.int hc), .val (.int r0), .val (.int r1), .val (.int tc), .val (.ref h0.size), .val (.ref b125), .val (.ref T129.heap.size), .val (.ref b131), .val (.int (3 : Int32)), .val (.ref u), .unset] [])) rfl (hb hby at_228) (by decide) (by decide)
          obtain ⟨b156, g156⟩ : ∃ z, z = T155.heap.size := ⟨_, rfl⟩
          rw [← g156] at A156 D156 st156
          have F_value_b156 : Fld Z h156 b156 "java/lang/String" "value" "[B" .null := D156 (Or.inr (hw _ (List.mem_of_getElem? (i := 23) rfl))) (ty := (.array .byte)) (by decide)
          have F_coder_b156 : Fld Z h156 b156 "java/lang/String" "coder" "B" (.int (0 : Int32)) := D156 (Or.inr (hw _ (List.mem_of_getElem? (i := 25) rfl))) (ty := .byte) (by decide)
          refine EndsW.of st156 ?_
          refine EndsW.of (F' := T156.setTop (mkF m 234 #[.val (.int p1), .val (.int p2), .val (.int p3), .val (.int p4), .val (.int p5), .val (.int hc), .val (.int r0), .val (.int r1), .val (.int tc), .val (.ref h0.size), .val (.ref b125), .val (.ref T129.heap.size), .val (.ref b131), .val (.int (3 : Int32)), .val (.ref u), .unset] [(.int (12 : Int32)), (.ref b156), (.ref b156)])) (fun _ kt => ?_) ?_
          · show Steps p.tables e below (T156.setTop (mkF m 231 #[.val (.int p1), .val (.int p2), .val (.int p3), .val (.int p4), .val (.int p5), .val (.int hc), .val (.int r0), .val (.int r1), .val (.int tc), .val (.ref h0.size), .val (.ref b125), .val (.ref T129.heap.size), .val (.ref b131), .val (.int (3 : Int32)), .val (.ref u), .unset] [(.ref b156)])) _
            refine XS.dup X156.here hx rfl (hb hby at_231) rfl rfl ?_
            show Steps p.tables e below (T156.setTop (mkF m 232 #[.val (.int p1), .val (.int p2), .val (.int p3), .val (.int p4), .val (.int p5), .val (.int hc), .val (.int r0), .val (.int r1), .val (.int tc), .val (.ref h0.size), .val (.ref b125), .val (.ref T129.heap.size), .val (.ref b131), .val (.int (3 : Int32)), .val (.ref u), .unset] [(.ref b156), (.ref b156)])) _
            refine XS.bipush X156.here hx rfl (hb hby at_232) ?_
            exact kt
          obtain ⟨T157, h157, k157, X157, e157, E157, A157, st157⟩ := newP X156 hx hZ (hw _ (List.mem_of_getElem? (i := 27) rfl)) e156 (g := (mkF m 234 #[.val (.int p1), .val (.int p2), .val (.int p3), .val (.int p4), .val (.int p5), .val (.int hc), .val (.int r0), .val (.int r1), .val (.int tc), .val (.ref h0.size), .val (.ref b125), .val (.ref T129.heap.size), .val (.ref b131), .val (.int (3 : Int32)), .val (.ref u), .unset] [(.int (12 : Int32)), (.ref b156), (.ref b156)])) rfl (hb hby at_234) rfl (by decide) (cap := 12) (by decide) (by decide) (by decide) (by decide)
          obtain ⟨b157, g157⟩ : ∃ z, z = h156.size := ⟨_, rfl⟩
          rw [← g157] at A157 st157
          refine EndsW.of st157 ?_
          have V157_0 : Ary .char Z h157 b157 12 (fun _ => 0) := Ary.new (n := 12) A157 (by omega) rfl
          have ga157 : T155.heap.size ≤ b157 := Nat.le_trans E156.1 (Nat.le_of_eq g157.symm)
          have gs157 : T155.heap.size ≤ b156 := Nat.le_of_eq g156.symm
          have ne157 : b156 ≠ b157 := Nat.ne_of_lt (Nat.lt_of_lt_of_le A156.lt (Nat.le_of_eq g157.symm))
          have Km157_0 : Keep h156 h157 [b157] := (Keep.refl h156 [b157]).ext E157
          obtain ⟨cx157_0, Ax157_0, Sx157_0, -, put157_0⟩ := V157_0.op
          refine EndsW.of (F' := T157.setTop (mkF m 240 #[.val (.int p1), .val (.int p2), .val (.int p3), .val (.int p4), .val (.int p5), .val (.int hc), .val (.int r0), .val (.int r1), .val (.int tc), .val (.ref h0.size), .val (.ref b125), .val (.ref T129.heap.size), .val (.ref b131), .val (.int (3 : Int32)), .val (.ref u), .unset] [(.int hc), (.int (0 : Int32)), (.ref b157), (.ref b157), (.ref b156), (.ref b156)])) (fun _ kt => ?_) ?_
          · show Steps p.tables e below (T157.setTop (mkF m 236 #[.val (.int p1), .val (.int p2), .val (.int p3), .val (.int p4), .val (.int p5), .val (.int hc), .val (.int r0), .val (.int r1), .val (.int tc), .val (.ref h0.size), .val (.ref b125), .val (.ref T129.heap.size), .val (.ref b131), .val (.int (3 : Int32)), .val (.ref u), .unset] [(.ref b157), (.ref b156), (.ref b156)])) _
            refine XS.dup X157.here hx rfl (hb hby at_236) rfl rfl ?_
            show Steps p.tables e below (T157.setTop (mkF m 237 #[.val (.int p1), .val (.int p2), .val (.int p3), .val (.int p4), .val (.int p5), .val (.int hc), .val (.int r0), .val (.int r1), .val (.int tc), .val (.ref h0.size), .val (.ref b125), .val (.ref T129.heap.size), .val (.ref b131), .val (.int (3 : Int32)), .val (.ref u), .unset] [(.ref b157), (.ref b157), (.ref b156), (.ref b156)])) _
            refine XS.iconst X157.here hx rfl (hb hby at_237) ?_
            show Steps p.tables e below (T157.setTop (mkF m 238 #[.val (.int p1), .val (.int p2), .val (.int p3), .val (.int p4), .val (.int p5), .val (.int hc), .val (.int r0), .val (.int r1), .val (.int tc), .val (.ref h0.size), .val (.ref b125), .val (.ref T129.heap.size), .val (.ref b131), .val (.int (3 : Int32)), .val (.ref u), .unset] [(.int (0 : Int32)), (.ref b157), (.ref b157), (.ref b156), (.ref b156)])) _
            refine XS.iload X157.here hx rfl (hb hby at_238) rfl ?_
            exact kt
          obtain ⟨T158, h158, X158, e158, W158, st158⟩ := stC X157 hx hZ e157 Ax157_0 (j := (0 : Int32)) (own_hin (i := 0) Sx157_0 rfl (by omega) (by omega)) (g := (mkF m 240 #[.val (.int p1), .val (.int p2), .val (.int p3), .val (.int p4), .val (.int p5), .val (.int hc), .val (.int r0), .val (.int r1), .val (.int tc), .val (.ref h0.size), .val (.ref b125), .val (.ref T129.heap.size), .val (.ref b131), .val (.int (3 : Int32)), .val (.ref u), .unset] [(.int hc), (.int (0 : Int32)), (.ref b157), (.ref b157), (.ref b156), (.ref b156)])) rfl rfl (hb hby at_240)
          refine EndsW.of st158 ?_
          have N158 := Fr.snoc X158 N155 (Nat.le_trans Zt5 ga157)
          rw [c1.2] at W158
          have V157_1 := put157_0 _ _ _ 0 W158 (by decide) (by omega) c1.fits
          have Km157_1 := Km157_0.wr W158 (Or.inl (List.mem_of_getElem? (i := 0) rfl))
          obtain ⟨cx157_1, Ax157_1, Sx157_1, -, put157_1⟩ := V157_1.op
          refine EndsW.of (F' := T158.setTop (mkF m 245 #[.val (.int p1), .val (.int p2), .val (.int p3), .val (.int p4), .val (.int p5), .val (.int hc), .val (.int r0), .val (.int r1), .val (.int tc), .val (.ref h0.size), .val (.ref b125), .val (.ref T129.heap.size), .val (.ref b131), .val (.int (3 : Int32)), .val (.ref u), .unset] [(.int r0), (.int (1 : Int32)), (.ref b157), (.ref b157), (.ref b156), (.ref b156)])) (fun _ kt => ?_) ?_
          · show Steps p.tables e below (T158.setTop (mkF m 241 #[.val (.int p1), .val (.int p2), .val (.int p3), .val (.int p4), .val (.int p5), .val (.int hc), .val (.int r0), .val (.int r1), .val (.int tc), .val (.ref h0.size), .val (.ref b125), .val (.ref T129.heap.size), .val (.ref b131), .val (.int (3 : Int32)), .val (.ref u), .unset] [(.ref b157), (.ref b156), (.ref b156)])) _
            refine XS.dup X158.here hx rfl (hb hby at_241) rfl rfl ?_
            show Steps p.tables e below (T158.setTop (mkF m 242 #[.val (.int p1), .val (.int p2), .val (.int p3), .val (.int p4), .val (.int p5), .val (.int hc), .val (.int r0), .val (.int r1), .val (.int tc), .val (.ref h0.size), .val (.ref b125), .val (.ref T129.heap.size), .val (.ref b131), .val (.int (3 : Int32)), .val (.ref u), .unset] [(.ref b157), (.ref b157), (.ref b156), (.ref b156)])) _
            refine XS.iconst X158.here hx rfl (hb hby at_242) ?_
            show Steps p.tables e below (T158.setTop (mkF m 243 #[.val (.int p1), .val (.int p2), .val (.int p3), .val (.int p4), .val (.int p5), .val (.int hc), .val (.int r0), .val (.int r1), .val (.int tc), .val (.ref h0.size), .val (.ref b125), .val (.ref T129.heap.size), .val (.ref b131), .val (.int (3 : Int32)), .val (.ref u), .unset] [(.int (1 : Int32)), (.ref b157), (.ref b157), (.ref b156), (.ref b156)])) _
            refine XS.iload X158.here hx rfl (hb hby at_243) rfl ?_
            exact kt
          obtain ⟨T159, h159, X159, e159, W159, st159⟩ := stC X158 hx hZ e158 Ax157_1 (j := (1 : Int32)) (own_hin (i := 1) Sx157_1 rfl (by omega) (by omega)) (g := (mkF m 245 #[.val (.int p1), .val (.int p2), .val (.int p3), .val (.int p4), .val (.int p5), .val (.int hc), .val (.int r0), .val (.int r1), .val (.int tc), .val (.ref h0.size), .val (.ref b125), .val (.ref T129.heap.size), .val (.ref b131), .val (.int (3 : Int32)), .val (.ref u), .unset] [(.int r0), (.int (1 : Int32)), (.ref b157), (.ref b157), (.ref b156), (.ref b156)])) rfl rfl (hb hby at_245)
          refine EndsW.of st159 ?_
          have N159 := Fr.snoc X159 N158 (Nat.le_trans Zt5 ga157)
          rw [c2.2] at W159
          have V157_2 := put157_1 _ _ _ 1 W159 (by decide) (by omega) c2.fits
          have Km157_2 := Km157_1.wr W159 (Or.inl (List.mem_of_getElem? (i := 0) rfl))
          obtain ⟨cx157_2, Ax157_2, Sx157_2, -, put157_2⟩ := V157_2.op
          refine EndsW.of (F' := T159.setTop (mkF m 250 #[.val (.int p1), .val (.int p2), .val (.int p3), .val (.int p4), .val (.int p5), .val (.int hc), .val (.int r0), .val (.int r1), .val (.int tc), .val (.ref h0.size), .val (.ref b125), .val (.ref T129.heap.size), .val (.ref b131), .val (.int (3 : Int32)), .val (.ref u), .unset] [(.int r1), (.int (2 : Int32)), (.ref b157), (.ref b157), (.ref b156), (.ref b156)])) (fun _ kt => ?_) ?_
          · show Steps p.tables e below (T159.setTop (mkF m 246 #[.val (.int p1), .val (.int p2), .val (.int p3), .val (.int p4), .val (.int p5), .val (.int hc), .val (.int r0), .val (.int r1), .val (.int tc), .val (.ref h0.size), .val (.ref b125), .val (.ref T129.heap.size), .val (.ref b131), .val (.int (3 : Int32)), .val (.ref u), .unset] [(.ref b157), (.ref b156), (.ref b156)])) _
            refine XS.dup X159.here hx rfl (hb hby at_246) rfl rfl ?_
            show Steps p.tables e below (T159.setTop (mkF m 247 #[.val (.int p1), .val (.int p2), .val (.int p3), .val (.int p4), .val (.int p5), .val (.int hc), .val (.int r0), .val (.int r1), .val (.int tc), .val (.ref h0.size), .val (.ref b125), .val (.ref T129.heap.size), .val (.ref b131), .val (.int (3 : Int32)), .val (.ref u), .unset] [(.ref b157), (.ref b157), (.ref b156), (.ref b156)])) _
            refine XS.iconst X159.here hx rfl (hb hby at_247) ?_
            show Steps p.tables e below (T159.setTop (mkF m 248 #[.val (.int p1), .val (.int p2), .val (.int p3), .val (.int p4), .val (.int p5), .val (.int hc), .val (.int r0), .val (.int r1), .val (.int tc), .val (.ref h0.size), .val (.ref b125), .val (.ref T129.heap.size), .val (.ref b131), .val (.int (3 : Int32)), .val (.ref u), .unset] [(.int (2 : Int32)), (.ref b157), (.ref b157), (.ref b156), (.ref b156)])) _
            refine XS.iload X159.here hx rfl (hb hby at_248) rfl ?_
            exact kt
          obtain ⟨T160, h160, X160, e160, W160, st160⟩ := stC X159 hx hZ e159 Ax157_2 (j := (2 : Int32)) (own_hin (i := 2) Sx157_2 rfl (by omega) (by omega)) (g := (mkF m 250 #[.val (.int p1), .val (.int p2), .val (.int p3), .val (.int p4), .val (.int p5), .val (.int hc), .val (.int r0), .val (.int r1), .val (.int tc), .val (.ref h0.size), .val (.ref b125), .val (.ref T129.heap.size), .val (.ref b131), .val (.int (3 : Int32)), .val (.ref u), .unset] [(.int r1), (.int (2 : Int32)), (.ref b157), (.ref b157), (.ref b156), (.ref b156)])) rfl rfl (hb hby at_250)
          refine EndsW.of st160 ?_
          have N160 := Fr.snoc X160 N159 (Nat.le_trans Zt5 ga157)
          rw [c3.2] at W160
          have V157_3 := put157_2 _ _ _ 2 W160 (by decide) (by omega) c3.fits
          have Km157_3 := Km157_2.wr W160 (Or.inl (List.mem_of_getElem? (i := 0) rfl))
          obtain ⟨cx157_3, Ax157_3, Sx157_3, -, put157_3⟩ := V157_3.op
          refine EndsW.of (F' := T160.setTop (mkF m 255 #[.val (.int p1), .val (.int p2), .val (.int p3), .val (.int p4), .val (.int p5), .val (.int hc), .val (.int r0), .val (.int r1), .val (.int tc), .val (.ref h0.size), .val (.ref b125), .val (.ref T129.heap.size), .val (.ref b131), .val (.int (3 : Int32)), .val (.ref u), .unset] [(.int (44 : Int32)), (.int (3 : Int32)), (.ref b157), (.ref b157), (.ref b156), (.ref b156)])) (fun _ kt => ?_) ?_
          · show Steps p.tables e below (T160.setTop (mkF m 251 #[.val (.int p1), .val (.int p2), .val (.int p3), .val (.int p4), .val (.int p5), .val (.int hc), .val (.int r0), .val (.int r1), .val (.int tc), .val (.ref h0.size), .val (.ref b125), .val (.ref T129.heap.size), .val (.ref b131), .val (.int (3 : Int32)), .val (.ref u), .unset] [(.ref b157), (.ref b156), (.ref b156)])) _
            refine XS.dup X160.here hx rfl (hb hby at_251) rfl rfl ?_
            show Steps p.tables e below (T160.setTop (mkF m 252 #[.val (.int p1), .val (.int p2), .val (.int p3), .val (.int p4), .val (.int p5), .val (.int hc), .val (.int r0), .val (.int r1), .val (.int tc), .val (.ref h0.size), .val (.ref b125), .val (.ref T129.heap.size), .val (.ref b131), .val (.int (3 : Int32)), .val (.ref u), .unset] [(.ref b157), (.ref b157), (.ref b156), (.ref b156)])) _
            refine XS.iconst X160.here hx rfl (hb hby at_252) ?_
            show Steps p.tables e below (T160.setTop (mkF m 253 #[.val (.int p1), .val (.int p2), .val (.int p3), .val (.int p4), .val (.int p5), .val (.int hc), .val (.int r0), .val (.int r1), .val (.int tc), .val (.ref h0.size), .val (.ref b125), .val (.ref T129.heap.size), .val (.ref b131), .val (.int (3 : Int32)), .val (.ref u), .unset] [(.int (3 : Int32)), (.ref b157), (.ref b157), (.ref b156), (.ref b156)])) _
            refine XS.bipush X160.here hx rfl (hb hby at_253) ?_
            exact kt
          obtain ⟨T161, h161, X161, e161, W161, st161⟩ := stC X160 hx hZ e160 Ax157_3 (j := (3 : Int32)) (own_hin (i := 3) Sx157_3 rfl (by omega) (by omega)) (g := (mkF m 255 #[.val (.int p1), .val (.int p2), .val (.int p3), .val (.int p4), .val (.int p5), .val (.int hc), .val (.int r0), .val (.int r1), .val (.int tc), .val (.ref h0.size), .val (.ref b125), .val (.ref T129.heap.size), .val (.ref b131), .val (.int (3 : Int32)), .val (.ref u), .unset] [(.int (44 : Int32)), (.int (3 : Int32)), (.ref b157), (.ref b157), (.ref b156), (.ref b156)])) rfl rfl (hb hby at_255)
          refine EndsW.of st161 ?_
          have N161 := Fr.snoc X161 N160 (Nat.le_trans Zt5 ga157)
          rw [own_44.2] at W161
          have V157_4 := put157_3 _ _ _ 3 W161 (by decide) (by omega) own_44.fits
          have Km157_4 := Km157_3.wr W161 (Or.inl (List.mem_of_getElem? (i := 0) rfl))
          obtain ⟨cx157_4, Ax157_4, Sx157_4, -, put157_4⟩ := V157_4.op
          refine EndsW.of (F' := T161.setTop (mkF m 260 #[.val (.int p1), .val (.int p2), .val (.int p3), .val (.int p4), .val (.int p5), .val (.int hc), .val (.int r0), .val (.int r1), .val (.int tc), .val (.ref h0.size), .val (.ref b125), .val (.ref T129.heap.size), .val (.ref b131), .val (.int (3 : Int32)), .val (.ref u), .unset] [(.int (32 : Int32)), (.int (4 : Int32)), (.ref b157), (.ref b157), (.ref b156), (.ref b156)])) (fun _ kt => ?_) ?_
          · show Steps p.tables e below (T161.setTop (mkF m 256 #[.val (.int p1), .val (.int p2), .val (.int p3), .val (.int p4), .val (.int p5), .val (.int hc), .val (.int r0), .val (.int r1), .val (.int tc), .val (.ref h0.size), .val (.ref b125), .val (.ref T129.heap.size), .val (.ref b131), .val (.int (3 : Int32)), .val (.ref u), .unset] [(.ref b157), (.ref b156), (.ref b156)])) _
            refine XS.dup X161.here hx rfl (hb hby at_256) rfl rfl ?_
            show Steps p.tables e below (T161.setTop (mkF m 257 #[.val (.int p1), .val (.int p2), .val (.int p3), .val (.int p4), .val (.int p5), .val (.int hc), .val (.int r0), .val (.int r1), .val (.int tc), .val (.ref h0.size), .val (.ref b125), .val (.ref T129.heap.size), .val (.ref b131), .val (.int (3 : Int32)), .val (.ref u), .unset] [(.ref b157), (.ref b157), (.ref b156), (.ref b156)])) _
            refine XS.iconst X161.here hx rfl (hb hby at_257) ?_
            show Steps p.tables e below (T161.setTop (mkF m 258 #[.val (.int p1), .val (.int p2), .val (.int p3), .val (.int p4), .val (.int p5), .val (.int hc), .val (.int r0), .val (.int r1), .val (.int tc), .val (.ref h0.size), .val (.ref b125), .val (.ref T129.heap.size), .val (.ref b131), .val (.int (3 : Int32)), .val (.ref u), .unset] [(.int (4 : Int32)), (.ref b157), (.ref b157), (.ref b156), (.ref b156)])) _
            refine XS.bipush X161.here hx rfl (hb hby at_258) ?_
            exact kt
          obtain ⟨T162, h162, X162, e162, W162, st162⟩ := stC X161 hx hZ e161 Ax157_4 (j := (4 : Int32)) (own_hin (i := 4) Sx157_4 rfl (by omega) (by omega)) (g := (mkF m 260 #[.val (.int p1), .val (.int p2), .val (.int p3), .val (.int p4), .val (.int p5), .val (.int hc), .val (.int r0), .val (.int r1), .val (.int tc), .val (.ref h0.size), .val (.ref b125), .val (.ref T129.heap.size), .val (.ref b131), .val (.int (3 : Int32)), .val (.ref u), .unset] [(.int (32 : Int32)), (.int (4 : Int32)), (.ref b157), (.ref b157), (.ref b156), (.ref b156)])) rfl rfl (hb hby at_260)
          refine EndsW.of st162 ?_
          have N162 := Fr.snoc X162 N161 (Nat.le_trans Zt5 ga157)
          rw [own_32.2] at W162
          have V157_5 := put157_4 _ _ _ 4 W162 (by decide) (by omega) own_32.fits
          have Km157_5 := Km157_4.wr W162 (Or.inl (List.mem_of_getElem? (i := 0) rfl))
          obtain ⟨cx157_5, Ax157_5, Sx157_5, -, put157_5⟩ := V157_5.op
          refine EndsW.of (F' := T162.setTop (mkF m 265 #[.val (.int p1), .val (.int p2), .val (.int p3), .val (.int p4), .val (.int p5), .val (.int hc), .val (.int r0), .val (.int r1), .val (.int tc), .val (.ref h0.size), .val (.ref b125), .val (.ref T129.heap.size), .val (.ref b131), .val (.int (3 : Int32)), .val (.ref u), .unset] [(.int r0), (.int (5 : Int32)), (.ref b157), (.ref b157), (.ref b156), (.ref b156)])) (fun _ kt => ?_) ?_
          · show Steps p.tables e below (T162.setTop (mkF m 261 #[.val (.int p1), .val (.int p2), .val (.int p3), .val (.int p4), .val (.int p5), .val (.int hc), .val (.int r0), .val (.int r1), .val (.int tc), .val (.ref h0.size), .val (.ref b125), .val (.ref T129.heap.size), .val (.ref b131), .val (.int (3 : Int32)), .val (.ref u), .unset] [(.ref b157), (.ref b156), (.ref b156)])) _
            refine XS.dup X162.here hx rfl (hb hby at_261) rfl rfl ?_
            show Steps p.tables e below (T162.setTop (mkF m 262 #[.val (.int p1), .val (.int p2), .val (.int p3), .val (.int p4), .val (.int p5), .val (.int hc), .val (.int r0), .val (.int r1), .val (.int tc), .val (.ref h0.size), .val (.ref b125), .val (.ref T129.heap.size), .val (.ref b131), .val (.int (3 : Int32)), .val (.ref u), .unset] [(.ref b157), (.ref b157), (.ref b156), (.ref b156)])) _
            refine XS.iconst X162.here hx rfl (hb hby at_262) ?_
            show Steps p.tables e below (T162.setTop (mkF m 263 #[.val (.int p1), .val (.int p2), .val (.int p3), .val (.int p4), .val (.int p5), .val (.int hc), .val (.int r0), .val (.int r1), .val (.int tc), .val (.ref h0.size), .val (.ref b125), .val (.ref T129.heap.size), .val (.ref b131), .val (.int (3 : Int32)), .val (.ref u), .unset] [(.int (5 : Int32)), (.ref b157), (.ref b157), (.ref b156), (.ref b156)])) _
            refine XS.iload X162.here hx rfl (hb hby at_263) rfl ?_
            exact kt
          obtain ⟨T163, h163, X163, e163, W163, st163⟩ := stC X162 hx hZ e162 Ax157_5 (j := (5 : Int32)) (own_hin (i := 5) Sx157_5 rfl (by omega) (by omega)) (g := (mkF m 265 #[.val (.int p1), .val (.int p2), .val (.int p3), .val (.int p4), .val (.int p5), .val (.int hc), .val (.int r0), .val (.int r1), .val (.int tc), .val (.ref h0.size), .val (.ref b125), .val (.ref T129.heap.size), .val (.ref b131), .val (.int (3 : Int32)), .val (.ref u), .unset] [(.int r0), (.int (5 : Int32)), (.ref b157), (.ref b157), (.ref b156), (.ref b156)])) rfl rfl (hb hby at_265)
          refine EndsW.of st163 ?_
          have N163 := Fr.snoc X163 N162 (Nat.le_trans Zt5 ga157)
          rw [c2.2] at W163
          have V157_6 := put157_5 _ _ _ 5 W163 (by decide) (by omega) c2.fits
          have Km157_6 := Km157_5.wr W163 (Or.inl (List.mem_of_getElem? (i := 0) rfl))
          obtain ⟨cx157_6, Ax157_6, Sx157_6, -, put157_6⟩ := V157_6.op
          refine EndsW.of (F' := T163.setTop (mkF m 271 #[.val (.int p1), .val (.int p2), .val (.int p3), .val (.int p4), .val (.int p5), .val (.int hc), .val (.int r0), .val (.int r1), .val (.int tc), .val (.ref h0.size), .val (.ref b125), .val (.ref T129.heap.size), .val (.ref b131), .val (.int (3 : Int32)), .val (.ref u), .unset] [(.int r1), (.int (6 : Int32)), (.ref b157), (.ref b157), (.ref b156), (.ref b156)])) (fun _ kt => ?_) ?_
          · show Steps p.tables e below (T163.setTop (mkF m 266 #[.val (.int p1), .val (.int p2), .val (.int p3), .val (.int p4), .val (.int p5), .val (.int hc), .val (.int r0), .val (.int r1), .val (.int tc), .val (.ref h0.size), .val (.ref b125), .val (.ref T129.heap.size), .val (.ref b131), .val (.int (3 : Int32)), .val (.ref u), .unset] [(.ref b157), (.ref b156), (.ref b156)])) _
            refine XS.dup X163.here hx rfl (hb hby at_266) rfl rfl ?_
            show Steps p.tables e below (T163.setTop (mkF m 267 #[.val (.int p1), .val (.int p2), .val (.int p3), .val (.int p4), .val (.int p5), .val (.int hc), .val (.int r0), .val (.int r1), .val (.int tc), .val (.ref h0.size), .val (.ref b125), .val (.ref T129.heap.size), .val (.ref b131), .val (.int (3 : Int32)), .val (.ref u), .unset] [(.ref b157), (.ref b157), (.ref b156), (.ref b156)])) _
            refine XS.bipush X163.here hx rfl (hb hby at_267) ?_
            show Steps p.tables e below (T163.setTop (mkF m 269 #[.val (.int p1), .val (.int p2), .val (.int p3), .val (.int p4), .val (.int p5), .val (.int hc), .val (.int r0), .val (.int r1), .val (.int tc), .val (.ref h0.size), .val (.ref b125), .val (.ref T129.heap.size), .val (.ref b131), .val (.int (3 : Int32)), .val (.ref u), .unset] [(.int (6 : Int32)), (.ref b157), (.ref b157), (.ref b156), (.ref b156)])) _
            refine XS.iload X163.here hx rfl (hb hby at_269) rfl ?_
            exact kt
          obtain ⟨T164, h164, X164, e164, W164, st164⟩ := stC X163 hx hZ e163 Ax157_6 (j := (6 : Int32)) (own_hin (i := 6) Sx157_6 rfl (by omega) (by omega)) (g := (mkF m 271 #[.val (.int p1), .val (.int p2), .val (.int p3), .val (.int p4), .val (.int p5), .val (.int hc), .val (.int r0), .val (.int r1), .val (.int tc), .val (.ref h0.size), .val (.ref b125), .val (.ref T129.heap.size), .val (.ref b131), .val (.int (3 : Int32)), .val (.ref u), .unset] [(.int r1), (.int (6 : Int32)), (.ref b157), (.ref b157), (.ref b156), (.ref b156)])) rfl rfl (hb hby at_271)
          refine EndsW.of st164 ?_
          have N164 := Fr.snoc X164 N163 (Nat.le_trans Zt5 ga157)
          rw [c3.2] at W164
          have V157_7 := put157_6 _ _ _ 6 W164 (by decide) (by omega) c3.fits
          have Km157_7 := Km157_6.wr W164 (Or.inl (List.mem_of_getElem? (i := 0) rfl))
          obtain ⟨cx157_7, Ax157_7, Sx157_7, -, put157_7⟩ := V157_7.op
          refine EndsW.of (F' := T164.setTop (mkF m 277 #[.val (.int p1), .val (.int p2), .val (.int p3), .val (.int p4), .val (.int p5), .val (.int hc), .val (.int r0), .val (.int r1), .val (.int tc), .val (.ref h0.size), .val (.ref b125), .val (.ref T129.heap.size), .val (.ref b131), .val (.int (3 : Int32)), .val (.ref u), .unset] [(.int (44 : Int32)), (.int (7 : Int32)), (.ref b157), (.ref b157), (.ref b156), (.ref b156)])) (fun _ kt => ?_) ?_
          · show Steps p.tables e below (T164.setTop (mkF m 272 #[.val (.int p1), .val (.int p2), .val (.int p3), .val (.int p4), .val (.int p5), .val (.int hc), .val (.int r0), .val (.int r1), .val (.int tc), .val (.ref h0.size), .val (.ref b125), .val (.ref T129.heap.size), .val (.ref b131), .val (.int (3 : Int32)), .val (.ref u), .unset] [(.ref b157), (.ref b156), (.ref b156)])) _
            refine XS.dup X164.here hx rfl (hb hby at_272) rfl rfl ?_
            show Steps p.tables e below (T164.setTop (mkF m 273 #[.val (.int p1), .val (.int p2), .val (.int p3), .val (.int p4), .val (.int p5), .val (.int hc), .val (.int r0), .val (.int r1), .val (.int tc), .val (.ref h0.size), .val (.ref b125), .val (.ref T129.heap.size), .val (.ref b131), .val (.int (3 : Int32)), .val (.ref u), .unset] [(.ref b157), (.ref b157), (.ref b156), (.ref b156)])) _
            refine XS.bipush X164.here hx rfl (hb hby at_273) ?_
            show Steps p.tables e below (T164.setTop (mkF m 275 #[.val (.int p1), .val (.int p2), .val (.int p3), .val (.int p4), .val (.int p5), .val (.int hc), .val (.int r0), .val (.int r1), .val (.int tc), .val (.ref h0.size), .val (.ref b125), .val (.ref T129.heap.size), .val (.ref b131), .val (.int (3 : Int32)), .val (.ref u), .unset] [(.int (7 : Int32)), (.ref b157), (.ref b157), (.ref b156), (.ref b156)])) _
            refine XS.bipush X164.here hx rfl (hb hby at_275) ?_
            exact kt
          obtain ⟨T165, h165, X165, e165, W165, st165⟩ := stC X164 hx hZ e164 Ax157_7 (j := (7 : Int32)) (own_hin (i := 7) Sx157_7 rfl (by omega) (by omega)) (g := (mkF m 277 #[.val (.int p1), .val (.int p2), .val (.int p3), .val (.int p4), .val (.int p5), .val (.int hc), .val (.int r0), .val (.int r1), .val (.int tc), .val (.ref h0.size), .val (.ref b125), .val (.ref T129.heap.size), .val (.ref b131), .val (.int (3 : Int32)), .val (.ref u), .unset] [(.int (44 : Int32)), (.int (7 : Int32)), (.ref b157), (.ref b157), (.ref b156), (.ref b156)])) rfl rfl (hb hby at_277)
          refine EndsW.of st165 ?_
          have N165 := Fr.snoc X165 N164 (Nat.le_trans Zt5 ga157)
          rw [own_44.2] at W165
          have V157_8 := put157_7 _ _ _ 7 W165 (by decide) (by omega) own_44.fits
          have Km157_8 := Km157_7.wr W165 (Or.inl (List.mem_of_getElem? (i := 0) rfl))
          obtain ⟨cx157_8, Ax157_8, Sx157_8, -, put157_8⟩ := V157_8.op
          refine EndsW.of (F' := T165.setTop (mkF m 283 #[.val (.int p1), .val (.int p2), .val (.int p3), .val (.int p4), .val (.int p5), .val (.int hc), .val (.int r0), .val (.int r1), .val (.int tc), .val (.ref h0.size), .val (.ref b125), .val (.ref T129.heap.size), .val (.ref b131), .val (.int (3 : Int32)), .val (.ref u), .unset] [(.int (32 : Int32)), (.int (8 : Int32)), (.ref b157), (.ref b157), (.ref b156), (.ref b156)])) (fun _ kt => ?_) ?_
          · show Steps p.tables e below (T165.setTop (mkF m 278 #[.val (.int p1), .val (.int p2), .val (.int p3), .val (.int p4), .val (.int p5), .val (.int hc), .val (.int r0), .val (.int r1), .val (.int tc), .val (.ref h0.size), .val (.ref b125), .val (.ref T129.heap.size), .val (.ref b131), .val (.int (3 : Int32)), .val (.ref u), .unset] [(.ref b157), (.ref b156), (.ref b156)])) _
            refine XS.dup X165.here hx rfl (hb hby at_278) rfl rfl ?_
            show Steps p.tables e below (T165.setTop (mkF m 279 #[.val (.int p1), .val (.int p2), .val (.int p3), .val (.int p4), .val (.int p5), .val (.int hc), .val (.int r0), .val (.int r1), .val (.int tc), .val (.ref h0.size), .val (.ref b125), .val (.ref T129.heap.size), .val (.ref b131), .val (.int (3 : Int32)), .val (.ref u), .unset] [(.ref b157), (.ref b157), (.ref b156), (.ref b156)])) _
            refine XS.bipush X165.here hx rfl (hb hby at_279) ?_
            show Steps p.tables e below (T165.setTop (mkF m 281 #[.val (.int p1), .val (.int p2), .val (.int p3), .val (.int p4), .val (.int p5), .val (.int hc), .val (.int r0), .val (.int r1), .val (.int tc), .val (.ref h0.size), .val (.ref b125), .val (.ref T129.heap.size), .val (.ref b131), .val (.int (3 : Int32)), .val (.ref u), .unset] [(.int (8 : Int32)), (.ref b157), (.ref b157), (.ref b156), (.ref b156)])) _
            refine XS.bipush X165.here hx rfl (hb hby at_281) ?_
            exact kt
          obtain ⟨T166, h166, X166, e166, W166, st166⟩ := stC X165 hx hZ e165 Ax157_8 (j := (8 : Int32)) (own_hin (i := 8) Sx157_8 rfl (by omega) (by omega)) (g := (mkF m 283 #[.val (.int p1), .val (.int p2), .val (.int p3), .val (.int p4), .val (.int p5), .val (.int hc), .val (.int r0), .val (.int r1), .val (.int tc), .val (.ref h0.size), .val (.ref b125), .val (.ref T129.heap.size), .val (.ref b131), .val (.int (3 : Int32)), .val (.ref u), .unset] [(.int (32 : Int32)), (.int (8 : Int32)), (.ref b157), (.ref b157), (.ref b156), (.ref b156)])) rfl rfl (hb hby at_283)
          refine EndsW.of st166 ?_
          have N166 := Fr.snoc X166 N165 (Nat.le_trans Zt5 ga157)
          rw [own_32.2] at W166
          have V157_9 := put157_8 _ _ _ 8 W166 (by decide) (by omega) own_32.fits
          have Km157_9 := Km157_8.wr W166 (Or.inl (List.mem_of_getElem? (i := 0) rfl))
          obtain ⟨cx157_9, Ax157_9, Sx157_9, -, put157_9⟩ := V157_9.op
          refine EndsW.of (F' := T166.setTop (mkF m 289 #[.val (.int p1), .val (.int p2), .val (.int p3), .val (.int p4), .val (.int p5), .val (.int hc), .val (.int r0), .val (.int r1), .val (.int tc), .val (.ref h0.size), .val (.ref b125), .val (.ref T129.heap.size), .val (.ref b131), .val (.int (3 : Int32)), .val (.ref u), .unset] [(.int r0), (.int (9 : Int32)), (.ref b157), (.ref b157), (.ref b156), (.ref b156)])) (fun _ kt => ?_) ?_
          · show Steps p.tables e below (T166.setTop (mkF m 284 #[.val (.int p1), .val (.int p2), .val (.int p3), .val (.int p4), .val (.int p5), .val (.int hc), .val (.int r0), .val (.int r1), .val (.int tc), .val (.ref h0.size), .val (.ref b125), .val (.ref T129.heap.size), .val (.ref b131), .val (.int (3 : Int32)), .val (.ref u), .unset] [(.ref b157), (.ref b156), (.ref b156)])) _
            refine XS.dup X166.here hx rfl (hb hby at_284) rfl rfl ?_
            show Steps p.tables e below (T166.setTop (mkF m 285 #[.val (.int p1), .val (.int p2), .val (.int p3), .val (.int p4), .val (.int p5), .val (.int hc), .val (.int r0), .val (.int r1), .val (.int tc), .val (.ref h0.size), .val (.ref b125), .val (.ref T129.heap.size), .val (.ref b131), .val (.int (3 : Int32)), .val (.ref u), .unset] [(.ref b157), (.ref b157), (.ref b156), (.ref b156)])) _
            refine XS.bipush X166.here hx rfl (hb hby at_285) ?_
            show Steps p.tables e below (T166.setTop (mkF m 287 #[.val (.int p1), .val (.int p2), .val (.int p3), .val (.int p4), .val (.int p5), .val (.int hc), .val (.int r0), .val (.int r1), .val (.int tc), .val (.ref h0.size), .val (.ref b125), .val (.ref T129.heap.size), .val (.ref b131), .val (.int (3 : Int32)), .val (.ref u), .unset] [(.int (9 : Int32)), (.ref b157), (.ref b157), (.ref b156), (.ref b156)])) _
            refine XS.iload X166.here hx rfl (hb hby at_287) rfl ?_
            exact kt
          obtain ⟨T167, h167, X167, e167, W167, st167⟩ := stC X166 hx hZ e166 Ax157_9 (j := (9 : Int32)) (own_hin (i := 9) Sx157_9 rfl (by omega) (by omega)) (g := (mkF m 289 #[.val (.int p1), .val (.int p2), .val (.int p3), .val (.int p4), .val (.int p5), .val (.int hc), .val (.int r0), .val (.int r1), .val (.int tc), .val (.ref h0.size), .val (.ref b125), .val (.ref T129.heap.size), .val (.ref b131), .val (.int (3 : Int32)), .val (.ref u), .unset] [(.int r0), (.int (9 : Int32)), (.ref b157), (.ref b157), (.ref b156), (.ref b156)])) rfl rfl (hb hby at_289)
          refine EndsW.of st167 ?_
          have N167 := Fr.snoc X167 N166 (Nat.le_trans Zt5 ga157)
          rw [c2.2] at W167
          have V157_10 := put157_9 _ _ _ 9 W167 (by decide) (by omega) c2.fits
          have Km157_10 := Km157_9.wr W167 (Or.inl (List.mem_of_getElem? (i := 0) rfl))
          obtain ⟨cx157_10, Ax157_10, Sx157_10, -, put157_10⟩ := V157_10.op
          refine EndsW.of (F' := T167.setTop (mkF m 295 #[.val (.int p1), .val (.int p2), .val (.int p3), .val (.int p4), .val (.int p5), .val (.int hc), .val (.int r0), .val (.int r1), .val (.int tc), .val (.ref h0.size), .val (.ref b125), .val (.ref T129.heap.size), .val (.ref b131), .val (.int (3 : Int32)), .val (.ref u), .unset] [(.int r1), (.int (10 : Int32)), (.ref b157), (.ref b157), (.ref b156), (.ref b156)])) (fun _ kt => ?_) ?_
          · show Steps p.tables e below (T167.setTop (mkF m 290 #[.val (.int p1), .val (.int p2), .val (.int p3), .val (.int p4), .val (.int p5), .val (.int hc), .val (.int r0), .val (.int r1), .val (.int tc), .val (.ref h0.size), .val (.ref b125), .val (.ref T129.heap.size), .val (.ref b131), .val (.int (3 : Int32)), .val (.ref u), .unset] [(.ref b157), (.ref b156), (.ref b156)])) _
            refine XS.dup X167.here hx rfl (hb hby at_290) rfl rfl ?_
            show Steps p.tables e below (T167.setTop (mkF m 291 #[.val (.int p1), .val (.int p2), .val (.int p3), .val (.int p4), .val (.int p5), .val (.int hc), .val (.int r0), .val (.int r1), .val (.int tc), .val (.ref h0.size), .val (.ref b125), .val (.ref T129.heap.size), .val (.ref b131), .val (.int (3 : Int32)), .val (.ref u), .unset] [(.ref b157), (.ref b157), (.ref b156), (.ref b156)])) _
            refine XS.bipush X167.here hx rfl (hb hby at_291) ?_
            show Steps p.tables e below (T167.setTop (mkF m 293 #[.val (.int p1), .val (.int p2), .val (.int p3), .val (.int p4), .val (.int p5), .val (.int hc), .val (.int r0), .val (.int r1), .val (.int tc), .val (.ref h0.size), .val (.ref b125), .val (.ref T129.heap.size), .val (.ref b131), .val (.int (3 : Int32)), .val (.ref u), .unset] [(.int (10 : Int32)), (.ref b157), (.ref b157), (.ref b156), (.ref b156)])) _
            refine XS.iload X167.here hx rfl (hb hby at_293) rfl ?_
            exact kt
          obtain ⟨T168, h168, X168, e168, W168, st168⟩ := stC X167 hx hZ e167 Ax157_10 (j := (10 : Int32)) (own_hin (i := 10) Sx157_10 rfl (by omega) (by omega)) (g := (mkF m 295 #[.val (.int p1), .val (.int p2), .val (.int p3), .val (.int p4), .val (.int p5), .val (.int hc), .val (.int r0), .val (.int r1), .val (.int tc), .val (.ref h0.size), .val (.ref b125), .val (.ref T129.heap.size), .val (.ref b131), .val (.int (3 : Int32)), .val (.ref u), .unset] [(.int r1), (.int (10 : Int32)), (.ref b157), (.ref b157), (.ref b156), (.ref b156)])) rfl rfl (hb hby at_295)
          refine EndsW.of st168 ?_
          have N168 := Fr.snoc X168 N167 (Nat.le_trans Zt5 ga157)
          rw [c3.2] at W168
          have V157_11 := put157_10 _ _ _ 10 W168 (by decide) (by omega) c3.fits
          have Km157_11 := Km157_10.wr W168 (Or.inl (List.mem_of_getElem? (i := 0) rfl))
          obtain ⟨cx157_11, Ax157_11, Sx157_11, -, put157_11⟩ := V157_11.op
          refine EndsW.of (F' := T168.setTop (mkF m 301 #[.val (.int p1), .val (.int p2), .val (.int p3), .val (.int p4), .val (.int p5), .val (.int hc), .val (.int r0), .val (.int r1), .val (.int tc), .val (.ref h0.size), .val (.ref b125), .val (.ref T129.heap.size), .val (.ref b131), .val (.int (3 : Int32)), .val (.ref u), .unset] [(.int tc), (.int (11 : Int32)), (.ref b157), (.ref b157), (.ref b156), (.ref b156)])) (fun _ kt => ?_) ?_
          · show Steps p.tables e below (T168.setTop (mkF m 296 #[.val (.int p1), .val (.int p2), .val (.int p3), .val (.int p4), .val (.int p5), .val (.int hc), .val (.int r0), .val (.int r1), .val (.int tc), .val (.ref h0.size), .val (.ref b125), .val (.ref T129.heap.size), .val (.ref b131), .val (.int (3 : Int32)), .val (.ref u), .unset] [(.ref b157), (.ref b156), (.ref b156)])) _
            refine XS.dup X168.here hx rfl (hb hby at_296) rfl rfl ?_
            show Steps p.tables e below (T168.setTop (mkF m 297 #[.val (.int p1), .val (.int p2), .val (.int p3), .val (.int p4), .val (.int p5), .val (.int hc), .val (.int r0), .val (.int r1), .val (.int tc), .val (.ref h0.size), .val (.ref b125), .val (.ref T129.heap.size), .val (.ref b131), .val (.int (3 : Int32)), .val (.ref u), .unset] [(.ref b157), (.ref b157), (.ref b156), (.ref b156)])) _
            refine XS.bipush X168.here hx rfl (hb hby at_297) ?_
            show Steps p.tables e below (T168.setTop (mkF m 299 #[.val (.int p1), .val (.int p2), .val (.int p3), .val (.int p4), .val (.int p5), .val (.int hc), .val (.int r0), .val (.int r1), .val (.int tc), .val (.ref h0.size), .val (.ref b125), .val (.ref T129.heap.size), .val (.ref b131), .val (.int (3 : Int32)), .val (.ref u), .unset] [(.int (11 : Int32)), (.ref b157), (.ref b157), (.ref b156), (.ref b156)])) _
            refine XS.iload X168.here hx rfl (hb hby at_299) rfl ?_
            exact kt
          obtain ⟨T169, h169, X169, e169, W169, st169⟩ := stC X168 hx hZ e168 Ax157_11 (j := (11 : Int32)) (own_hin (i := 11) Sx157_11 rfl (by omega) (by omega)) (g := (mkF m 301 #[.val (.int p1), .val (.int p2), .val (.int p3), .val (.int p4), .val (.int p5), .val (.int hc), .val (.int r0), .val (.int r1), .val (.int tc), .val (.ref h0.size), .val (.ref b125), .val (.ref T129.heap.size), .val (.ref b131), .val (.int (3 : Int32)), .val (.ref u), .unset] [(.int tc), (.int (11 : Int32)), (.ref b157), (.ref b157), (.ref b156), (.ref b156)])) rfl rfl (hb hby at_301)
          refine EndsW.of st169 ?_
          have N169 := Fr.snoc X169 N168 (Nat.le_trans Zt5 ga157)
          rw [c4.2] at W169
          have V157_12 := put157_11 _ _ _ 11 W169 (by decide) (by omega) c4.fits
          have Km157_12 := Km157_11.wr W169 (Or.inl (List.mem_of_getElem? (i := 0) rfl))
          have Vc157 : Ary .char Z h169 b157 12 (tf [hc, r0, r1, (44 : Int32), (32 : Int32), r0, r1, (44 : Int32), (32 : Int32), r0, r1, tc]) := V157_12.congr (fun i hi => by
      rcases (by omega : i = 0 ∨ i = 1 ∨ i = 2 ∨ i = 3 ∨ i = 4 ∨ i = 5 ∨ i = 6 ∨ i = 7 ∨ i = 8 ∨ i = 9 ∨ i = 10 ∨ i = 11) with rfl | rfl | rfl | rfl | rfl | rfl | rfl | rfl | rfl | rfl | rfl | rfl <;> rfl)
          have Ka157 : Keep T155.heap h169 [] := ((Keep.refl T155.heap []).ext E156).trans Km157_12 (allS (Or.inr ga157) all0)
          have Kta157 : Keep h0 h169 [] := Kt5.trans Ka157 all0
          have Za157 : n0 ≤ h169.size := Nat.le_trans Z0 Kta157.1
          have ni157 : b156 ∉ [b157] := ninS ne157 nin0
          obtain ⟨_, _, ⟨T170, L170, k170, n170⟩, -, X170, ⟨Lc170, hQ170, l170, y170, z170⟩, st170⟩ := X169.specialBack hx (y := (⟨"java/lang/String", "<init>", "([C)V"⟩ : MethodName)) rfl hown (mvT hZ (hw _ (List.mem_of_getElem? (i := 28) rfl))) (mvT hZ (hw _ (List.mem_of_getElem? (i := 29) rfl))) (mvT hZ (hw _ (List.mem_of_getElem? (i := 30) rfl))) (by decide) (backOf (W := 1) (str_initC l Z a0 hw [] b156 b157 12 (tf [hc, r0, r1, (44 : Int32), (32 : Int32), r0, r1, (44 : Int32), (32 : Int32), r0, r1, tc]) cs h169 n0 Za157 S0 hcs (O.keep Kta157 all0) (A156.keep Km157_12) (F_value_b156.keep Km157_12 ni157) (F_coder_b156.keep Km157_12 ni157) Vc157 (fun i hi => by
      rcases (by omega : i = 0 ∨ i = 1 ∨ i = 2 ∨ i = 3 ∨ i = 4 ∨ i = 5 ∨ i = 6 ∨ i = 7 ∨ i = 8 ∨ i = 9 ∨ i = 10 ∨ i = 11) with rfl | rfl | rfl | rfl | rfl | rfl | rfl | rfl | rfl | rfl | rfl | rfl
      · exact c1.1
      · exact c2.1
      · exact c3.1
      · exact own_44.1
      · exact own_32.1
      · exact c2.1
      · exact c3.1
      · exact own_44.1
      · exact own_32.1
      · exact c2.1
      · exact c3.1
      · exact c4.1) (by omega) (by omega) (Nat.le_trans Zt5 gs157)) hZ (hw _ (List.mem_of_getElem? (i := 30) rfl)) (hw _ (List.mem_of_getElem? (i := 2) rfl)) (by decide) (by decide)) (g := (mkF m 302 #[.val (.int p1), .val (.int p2), .val (.int p3), .val (.int p4), .val (.int p5), .val (.int hc), .val (.int r0), .val (.int r1), .val (.int tc), .val (.ref h0.size), .val (.ref b125), .val (.ref T129.heap.size), .val (.ref b131), .val (.int (3 : Int32)), .val (.ref u), .unset] [(.ref b157), (.ref b156), (.ref b156)])) rfl (by rw [hml]; rfl) (Steps.refl _) (a := b156) (argsL := [(.ref b157)]) (rest := [(.ref b156)]) (lenOf pd_5 rfl) rfl (by show 2 * 0 + _ ≤ _; exact Nat.le_of_eq rfl) (hb hby at_302) (fun _ _ => ⟨rfl, e169, (by decide : 16 + 1 ≤ _), (by decide : 101 + 12 ≤ _)⟩)
          dsimp only [Pt.U, Pt.locs, Pt.cells, Pt.slots] at X170 l170 y170 z170 st170 hQ170
          subst l170 y170 z170
          obtain ⟨rfl, N170q, K170, bi170, St170, gi170⟩ := hQ170
          have N170 := Fr.app N169 N170q
          refine EndsW.st st170 ?_
          have S_e : Str Z T170.heap b156 bi170 12 (tf [hc.toInt8.toInt32, r0.toInt8.toInt32, r1.toInt8.toInt32, (44 : Int32), (32 : Int32), r0.toInt8.toInt32, r1.toInt8.toInt32, (44 : Int32), (32 : Int32), r0.toInt8.toInt32, r1.toInt8.toInt32, tc.toInt8.toInt32]) := St170.congr (fun i hi => by
      rcases (by omega : i = 0 ∨ i = 1 ∨ i = 2 ∨ i = 3 ∨ i = 4 ∨ i = 5 ∨ i = 6 ∨ i = 7 ∨ i = 8 ∨ i = 9 ∨ i = 10 ∨ i = 11) with rfl | rfl | rfl | rfl | rfl | rfl | rfl | rfl | rfl | rfl | rfl | rfl <;> first | rfl | (show (44 : Int32).toInt8.toInt32 = (44 : Int32); decide) | (show (32 : Int32).toInt8.toInt32 = (32 : Int32); decide))
          have Kb157 : Keep T155.heap T170.heap [] := Ka157.trans K170 (allS (Or.inr gs157) all0)
          have Kt6 : Keep h0 T170.heap [] := Kt5.trans Kb157 all0
          have Zt6 : n0 ≤ T170.heap.size := Nat.le_trans Z0 Kt6.1
          have Ot6 := O.keep Kt6 all0
          have S_s_6 := S_s.keep Kb157 nin0 nin0
          have neq : ¬ u = b156 := Nat.ne_of_lt (Nat.lt_of_lt_of_le S_s.1.lt (Nat.le_of_eq g156.symm))
          have hkz : T155.heap.size ≤ T170.heap.size := Nat.le_trans hkz0 Kb157.1
          refine EndsW.of (F' := T170.setTop (mkF m 311 #[.val (.int p1), .val (.int p2), .val (.int p3), .val (.int p4), .val (.int p5), .val (.int hc), .val (.int r0), .val (.int r1), .val (.int tc), .val (.ref h0.size), .val (.ref b125), .val (.ref T129.heap.size), .val (.ref b131), .val (.int (3 : Int32)), .val (.ref u), .val (.ref b156)] [(.ref b156), (.ref u)])) (fun _ kt => ?_) ?_
          · show Steps p.tables e below (T170.setTop (mkF m 305 #[.val (.int p1), .val (.int p2), .val (.int p3), .val (.int p4), .val (.int p5), .val (.int hc), .val (.int r0), .val (.int r1), .val (.int tc), .val (.ref h0.size), .val (.ref b125), .val (.ref T129.heap.size), .val (.ref b131), .val (.int (3 : Int32)), .val (.ref u), .unset] [(.ref b156)])) _
            refine XS.astore X170.here hx rfl (hb hby at_305) rfl rfl (l' := #[.val (.int p1), .val (.int p2), .val (.int p3), .val (.int p4), .val (.int p5), .val (.int hc), .val (.int r0), .val (.int r1), .val (.int tc), .val (.ref h0.size), .val (.ref b125), .val (.ref T129.heap.size), .val (.ref b131), .val (.int (3 : Int32)), .val (.ref u), .val (.ref b156)]) rfl ?_
            show Steps p.tables e below (T170.setTop (mkF m 307 #[.val (.int p1), .val (.int p2), .val (.int p3), .val (.int p4), .val (.int p5), .val (.int hc), .val (.int r0), .val (.int r1), .val (.int tc), .val (.ref h0.size), .val (.ref b125), .val (.ref T129.heap.size), .val (.ref b131), .val (.int (3 : Int32)), .val (.ref u), .val (.ref b156)] [])) _
            refine XS.aload X170.here hx rfl (hb hby at_307) rfl rfl ?_
            show Steps p.tables e below (T170.setTop (mkF m 309 #[.val (.int p1), .val (.int p2), .val (.int p3), .val (.int p4), .val (.int p5), .val (.int hc), .val (.int r0), .val (.int r1), .val (.int tc), .val (.ref h0.size), .val (.ref b125), .val (.ref T129.heap.size), .val (.ref b131), .val (.int (3 : Int32)), .val (.ref u), .val (.ref b156)] [(.ref u)])) _
            refine XS.aload X170.here hx rfl (hb hby at_309) rfl rfl ?_
            exact kt
          obtain ⟨cq171, kq171, q171a, q171b, q171c⟩ := isOf hZ rfl S_s_6.1
          obtain ⟨_, _, ⟨T171, L171, k171, n171⟩, -, X171, ⟨Lc171, hQ171, l171, y171, z171⟩, st171⟩ := X170.virtualBack hx (y := (⟨"java/lang/String", "equals", "(Ljava/lang/Object;)Z"⟩ : MethodName)) (z := (⟨"java/lang/String", "equals", "(Ljava/lang/Object;)Z"⟩ : MethodName)) hown (mvT hZ (hw _ (List.mem_of_getElem? (i := 185) rfl))) (mvT hZ (hw _ (List.mem_of_getElem? (i := 186) rfl))) (notFace_of_selects (args := #[]) (mvT hZ (hw _ (List.mem_of_getElem? (i := 188) rfl)))) (mvT hZ (hw _ (List.mem_of_getElem? (i := 188) rfl))) (mvT hZ (hw _ (List.mem_of_getElem? (i := 187) rfl))) (by decide) (backOf (W := 0) (str_equals l Z a0 hw [] u b156 d bi170 12 12 (tf [hc.toInt8.toInt32, r0.toInt8.toInt32, r1.toInt8.toInt32, (44 : Int32), (32 : Int32), r0.toInt8.toInt32, r1.toInt8.toInt32, (44 : Int32), (32 : Int32), r0.toInt8.toInt32, r1.toInt8.toInt32, tc.toInt8.toInt32]) (tf [hc.toInt8.toInt32, r0.toInt8.toInt32, r1.toInt8.toInt32, (44 : Int32), (32 : Int32), r0.toInt8.toInt32, r1.toInt8.toInt32, (44 : Int32), (32 : Int32), r0.toInt8.toInt32, r1.toInt8.toInt32, tc.toInt8.toInt32]) cs T170.heap n0 Zt6 S0 hcs Ot6 S_s_6 S_e neq) hZ (hw _ (List.mem_of_getElem? (i := 189) rfl)) (hw _ (List.mem_of_getElem? (i := 2) rfl)) (by decide) (by decide)) q171a q171c (g := (mkF m 311 #[.val (.int p1), .val (.int p2), .val (.int p3), .val (.int p4), .val (.int p5), .val (.int hc), .val (.int r0), .val (.int r1), .val (.int tc), .val (.ref h0.size), .val (.ref b125), .val (.ref T129.heap.size), .val (.ref b131), .val (.int (3 : Int32)), .val (.ref u), .val (.ref b156)] [(.ref b156), (.ref u)])) rfl (by rw [hml]; rfl) (Steps.refl _) (argsL := [(.ref b156)]) (rest := []) (lenOf pd_29 rfl) rfl (by show 2 * 0 + _ ≤ _; exact Nat.le_of_eq rfl) (hb hby at_311) (fun _ _ => ⟨rfl, rfl, (by decide : 17 + 0 ≤ _), (by decide : 113 + 0 ≤ _)⟩)
          dsimp only [Pt.U, Pt.locs, Pt.cells, Pt.slots] at X171 l171 y171 z171 st171 hQ171
          subst l171 y171 z171
          obtain ⟨rfl, N171q, e171⟩ := hQ171
          have N171 := Fr.app N170 N171q
          refine EndsW.st st171 ?_
          rw [if_pos ⟨rfl, fun _ _ => rfl⟩]
          obtain ⟨fs, hr, hrun, hended, hEW⟩ := Stand.leaveW (s := s) (vm₁ := T155.vm) X171 hS155 (by rw [e171]; exact hkz) (v := some (.int (1 : Int32))) (fun h => by rw [Bd.returns] at h; cases h)
          exact ⟨_, _, retN X171 hx (t := .boolean) Bd.returns (by simp) (hb hby at_314) hr, hrun, hended, _, _, rfl, ⟨rfl, N171⟩, hEW.1, hEW.2.1, hEW.2.2.1, hEW.2.2.2.mono (by decide) (by decide)⟩
    by_cases h5 : (p5 &&& (1 : Int32)) = (0 : Int32)
    · refine EndsW.of (F' := T131.setTop (mkF m 93 #[.val (.int p1), .val (.int p2), .val (.int p3), .val (.int p4), .val (.int p5), .val (.int hc), .val (.int r0), .val (.int r1), .val (.int tc), .val (.ref h0.size), .val (.ref b125), .val (.ref T129.heap.size), .unset, .unset, .unset, .unset] [(.int (0 : Int32)), (.ref T129.heap.size), (.ref b125), (.ref h0.size), (.ref b131), (.ref b131)])) (fun _ kt => ?_) ?_
      · show Steps p.tables e below (T131.setTop (mkF m 85 #[.val (.int p1), .val (.int p2), .val (.int p3), .val (.int p4), .val (.int p5), .val (.int hc), .val (.int r0), .val (.int r1), .val (.int tc), .val (.ref h0.size), .val (.ref b125), .val (.ref T129.heap.size), .unset, .unset, .unset, .unset] [(.int (p5 &&& (1 : Int32))), (.ref T129.heap.size), (.ref b125), (.ref h0.size), (.ref b131), (.ref b131)])) _
        refine XS.ifYes X131.here hx rfl (pc0 := 85) (pc' := 92) rfl (hb hby at_85) rfl ((if0 _ _).trans (teq h5).1) (by decide) (by decide) ?_
        show Steps p.tables e below (T131.setTop (mkF m 92 #[.val (.int p1), .val (.int p2), .val (.int p3), .val (.int p4), .val (.int p5), .val (.int hc), .val (.int r0), .val (.int r1), .val (.int tc), .val (.ref h0.size), .val (.ref b125), .val (.ref T129.heap.size), .unset, .unset, .unset, .unset] [(.ref T129.heap.size), (.ref b125), (.ref h0.size), (.ref b131), (.ref b131)])) _
        refine XS.iconst X131.here hx rfl (hb hby at_92) ?_
        exact kt
      exact rest _
    · refine EndsW.of (F' := T131.setTop (mkF m 93 #[.val (.int p1), .val (.int p2), .val (.int p3), .val (.int p4), .val (.int p5), .val (.int hc), .val (.int r0), .val (.int r1), .val (.int tc), .val (.ref h0.size), .val (.ref b125), .val (.ref T129.heap.size), .unset, .unset, .unset, .unset] [(.int (1 : Int32)), (.ref T129.heap.size), (.ref b125), (.ref h0.size), (.ref b131), (.ref b131)])) (fun _ kt => ?_) ?_
      · show Steps p.tables e below (T131.setTop (mkF m 85 #[.val (.int p1), .val (.int p2), .val (.int p3), .val (.int p4), .val (.int p5), .val (.int hc), .val (.int r0), .val (.int r1), .val (.int tc), .val (.ref h0.size), .val (.ref b125), .val (.ref T129.heap.size), .unset, .unset, .unset, .unset] [(.int (p5 &&& (1 : Int32))), (.ref T129.heap.size), (.ref b125), (.ref h0.size), (.ref b131), (.ref b131)])) _
        refine XS.ifNo X131.here hx rfl (hb hby at_85) rfl ((if0 _ _).trans (feq h5).1) ?_
        show Steps p.tables e below (T131.setTop (mkF m 88 #[.val (.int p1), .val (.int p2), .val (.int p3), .val (.int p4), .val (.int p5), .val (.int hc), .val (.int r0), .val (.int r1), .val (.int tc), .val (.ref h0.size), .val (.ref b125), .val (.ref T129.heap.size), .unset, .unset, .unset, .unset] [(.ref T129.heap.size), (.ref b125), (.ref h0.size), (.ref b131), (.ref b131)])) _
        refine XS.iconst X131.here hx rfl (hb hby at_88) ?_
        show Steps p.tables e below (T131.setTop (mkF m 89 #[.val (.int p1), .val (.int p2), .val (.int p3), .val (.int p4), .val (.int p5), .val (.int hc), .val (.int r0), .val (.int r1), .val (.int tc), .val (.ref h0.size), .val (.ref b125), .val (.ref T129.heap.size), .unset, .unset, .unset, .unset] [(.int (1 : Int32)), (.ref T129.heap.size), (.ref b125), (.ref h0.size), (.ref b131), (.ref b131)])) _
        refine XS.goto X131.here hx rfl (pc0 := 89) (pc' := 93) rfl (hb hby at_89) (by decide) (by decide) ?_
        exact kt
      exact rest _
  refine EndsW.of (F' := s₁.setTop (mkF m 35 #[.val (.int p1), .val (.int p2), .val (.int p3), .val (.int p4), .val (.int p5), .val (.int ((p1 &&& (255 : Int32)).toUInt32.toUInt16.toUInt32.toInt32)), .val (.int ((p2 &&& (255 : Int32)).toUInt32.toUInt16.toUInt32.toInt32)), .val (.int ((((p2.toUInt32 >>> ((8 : Int32) &&& 31).toUInt32).toInt32) &&& (255 : Int32)).toUInt32.toUInt16.toUInt32.toInt32)), .val (.int ((p3 &&& (255 : Int32)).toUInt32.toUInt16.toUInt32.toInt32)), .unset, .unset, .unset, .unset, .unset, .unset, .unset] [])) (fun _ kt => ?_) ?_
  · show Steps p.tables e below (s₁.setTop (mkF m 0 #[.val (.int p1), .val (.int p2), .val (.int p3), .val (.int p4), .val (.int p5), .unset, .unset, .unset, .unset, .unset, .unset, .unset, .unset, .unset, .unset, .unset] [])) _
    refine XS.iloadN X0.here hx rfl (hb hby at_0) rfl ?_
    show Steps p.tables e below (s₁.setTop (mkF m 1 #[.val (.int p1), .val (.int p2), .val (.int p3), .val (.int p4), .val (.int p5), .unset, .unset, .unset, .unset, .unset, .unset, .unset, .unset, .unset, .unset, .unset] [(.int p1)])) _
    refine XS.sipush X0.here hx rfl (hb hby at_1) ?_
    show Steps p.tables e below (s₁.setTop (mkF m 4 #[.val (.int p1), .val (.int p2), .val (.int p3), .val (.int p4), .val (.int p5), .unset, .unset, .unset, .unset, .unset, .unset, .unset, .unset, .unset, .unset, .unset] [(.int (255 : Int32)), (.int p1)])) _
    refine XS.iand X0.here hx rfl (hb hby at_4) rfl ?_
    show Steps p.tables e below (s₁.setTop (mkF m 5 #[.val (.int p1), .val (.int p2), .val (.int p3), .val (.int p4), .val (.int p5), .unset, .unset, .unset, .unset, .unset, .unset, .unset, .unset, .unset, .unset, .unset] [(.int (p1 &&& (255 : Int32)))])) _
    refine XS.i2c X0.here hx rfl (hb hby at_5) rfl ?_
    show Steps p.tables e below (s₁.setTop (mkF m 6 #[.val (.int p1), .val (.int p2), .val (.int p3), .val (.int p4), .val (.int p5), .unset, .unset, .unset, .unset, .unset, .unset, .unset, .unset, .unset, .unset, .unset] [(.int ((p1 &&& (255 : Int32)).toUInt32.toUInt16.toUInt32.toInt32))])) _
    refine XS.istore X0.here hx rfl (hb hby at_6) rfl (l' := #[.val (.int p1), .val (.int p2), .val (.int p3), .val (.int p4), .val (.int p5), .val (.int ((p1 &&& (255 : Int32)).toUInt32.toUInt16.toUInt32.toInt32)), .unset, .unset, .unset, .unset, .unset, .unset, .unset, .unset, .unset, .unset]) rfl ?_
    show Steps p.tables e below (s₁.setTop (mkF m 8 #[.val (.int p1), .val (.int p2), .val (.int p3), .val (.int p4), .val (.int p5), .val (.int ((p1 &&& (255 : Int32)).toUInt32.toUInt16.toUInt32.toInt32)), .unset, .unset, .unset, .unset, .unset, .unset, .unset, .unset, .unset, .unset] [])) _
    refine XS.iloadN X0.here hx rfl (hb hby at_8) rfl ?_
    show Steps p.tables e below (s₁.setTop (mkF m 9 #[.val (.int p1), .val (.int p2), .val (.int p3), .val (.int p4), .val (.int p5), .val (.int ((p1 &&& (255 : Int32)).toUInt32.toUInt16.toUInt32.toInt32)), .unset, .unset, .unset, .unset, .unset, .unset, .unset, .unset, .unset, .unset] [(.int p2)])) _
    refine XS.sipush X0.here hx rfl (hb hby at_9) ?_
    show Steps p.tables e below (s₁.setTop (mkF m 12 #[.val (.int p1), .val (.int p2), .val (.int p3), .val (.int p4), .val (.int p5), .val (.int ((p1 &&& (255 : Int32)).toUInt32.toUInt16.toUInt32.toInt32)), .unset, .unset, .unset, .unset, .unset, .unset, .unset, .unset, .unset, .unset] [(.int (255 : Int32)), (.int p2)])) _
    refine XS.iand X0.here hx rfl (hb hby at_12) rfl ?_
    show Steps p.tables e below (s₁.setTop (mkF m 13 #[.val (.int p1), .val (.int p2), .val (.int p3), .val (.int p4), .val (.int p5), .val (.int ((p1 &&& (255 : Int32)).toUInt32.toUInt16.toUInt32.toInt32)), .unset, .unset, .unset, .unset, .unset, .unset, .unset, .unset, .unset, .unset] [(.int (p2 &&& (255 : Int32)))])) _
    refine XS.i2c X0.here hx rfl (hb hby at_13) rfl ?_
    show Steps p.tables e below (s₁.setTop (mkF m 14 #[.val (.int p1), .val (.int p2), .val (.int p3), .val (.int p4), .val (.int p5), .val (.int ((p1 &&& (255 : Int32)).toUInt32.toUInt16.toUInt32.toInt32)), .unset, .unset, .unset, .unset, .unset, .unset, .unset, .unset, .unset, .unset] [(.int ((p2 &&& (255 : Int32)).toUInt32.toUInt16.toUInt32.toInt32))])) _
    refine XS.istore X0.here hx rfl (hb hby at_14) rfl (l' := #[.val (.int p1), .val (.int p2), .val (.int p3), .val (.int p4), .val (.int p5), .val (.int ((p1 &&& (255 : Int32)).toUInt32.toUInt16.toUInt32.toInt32)), .val (.int ((p2 &&& (255 : Int32)).toUInt32.toUInt16.toUInt32.toInt32)), .unset, .unset, .unset, .unset, .unset, .unset, .unset, .unset, .unset]) rfl ?_
    show Steps p.tables e below (s₁.setTop (mkF m 16 #[.val (.int p1), .val (.int p2), .val (.int p3), .val (.int p4), .val (.int p5), .val (.int ((p1 &&& (255 : Int32)).toUInt32.toUInt16.toUInt32.toInt32)), .val (.int ((p2 &&& (255 : Int32)).toUInt32.toUInt16.toUInt32.toInt32)), .unset, .unset, .unset, .unset, .unset, .unset, .unset, .unset, .unset] [])) _
    refine XS.iloadN X0.here hx rfl (hb hby at_16) rfl ?_
    show Steps p.tables e below (s₁.setTop (mkF m 17 #[.val (.int p1), .val (.int p2), .val (.int p3), .val (.int p4), .val (.int p5), .val (.int ((p1 &&& (255 : Int32)).toUInt32.toUInt16.toUInt32.toInt32)), .val (.int ((p2 &&& (255 : Int32)).toUInt32.toUInt16.toUInt32.toInt32)), .unset, .unset, .unset, .unset, .unset, .unset, .unset, .unset, .unset] [(.int p2)])) _
    refine XS.bipush X0.here hx rfl (hb hby at_17) ?_
    show Steps p.tables e below (s₁.setTop (mkF m 19 #[.val (.int p1), .val (.int p2), .val (.int p3), .val (.int p4), .val (.int p5), .val (.int ((p1 &&& (255 : Int32)).toUInt32.toUInt16.toUInt32.toInt32)), .val (.int ((p2 &&& (255 : Int32)).toUInt32.toUInt16.toUInt32.toInt32)), .unset, .unset, .unset, .unset, .unset, .unset, .unset, .unset, .unset] [(.int (8 : Int32)), (.int p2)])) _
    refine XS.iushr X0.here hx rfl (hb hby at_19) rfl ?_
    show Steps p.tables e below (s₁.setTop (mkF m 20 #[.val (.int p1), .val (.int p2), .val (.int p3), .val (.int p4), .val (.int p5), .val (.int ((p1 &&& (255 : Int32)).toUInt32.toUInt16.toUInt32.toInt32)), .val (.int ((p2 &&& (255 : Int32)).toUInt32.toUInt16.toUInt32.toInt32)), .unset, .unset, .unset, .unset, .unset, .unset, .unset, .unset, .unset] [(.int ((p2.toUInt32 >>> ((8 : Int32) &&& 31).toUInt32).toInt32))])) _
    refine XS.sipush X0.here hx rfl (hb hby at_20) ?_
    show Steps p.tables e below (s₁.setTop (mkF m 23 #[.val (.int p1), .val (.int p2), .val (.int p3), .val (.int p4), .val (.int p5), .val (.int ((p1 &&& (255 : Int32)).toUInt32.toUInt16.toUInt32.toInt32)), .val (.int ((p2 &&& (255 : Int32)).toUInt32.toUInt16.toUInt32.toInt32)), .unset, .unset, .unset, .unset, .unset, .unset, .unset, .unset, .unset] [(.int (255 : Int32)), (.int ((p2.toUInt32 >>> ((8 : Int32) &&& 31).toUInt32).toInt32))])) _
    refine XS.iand X0.here hx rfl (hb hby at_23) rfl ?_
    show Steps p.tables e below (s₁.setTop (mkF m 24 #[.val (.int p1), .val (.int p2), .val (.int p3), .val (.int p4), .val (.int p5), .val (.int ((p1 &&& (255 : Int32)).toUInt32.toUInt16.toUInt32.toInt32)), .val (.int ((p2 &&& (255 : Int32)).toUInt32.toUInt16.toUInt32.toInt32)), .unset, .unset, .unset, .unset, .unset, .unset, .unset, .unset, .unset] [(.int (((p2.toUInt32 >>> ((8 : Int32) &&& 31).toUInt32).toInt32) &&& (255 : Int32)))])) _
    refine XS.i2c X0.here hx rfl (hb hby at_24) rfl ?_
    show Steps p.tables e below (s₁.setTop (mkF m 25 #[.val (.int p1), .val (.int p2), .val (.int p3), .val (.int p4), .val (.int p5), .val (.int ((p1 &&& (255 : Int32)).toUInt32.toUInt16.toUInt32.toInt32)), .val (.int ((p2 &&& (255 : Int32)).toUInt32.toUInt16.toUInt32.toInt32)), .unset, .unset, .unset, .unset, .unset, .unset, .unset, .unset, .unset] [(.int ((((p2.toUInt32 >>> ((8 : Int32) &&& 31).toUInt32).toInt32) &&& (255 : Int32)).toUInt32.toUInt16.toUInt32.toInt32))])) _
    refine XS.istore X0.here hx rfl (hb hby at_25) rfl (l' := #[.val (.int p1), .val (.int p2), .val (.int p3), .val (.int p4), .val (.int p5), .val (.int ((p1 &&& (255 : Int32)).toUInt32.toUInt16.toUInt32.toInt32)), .val (.int ((p2 &&& (255 : Int32)).toUInt32.toUInt16.toUInt32.toInt32)), .val (.int ((((p2.toUInt32 >>> ((8 : Int32) &&& 31).toUInt32).toInt32) &&& (255 : Int32)).toUInt32.toUInt16.toUInt32.toInt32)), .unset, .unset, .unset, .unset, .unset, .unset, .unset, .unset]) rfl ?_
    show Steps p.tables e below (s₁.setTop (mkF m 27 #[.val (.int p1), .val (.int p2), .val (.int p3), .val (.int p4), .val (.int p5), .val (.int ((p1 &&& (255 : Int32)).toUInt32.toUInt16.toUInt32.toInt32)), .val (.int ((p2 &&& (255 : Int32)).toUInt32.toUInt16.toUInt32.toInt32)), .val (.int ((((p2.toUInt32 >>> ((8 : Int32) &&& 31).toUInt32).toInt32) &&& (255 : Int32)).toUInt32.toUInt16.toUInt32.toInt32)), .unset, .unset, .unset, .unset, .unset, .unset, .unset, .unset] [])) _
    refine XS.iloadN X0.here hx rfl (hb hby at_27) rfl ?_
    show Steps p.tables e below (s₁.setTop (mkF m 28 #[.val (.int p1), .val (.int p2), .val (.int p3), .val (.int p4), .val (.int p5), .val (.int ((p1 &&& (255 : Int32)).toUInt32.toUInt16.toUInt32.toInt32)), .val (.int ((p2 &&& (255 : Int32)).toUInt32.toUInt16.toUInt32.toInt32)), .val (.int ((((p2.toUInt32 >>> ((8 : Int32) &&& 31).toUInt32).toInt32) &&& (255 : Int32)).toUInt32.toUInt16.toUInt32.toInt32)), .unset, .unset, .unset, .unset, .unset, .unset, .unset, .unset] [(.int p3)])) _
    refine XS.sipush X0.here hx rfl (hb hby at_28) ?_
    show Steps p.tables e below (s₁.setTop (mkF m 31 #[.val (.int p1), .val (.int p2), .val (.int p3), .val (.int p4), .val (.int p5), .val (.int ((p1 &&& (255 : Int32)).toUInt32.toUInt16.toUInt32.toInt32)), .val (.int ((p2 &&& (255 : Int32)).toUInt32.toUInt16.toUInt32.toInt32)), .val (.int ((((p2.toUInt32 >>> ((8 : Int32) &&& 31).toUInt32).toInt32) &&& (255 : Int32)).toUInt32.toUInt16.toUInt32.toInt32)), .unset, .unset, .unset, .unset, .unset, .unset, .unset, .unset] [(.int (255 : Int32)), (.int p3)])) _
    refine XS.iand X0.here hx rfl (hb hby at_31) rfl ?_
    show Steps p.tables e below (s₁.setTop (mkF m 32 #[.val (.int p1), .val (.int p2), .val (.int p3), .val (.int p4), .val (.int p5), .val (.int ((p1 &&& (255 : Int32)).toUInt32.toUInt16.toUInt32.toInt32)), .val (.int ((p2 &&& (255 : Int32)).toUInt32.toUInt16.toUInt32.toInt32)), .val (.int ((((p2.toUInt32 >>> ((8 : Int32) &&& 31).toUInt32).toInt32) &&& (255 : Int32)).toUInt32.toUInt16.toUInt32.toInt32)), .unset, .unset, .unset, .unset, .unset, .unset, .unset, .unset] [(.int (p3 &&& (255 : Int32)))])) _
    refine XS.i2c X0.here hx rfl (hb hby at_32) rfl ?_
    show Steps p.tables e below (s₁.setTop (mkF m 33 #[.val (.int p1), .val (.int p2), .val (.int p3), .val (.int p4), .val (.int p5), .val (.int ((p1 &&& (255 : Int32)).toUInt32.toUInt16.toUInt32.toInt32)), .val (.int ((p2 &&& (255 : Int32)).toUInt32.toUInt16.toUInt32.toInt32)), .val (.int ((((p2.toUInt32 >>> ((8 : Int32) &&& 31).toUInt32).toInt32) &&& (255 : Int32)).toUInt32.toUInt16.toUInt32.toInt32)), .unset, .unset, .unset, .unset, .unset, .unset, .unset, .unset] [(.int ((p3 &&& (255 : Int32)).toUInt32.toUInt16.toUInt32.toInt32))])) _
    refine XS.istore X0.here hx rfl (hb hby at_33) rfl (l' := #[.val (.int p1), .val (.int p2), .val (.int p3), .val (.int p4), .val (.int p5), .val (.int ((p1 &&& (255 : Int32)).toUInt32.toUInt16.toUInt32.toInt32)), .val (.int ((p2 &&& (255 : Int32)).toUInt32.toUInt16.toUInt32.toInt32)), .val (.int ((((p2.toUInt32 >>> ((8 : Int32) &&& 31).toUInt32).toInt32) &&& (255 : Int32)).toUInt32.toUInt16.toUInt32.toInt32)), .val (.int ((p3 &&& (255 : Int32)).toUInt32.toUInt16.toUInt32.toInt32)), .unset, .unset, .unset, .unset, .unset, .unset, .unset]) rfl ?_
    exact kt
  exact mid _ _ _ _ (own_lch _) (own_lch _) (own_lch _) (own_lch _)
set_option maxRecDepth 65536 in
set_option maxHeartbeats 40000000 in
theorem comes_1 {Post : Tables → Env → Array Value → State → Outcome → State → Prop} (hpost : ∀ tb e args s v u, (limb_1_1.after args s (.returned v) u = true ∧ limb_1_2.after args s (.returned v) u = true ∧ True) → FramedW s (.returned v) u (Jvm.fieldLocs frame_1_writes args s ++ Jvm.arrayLocs frame_1_arrays args s ++ Jvm.staticLocs frame_1_statics s) 40 1280 → Post tb e args s (.returned v) u) :
    ArmFor flags0 classFile x code maxLocals ret World_1 tables_1 room_1 Calls_1 rest_1 Pre_1 Post := by
  intro l hfl _ _ p e ha hc hk s m args below hf hA hF happ hP
  obtain ⟨hcalls, hrest, hpre⟩ := hP
  obtain ⟨-, -, -, hnamed, -, -, -, hat⟩ := (Spec.applies_iff hf).mp happ
  obtain ⟨hg, hn⟩ := and_e (Cond.before_iff.mp (show (Jvm.Cond.and given_1 narrow_1).before args s = true from hpre))
  obtain ⟨g0, gt0⟩ := and_e hg
  obtain ⟨gv0, gt1⟩ := and_e gt0
  obtain ⟨gv1, gt2⟩ := and_e gt1
  obtain ⟨gv2, gt3⟩ := and_e gt2
  obtain ⟨gv3, gt4⟩ := and_e gt3
  obtain ⟨w0, w1, w2, w3, w4, rfl⟩ : ∃ w0 w1 w2 w3 w4 : Value, args = #[w0, w1, w2, w3, w4] := by
    have hs : args.size = 5 := by simpa [Cond.value, given_1] using g0
    obtain ⟨L⟩ := args
    match L, hs with
    | [w0, w1, w2, w3, w4], _ => exact ⟨w0, w1, w2, w3, w4, rfl⟩
  have hw := fun d (hd : d ∈ tables_1) => atoms_spec (ws := Jvm.Cond.code x code maxLocals ret :: tables_1) hat d (List.mem_cons_of_mem _ hd)
  have hfit : Fit s := fun {y c} hc i hi => by
    obtain ⟨ha, rfl⟩ := Array.getElem?_eq_some_iff.mp hc
    have q := List.all_eq_true.mp ((Array.all_eq_true_iff_forall_mem.mp hF) _ (Array.getElem_mem ha)) i (List.mem_range.mpr hi)
    simpa [Array.getElem?_eq_getElem hi] using q
  obtain ⟨i0, ei0⟩ := is_v gv0
  obtain rfl : w0 = (.int i0) := Option.some.inj ei0
  obtain ⟨i1, ei1⟩ := is_v gv1
  obtain rfl : w1 = (.int i1) := Option.some.inj ei1
  obtain ⟨i2, ei2⟩ := is_v gv2
  obtain rfl : w2 = (.int i2) := Option.some.inj ei2
  obtain ⟨i3, ei3⟩ := is_v gv3
  obtain rfl : w3 = (.int i3) := Option.some.inj ei3
  obtain ⟨i4, ei4⟩ := is_v gt4
  obtain rfl : w4 = (.int i4) := Option.some.inj ei4
  obtain ⟨hsets, hown0⟩ := atoms_of _ (rest_1_c_eq ▸ (show rest_1_c.before _ s = true from hrest))
  have n5 := not_v (Cond.before_iff.mp (hsets _ (List.mem_of_getElem? (i := 2) rfl)))
  obtain ⟨cs, ecs⟩ := is_v (Cond.before_iff.mp (hsets _ (List.mem_of_getElem? (i := 1) rfl)))
  have S0 : Sta s s.heap "java/lang/String" "COMPACT_STRINGS" "Z" (.int cs) := Sta.start ecs (Or.inl (hsets _ (List.mem_of_getElem? (i := 0) rfl)))
  have hcs : ¬ (cs = (0 : Int32)) := gotF (Cond.eq_ints ecs (Term.int_eval (0))) n5
  have hcw : Jvm.Lit.compactW.before _ s = true := hsets _ (List.mem_of_getElem? (i := 2) rfl)
  have hh0 : ∀ q ∈ consts_1, Jvm.Lit.constHeld s q.1 q.2 := hcalls.1
  obtain ⟨n, o, h1, h2, h3, _, L, rfl, ⟨rfl, N⟩, hq⟩ := rm0 l s _ hw tables_1 i0 i1 i2 i3 i4 cs s.heap s.heap.size (Nat.le_refl _) S0 hcs ⟨Nat.le_refl _, Nat.le_refl _, fun _ _ q => q⟩ hh0 hcw p e ha hc hk s m _ below hf ((Spec.applies_iff_loose hf).mp happ).1 ⟨rfl, State.Warmed39.refl s, rfl, rfl⟩ trivial
  refine ⟨n, _, h1, h2, h3, hpost _ _ _ _ _ _ ⟨Cond.after_iff.mpr rfl, Cond.after_iff.mpr (eq_i res_at (Term.int_eval (1)) rfl), trivial⟩ ⟨hq.1, hq.2.1, hq.2.2.1, (hq.2.2.2.sift fun y hy => Or.inr (N y hy)).mono (by decide) (by decide)⟩⟩
theorem main_1_1 : Claimed_1_1 := comes_1 fun _ _ _ _ _ _ h hF => ⟨h.1, hF⟩
theorem main_1_2 : Claimed_1_2 := comes_1 fun _ _ _ _ _ _ h hF => ⟨h.2.1, hF⟩
end Jvm.Pilot.@@N@@
namespace Jvm.Pilot.@@N@@
open Jvm Jvm.ClassFile Sem Op Lib Jvm.Free Jvm.Stand Jvm.Pilot.@@N@@.Jvm.D
/-! MADE BY PROGRAM (witnessworld.py) out of the Statement's table words and the real class files: 27 classes; the members and pool entries that the words name. The judged class is class 1, her method 1. -/
namespace start1
open Jvm.ClassFile
def u (s : String) : CpInfo := .utf8 (stringToUtf16 s)
/-- a pool by its gaps: so many unusable entries, then the entry; so many at the end -/
def gap : Nat → List CpInfo → List CpInfo
  | 0, r => r
  | n + 1, r => .unusable :: gap n r
def poolList (es : List (Nat × CpInfo)) (last : Nat) : List CpInfo := es.foldr (fun e r => gap e.1 (e.2 :: r)) (gap last [])
def pool (es : List (Nat × CpInfo)) (last : Nat) : Array CpInfo := ⟨poolList es last⟩
def fileOf (pool : Array CpInfo) (this : Nat) (attrs : Array Attribute := #[]) (ms : Array MethodInfo := #[]) (fl : Nat := 33) (sup : Nat := 0) (ifs : Array Nat := #[]) (fds : Array FieldInfo := #[]) : ClassFile where
  minorVersion := 0
  majorVersion := 65
  constantPool := pool
  accessFlags := fl
  thisClass := this
  superClass := sup
  interfaces := ifs
  fields := fds
  methods := ms
  attributes := attrs
def plain (name : String) (sup : Option ClassId) : Class where
  name := name
  kind := .ordinary
  loader := none
  accessFlags := 33
  super := sup
  interfaces := #[]
  cf := none
  fields := #[]
  methods := #[]
  instanceTypes := #[]
  staticTypes := #[]
  resolved := #[]
  callSites := []
  init := .initialized
  statics := none
  mirror := none

def pool0 : Array CpInfo := pool [(5, u "<init>"), (0, u "()V"), (1, .class_ 10), (1, u "java/lang/Object")] 113

def k0c0 : Code := { maxStack := 0, maxLocals := 1, code := object_method_1_code, exceptionTable := #[], attributes := #[] }
def k0m0 : Method := { name := "<init>", desc := "()V", sig := { parameters := [], returnType := none }, accessFlags := 1, code := some k0c0 }
/-- java/lang/Object -/
def k0 : Class := { plain "java/lang/Object" none with
  accessFlags := 33
  interfaces := #[]
  cf := some (fileOf pool0 8 #[] #[{ accessFlags := 1, nameIndex := 5, descriptorIndex := 6, attributes := #[] }] 33 0 #[] #[])
  fields := #[]
  methods := #[k0m0]
  instanceTypes := #[]
  staticTypes := #[]
  resolved := Array.replicate 124 none
  statics := none }

def pool1 : Array CpInfo := pool [(2, .class_ 4), (1, u "java/lang/Object"), (0, u "<init>"), (0, u "()V"), (0, .methodref 8 9), (0, .class_ 10), (0, .nameAndType 11 12), (0, u "java/lang/String"), (0, u "valueOf"), (0, u "(C)Ljava/lang/String;"), (0, .methodref 8 14), (0, .nameAndType 5 15), (0, u "([C)V"), (0, .class_ 17), (0, u "com/example/coordinant/coordinant/Log$Rows"), (0, .methodref 16 19), (0, .nameAndType 5 20), (0, u "(Ljava/lang/String;Ljava/lang/String;Ljava/lang/String;Z)V"), (0, .methodref 16 22), (0, .nameAndType 23 24), (0, u "statement"), (0, u "(I)Ljava/lang/String;"), (0, .methodref 8 26), (0, .nameAndType 27 28), (0, u "equals"), (0, u "(Ljava/lang/Object;)Z"), (0, .class_ 30), (0, u "com/example/coordinant/coordinant/RowsStatementPinLaw"), (2, u "law"), (0, u "(IIIII)Z")] 7

def k1m0 : Method := { name := "<init>", desc := "()V", sig := { parameters := [], returnType := none }, accessFlags := 2, code := none }
def k1c1 : Code := { maxStack := 7, maxLocals := 16, code := code, exceptionTable := #[], attributes := #[] }
def k1m1 : Method := { name := "law", desc := "(IIIII)Z", sig := { parameters := [.int, .int, .int, .int, .int], returnType := some .boolean }, accessFlags := 9, code := some k1c1 }
/-- com/example/coordinant/coordinant/RowsStatementPinLaw -/
def k1 : Class := { plain "com/example/coordinant/coordinant/RowsStatementPinLaw" (some 0) with
  accessFlags := 49
  interfaces := #[]
  cf := some (fileOf pool1 29 #[] #[{ accessFlags := 2, nameIndex := 5, descriptorIndex := 6, attributes := #[] }, { accessFlags := 9, nameIndex := 33, descriptorIndex := 34, attributes := #[] }] 49 2 #[] #[])
  fields := #[]
  methods := #[k1m0, k1m1]
  instanceTypes := #[]
  staticTypes := #[]
  resolved := Array.replicate 42 none
  statics := none }

def pool2 : Array CpInfo := pool [(1, .class_ 2), (0, u "java/io/Serializable"), (0, .class_ 4), (0, u "java/lang/Object")] 2

/-- java/io/Serializable -/
def k2 : Class := { plain "java/io/Serializable" (some 0) with
  accessFlags := 1537
  interfaces := #[]
  cf := some (fileOf pool2 1 #[] #[] 1537 3 #[] #[])
  fields := #[]
  methods := #[]
  instanceTypes := #[]
  staticTypes := #[]
  resolved := Array.replicate 7 none
  statics := none }

def pool3 : Array CpInfo := pool [(1, .class_ 2), (0, u "java/lang/Comparable"), (0, .class_ 4), (0, u "java/lang/Object")] 7

/-- java/lang/Comparable -/
def k3 : Class := { plain "java/lang/Comparable" (some 0) with
  accessFlags := 1537
  interfaces := #[]
  cf := some (fileOf pool3 1 #[] #[] 1537 3 #[] #[])
  fields := #[]
  methods := #[]
  instanceTypes := #[]
  staticTypes := #[]
  resolved := Array.replicate 12 none
  statics := none }

def pool4 : Array CpInfo := pool [(2, .class_ 4), (1, u "java/lang/CharSequence"), (42, .class_ 48), (0, u "java/lang/CharSequence$1CodePointIterator"), (10, .class_ 60), (0, u "java/lang/CharSequence$1CharIterator"), (5, .class_ 67), (0, u "java/lang/Object")] 63

/-- java/lang/CharSequence -/
def k4 : Class := { plain "java/lang/CharSequence" (some 0) with
  accessFlags := 1537
  interfaces := #[]
  cf := some (fileOf pool4 2 #[.nestMembers #[47, 59]] #[] 1537 66 #[] #[])
  fields := #[]
  methods := #[]
  instanceTypes := #[]
  staticTypes := #[]
  resolved := Array.replicate 131 none
  statics := none }

def pool5 : Array CpInfo := pool [(1, .class_ 2), (0, u "java/lang/constant/Constable"), (0, .class_ 4), (0, u "java/lang/Object")] 6

/-- java/lang/constant/Constable -/
def k5 : Class := { plain "java/lang/constant/Constable" (some 0) with
  accessFlags := 1537
  interfaces := #[]
  cf := some (fileOf pool5 1 #[] #[] 1537 3 #[] #[])
  fields := #[]
  methods := #[]
  instanceTypes := #[]
  staticTypes := #[]
  resolved := Array.replicate 11 none
  statics := none }

def pool6 : Array CpInfo := pool [(1, .class_ 2), (0, u "java/lang/constant/ConstantDesc"), (0, .class_ 4), (0, u "java/lang/Object")] 32

/-- java/lang/constant/ConstantDesc -/
def k6 : Class := { plain "java/lang/constant/ConstantDesc" (some 0) with
  accessFlags := 1537
  interfaces := #[]
  cf := some (fileOf pool6 1 #[] #[] 1537 3 #[] #[])
  fields := #[]
  methods := #[]
  instanceTypes := #[]
  staticTypes := #[]
  resolved := Array.replicate 37 none
  statics := none }

def pool7 : Array CpInfo := pool [(1, .methodref 2 3), (0, .class_ 4), (0, .nameAndType 5 6), (0, u "java/lang/Object"), (0, u "<init>"), (0, u "()V"), (2, .fieldref 10 11), (0, .class_ 12), (0, .nameAndType 13 14), (0, u "java/lang/String"), (0, u "value"), (0, u "[B"), (0, .fieldref 10 16), (0, .nameAndType 17 18), (0, u "coder"), (0, u "B"), (2, u "hash"), (0, u "I"), (2, u "hashIsZero"), (0, u "Z"), (0, .methodref 10 28), (0, .nameAndType 5 29), (0, u "([CIILjava/lang/Void;)V"), (8, .fieldref 10 39), (0, .nameAndType 40 26), (0, u "COMPACT_STRINGS"), (1, .class_ 44), (1, u "java/lang/StringUTF16"), (0, u "compress"), (1, .methodref 42 48), (0, .nameAndType 49 50), (0, u "coderFromArrayLen"), (0, u "([BI)B"), (2, u "toBytes"), (0, .methodref 55 56), (0, .class_ 57), (0, .nameAndType 58 59), (0, u "java/util/Arrays"), (0, u "copyOfRange"), (0, u "([BII)[B"), (47, .class_ 109), (1, u "java/lang/StringLatin1"), (32, u "()Z"), (34, .methodref 42 178), (0, .nameAndType 45 179), (0, u "([CII)[B"), (13, .class_ 195), (1, u "java/lang/System"), (13, .methodref 10 210), (0, .nameAndType 5 211), (0, u "([BB)V"), (0, .methodref 193 213), (0, .nameAndType 214 215), (0, u "arraycopy"), (0, u "(Ljava/lang/Object;ILjava/lang/Object;II)V"), (118, u "()I"), (0, .methodref 10 336), (0, .nameAndType 17 337), (0, u "()B"), (2, u "()[B"), (28, u "(C)Z"), (119, .methodref 10 490), (0, .nameAndType 5 491), (0, u "(Ljava/lang/AbstractStringBuilder;Ljava/lang/Void;)V"), (1, .nameAndType 494 142), (0, u "isLatin1"), (11, .nameAndType 507 334), (0, u "length"), (24, u "getBytes"), (8, .methodref 107 542), (0, .nameAndType 543 544), (0, u "equals"), (0, u "([B[B)Z"), (4, .methodref 550 506), (0, .class_ 551), (0, u "java/lang/AbstractStringBuilder"), (0, .methodref 550 553), (0, .nameAndType 554 340), (0, u "getValue"), (18, u "(Ljava/lang/Object;)Z"), (1, .class_ 576), (0, u "java/lang/CharSequence"), (22, u "CASE_INSENSITIVE_ORDER"), (0, u "Ljava/util/Comparator;"), (181, u "valueOf"), (0, u "(C)Ljava/lang/String;"), (37, u "([BIB)V"), (188, u "([C)V"), (4, .methodref 107 1016), (0, .nameAndType 1017 369), (0, u "canEncode"), (0, .methodref 107 1019), (0, .nameAndType 53 1020), (0, u "(C)[B"), (26, .methodref 550 493), (53, u "serialPersistentFields"), (0, u "[Ljava/io/ObjectStreamField;"), (0, .class_ 1104), (0, u "java/lang/String$CaseInsensitiveComparator"), (1, .class_ 1107), (0, u "java/io/Serializable"), (0, .class_ 1109), (0, u "java/lang/Comparable"), (0, .class_ 1111), (0, u "java/lang/constant/Constable"), (0, .class_ 1113), (0, u "java/lang/constant/ConstantDesc"), (2, u "serialVersionUID"), (0, u "J"), (3, u "REPL"), (0, u "C"), (2, u "LATIN1"), (1, u "UTF16"), (105, u "(Ljava/lang/StringBuilder;)V")] 217

def k7m0 : Method := { name := "<init>", desc := "()V", sig := { parameters := [], returnType := none }, accessFlags := 1, code := none }
def k7c1 : Code := { maxStack := 5, maxLocals := 2, code := jdk_42_method_3_code, exceptionTable := #[], attributes := #[] }
def k7m1 : Method := { name := "<init>", desc := "([C)V", sig := { parameters := [(.array .char)], returnType := none }, accessFlags := 1, code := some k7c1 }
def k7c2 : Code := { maxStack := 3, maxLocals := 2, code := jdk_42_method_53_code, exceptionTable := #[], attributes := #[] }
def k7m2 : Method := { name := "<init>", desc := "(Ljava/lang/StringBuilder;)V", sig := { parameters := [(.object "java/lang/StringBuilder")], returnType := none }, accessFlags := 1, code := some k7c2 }
def k7c3 : Code := { maxStack := 2, maxLocals := 1, code := jdk_42_method_54_code, exceptionTable := #[], attributes := #[] }
def k7m3 : Method := { name := "length", desc := "()I", sig := { parameters := [], returnType := some .int }, accessFlags := 1, code := some k7c3 }
def k7c4 : Code := { maxStack := 2, maxLocals := 3, code := jdk_42_method_66_code, exceptionTable := #[], attributes := #[] }
def k7m4 : Method := { name := "equals", desc := "(Ljava/lang/Object;)Z", sig := { parameters := [(.object "java/lang/Object")], returnType := some .boolean }, accessFlags := 1, code := some k7c4 }
def k7c5 : Code := { maxStack := 4, maxLocals := 1, code := jdk_42_method_139_code, exceptionTable := #[], attributes := #[] }
def k7m5 : Method := { name := "valueOf", desc := "(C)Ljava/lang/String;", sig := { parameters := [.char], returnType := some (.object "java/lang/String") }, accessFlags := 9, code := some k7c5 }
def k7c6 : Code := { maxStack := 5, maxLocals := 4, code := jdk_42_method_147_code, exceptionTable := #[], attributes := #[] }
def k7m6 : Method := { name := "getBytes", desc := "([BIB)V", sig := { parameters := [(.array .byte), .int, .byte], returnType := none }, accessFlags := 0, code := some k7c6 }
def k7c7 : Code := { maxStack := 4, maxLocals := 6, code := jdk_42_method_149_code, exceptionTable := #[], attributes := #[] }
def k7m7 : Method := { name := "<init>", desc := "([CIILjava/lang/Void;)V", sig := { parameters := [(.array .char), .int, .int, (.object "java/lang/Void")], returnType := none }, accessFlags := 2, code := some k7c7 }
def k7c8 : Code := { maxStack := 5, maxLocals := 5, code := jdk_42_method_150_code, exceptionTable := #[], attributes := #[] }
def k7m8 : Method := { name := "<init>", desc := "(Ljava/lang/AbstractStringBuilder;Ljava/lang/Void;)V", sig := { parameters := [(.object "java/lang/AbstractStringBuilder"), (.object "java/lang/Void")], returnType := none }, accessFlags := 0, code := some k7c8 }
def k7c9 : Code := { maxStack := 2, maxLocals := 3, code := jdk_42_method_151_code, exceptionTable := #[], attributes := #[] }
def k7m9 : Method := { name := "<init>", desc := "([BB)V", sig := { parameters := [(.array .byte), .byte], returnType := none }, accessFlags := 0, code := some k7c9 }
def k7c10 : Code := { maxStack := 1, maxLocals := 1, code := jdk_42_method_152_code, exceptionTable := #[], attributes := #[] }
def k7m10 : Method := { name := "coder", desc := "()B", sig := { parameters := [], returnType := some .byte }, accessFlags := 0, code := some k7c10 }
/-- java/lang/String -/
def k7 : Class := { plain "java/lang/String" (some 0) with
  accessFlags := 49
  interfaces := #[2, 3, 4, 5, 6]
  cf := some (fileOf pool7 10 #[.nestMembers #[1103]] #[{ accessFlags := 1, nameIndex := 5, descriptorIndex := 6, attributes := #[] }, { accessFlags := 1, nameIndex := 5, descriptorIndex := 1010, attributes := #[] }, { accessFlags := 1, nameIndex := 5, descriptorIndex := 1233, attributes := #[] }, { accessFlags := 1, nameIndex := 507, descriptorIndex := 334, attributes := #[] }, { accessFlags := 1, nameIndex := 543, descriptorIndex := 573, attributes := #[] }, { accessFlags := 9, nameIndex := 782, descriptorIndex := 783, attributes := #[] }, { accessFlags := 0, nameIndex := 532, descriptorIndex := 821, attributes := #[] }, { accessFlags := 2, nameIndex := 5, descriptorIndex := 29, attributes := #[] }, { accessFlags := 0, nameIndex := 5, descriptorIndex := 491, attributes := #[] }, { accessFlags := 0, nameIndex := 5, descriptorIndex := 211, attributes := #[] }, { accessFlags := 0, nameIndex := 17, descriptorIndex := 337, attributes := #[] }] 49 2 #[1106, 1108, 575, 1110, 1112] #[{ accessFlags := 18, nameIndex := 13, descriptorIndex := 14, attributes := #[] }, { accessFlags := 18, nameIndex := 17, descriptorIndex := 18, attributes := #[] }, { accessFlags := 2, nameIndex := 21, descriptorIndex := 22, attributes := #[] }, { accessFlags := 2, nameIndex := 25, descriptorIndex := 26, attributes := #[] }, { accessFlags := 26, nameIndex := 1116, descriptorIndex := 1117, attributes := #[] }, { accessFlags := 24, nameIndex := 40, descriptorIndex := 26, attributes := #[] }, { accessFlags := 26, nameIndex := 1101, descriptorIndex := 1102, attributes := #[] }, { accessFlags := 26, nameIndex := 1121, descriptorIndex := 1122, attributes := #[] }, { accessFlags := 25, nameIndex := 599, descriptorIndex := 600, attributes := #[] }, { accessFlags := 24, nameIndex := 1125, descriptorIndex := 18, attributes := #[] }, { accessFlags := 24, nameIndex := 1127, descriptorIndex := 18, attributes := #[] }])
  fields := #[{ name := "value", type := (.array .byte), accessFlags := 18, slot := 0, constantValue := 0 }, { name := "coder", type := .byte, accessFlags := 18, slot := 1, constantValue := 0 }, { name := "hash", type := .int, accessFlags := 2, slot := 2, constantValue := 0 }, { name := "hashIsZero", type := .boolean, accessFlags := 2, slot := 3, constantValue := 0 }, { name := "serialVersionUID", type := .long, accessFlags := 26, slot := 0, constantValue := 0 }, { name := "COMPACT_STRINGS", type := .boolean, accessFlags := 24, slot := 1, constantValue := 0 }, { name := "serialPersistentFields", type := (.array (.object "java/io/ObjectStreamField")), accessFlags := 26, slot := 2, constantValue := 0 }, { name := "REPL", type := .char, accessFlags := 26, slot := 3, constantValue := 0 }, { name := "CASE_INSENSITIVE_ORDER", type := (.object "java/util/Comparator"), accessFlags := 25, slot := 4, constantValue := 0 }, { name := "LATIN1", type := .byte, accessFlags := 24, slot := 5, constantValue := 0 }, { name := "UTF16", type := .byte, accessFlags := 24, slot := 6, constantValue := 0 }]
  methods := #[k7m0, k7m1, k7m2, k7m3, k7m4, k7m5, k7m6, k7m7, k7m8, k7m9, k7m10]
  instanceTypes := #[(.array .byte), .byte, .int, .boolean]
  staticTypes := #[.long, .boolean, (.array (.object "java/io/ObjectStreamField")), .char, (.object "java/util/Comparator"), .byte, .byte]
  resolved := Array.replicate 1451 none
  statics := some 0 }

def pool8 : Array CpInfo := pool [(4, .class_ 6), (1, u "java/lang/Object"), (0, u "<init>"), (0, u "()V"), (5, .class_ 16), (1, u "java/lang/StringLatin1"), (73, u "canEncode"), (14, u "(C)Z"), (15, u "$assertionsDisabled"), (0, u "Z"), (98, .class_ 223), (1, u "java/lang/StringLatin1$LinesSpliterator"), (57, u "equals"), (0, u "([B[B)Z"), (97, u "toBytes"), (1, u "(C)[B"), (7, .class_ 391), (0, u "java/lang/StringLatin1$CharsSpliterator")] 3

def k8m0 : Method := { name := "<init>", desc := "()V", sig := { parameters := [], returnType := none }, accessFlags := 0, code := none }
def k8c1 : Code := { maxStack := 2, maxLocals := 1, code := jdk_43_method_3_code, exceptionTable := #[], attributes := #[] }
def k8m1 : Method := { name := "canEncode", desc := "(C)Z", sig := { parameters := [.char], returnType := some .boolean }, accessFlags := 9, code := some k8c1 }
def k8c2 : Code := { maxStack := 3, maxLocals := 3, code := jdk_43_method_13_code, exceptionTable := #[], attributes := #[] }
def k8m2 : Method := { name := "equals", desc := "([B[B)Z", sig := { parameters := [(.array .byte), (.array .byte)], returnType := some .boolean }, accessFlags := 9, code := some k8c2 }
def k8c3 : Code := { maxStack := 4, maxLocals := 1, code := jdk_43_method_46_code, exceptionTable := #[], attributes := #[] }
def k8m3 : Method := { name := "toBytes", desc := "(C)[B", sig := { parameters := [.char], returnType := some (.array .byte) }, accessFlags := 9, code := some k8c3 }
/-- java/lang/StringLatin1 -/
def k8 : Class := { plain "java/lang/StringLatin1" (some 0) with
  accessFlags := 48
  interfaces := #[]
  cf := some (fileOf pool8 14 #[.nestMembers #[390, 221]] #[{ accessFlags := 0, nameIndex := 7, descriptorIndex := 8, attributes := #[] }, { accessFlags := 9, nameIndex := 90, descriptorIndex := 105, attributes := #[] }, { accessFlags := 9, nameIndex := 281, descriptorIndex := 282, attributes := #[] }, { accessFlags := 9, nameIndex := 380, descriptorIndex := 382, attributes := #[] }] 48 4 #[] #[{ accessFlags := 4120, nameIndex := 121, descriptorIndex := 122, attributes := #[] }])
  fields := #[{ name := "$assertionsDisabled", type := .boolean, accessFlags := 4120, slot := 0, constantValue := 0 }]
  methods := #[k8m0, k8m1, k8m2, k8m3]
  instanceTypes := #[]
  staticTypes := #[.boolean]
  resolved := Array.replicate 395 none
  statics := none }

def pool9 : Array CpInfo := pool [(6, .class_ 8), (1, u "java/lang/Object"), (0, u "<init>"), (0, u "()V"), (1, .class_ 14), (1, u "java/lang/StringUTF16"), (31, u "$assertionsDisabled"), (0, u "Z"), (13, u "HI_BYTE_SHIFT"), (0, u "I"), (2, u "LO_BYTE_SHIFT"), (49, .methodref 12 116), (0, .nameAndType 117 118), (0, u "compress"), (0, u "([CI[BII)I"), (3, u "([CII)[B"), (138, u "coderFromArrayLen"), (0, u "([BI)B"), (106, .class_ 371), (1, u "java/lang/StringUTF16$LinesSpliterator"), (58, u "MAX_LENGTH"), (196, .class_ 628), (0, u "java/lang/StringUTF16$CodePointsSpliterator"), (0, .class_ 630), (0, u "java/lang/StringUTF16$CharsSpliterator")] 4

def k9m0 : Method := { name := "<init>", desc := "()V", sig := { parameters := [], returnType := none }, accessFlags := 0, code := none }
def k9c1 : Code := { maxStack := 2, maxLocals := 2, code := jdk_52_method_15_code, exceptionTable := #[], attributes := #[] }
def k9m1 : Method := { name := "coderFromArrayLen", desc := "([BI)B", sig := { parameters := [(.array .byte), .int], returnType := some .byte }, accessFlags := 8, code := some k9c1 }
def k9c2 : Code := { maxStack := 5, maxLocals := 6, code := jdk_52_method_16_code, exceptionTable := #[], attributes := #[] }
def k9m2 : Method := { name := "compress", desc := "([CII)[B", sig := { parameters := [(.array .char), .int, .int], returnType := some (.array .byte) }, accessFlags := 9, code := some k9c2 }
def k9c3 : Code := { maxStack := 3, maxLocals := 7, code := jdk_52_method_21_code, exceptionTable := #[], attributes := #[] }
def k9m3 : Method := { name := "compress", desc := "([CI[BII)I", sig := { parameters := [(.array .char), .int, (.array .byte), .int, .int], returnType := some .int }, accessFlags := 9, code := some k9c3 }
/-- java/lang/StringUTF16 -/
def k9 : Class := { plain "java/lang/StringUTF16" (some 0) with
  accessFlags := 48
  interfaces := #[]
  cf := some (fileOf pool9 12 #[.nestMembers #[627, 629, 369]] #[{ accessFlags := 0, nameIndex := 9, descriptorIndex := 10, attributes := #[] }, { accessFlags := 8, nameIndex := 261, descriptorIndex := 262, attributes := #[] }, { accessFlags := 9, nameIndex := 117, descriptorIndex := 122, attributes := #[] }, { accessFlags := 9, nameIndex := 117, descriptorIndex := 118, attributes := #[] }] 48 6 #[] #[{ accessFlags := 26, nameIndex := 61, descriptorIndex := 62, attributes := #[] }, { accessFlags := 26, nameIndex := 65, descriptorIndex := 62, attributes := #[] }, { accessFlags := 24, nameIndex := 430, descriptorIndex := 62, attributes := #[] }, { accessFlags := 4120, nameIndex := 46, descriptorIndex := 47, attributes := #[] }])
  fields := #[{ name := "HI_BYTE_SHIFT", type := .int, accessFlags := 26, slot := 0, constantValue := 0 }, { name := "LO_BYTE_SHIFT", type := .int, accessFlags := 26, slot := 1, constantValue := 0 }, { name := "MAX_LENGTH", type := .int, accessFlags := 24, slot := 2, constantValue := 0 }, { name := "$assertionsDisabled", type := .boolean, accessFlags := 4120, slot := 3, constantValue := 0 }]
  methods := #[k9m0, k9m1, k9m2, k9m3]
  instanceTypes := #[]
  staticTypes := #[.int, .int, .int, .boolean]
  resolved := Array.replicate 635 none
  statics := none }

def pool10 : Array CpInfo := pool [(1, .methodref 2 3), (0, .class_ 4), (0, .nameAndType 5 6), (0, u "java/lang/Object"), (0, u "<init>"), (0, u "()V"), (0, .class_ 8), (0, u "java/lang/Record")] 13

def k10c0 : Code := { maxStack := 1, maxLocals := 1, code := jdk_30_method_1_code, exceptionTable := #[], attributes := #[] }
def k10m0 : Method := { name := "<init>", desc := "()V", sig := { parameters := [], returnType := none }, accessFlags := 4, code := some k10c0 }
/-- java/lang/Record -/
def k10 : Class := { plain "java/lang/Record" (some 0) with
  accessFlags := 1057
  interfaces := #[]
  cf := some (fileOf pool10 7 #[] #[{ accessFlags := 4, nameIndex := 5, descriptorIndex := 6, attributes := #[] }] 1057 2 #[] #[])
  fields := #[]
  methods := #[k10m0]
  instanceTypes := #[]
  staticTypes := #[]
  resolved := Array.replicate 22 none
  statics := none }

def pool11 : Array CpInfo := pool [(1, .methodref 2 3), (0, .class_ 4), (0, .nameAndType 5 6), (0, u "java/lang/Record"), (0, u "<init>"), (0, u "()V"), (0, .fieldref 8 9), (0, .class_ 10), (0, .nameAndType 11 12), (0, u "com/example/coordinant/coordinant/Log$Rows"), (0, u "head"), (0, u "Ljava/lang/String;"), (0, .fieldref 8 14), (0, .nameAndType 15 12), (0, u "row"), (0, .fieldref 8 17), (0, .nameAndType 18 12), (0, u "tail"), (0, .fieldref 8 20), (0, .nameAndType 21 22), (0, u "repeatable"), (0, u "Z"), (0, .class_ 24), (0, u "java/lang/StringBuilder"), (0, .methodref 23 26), (0, .nameAndType 5 27), (0, u "(Ljava/lang/String;)V"), (0, .methodref 23 29), (0, .nameAndType 30 31), (0, u "append"), (0, u "(Ljava/lang/String;)Ljava/lang/StringBuilder;"), (0, .string 33), (0, u ", "), (0, .methodref 23 35), (0, .nameAndType 36 37), (0, u "toString"), (0, u "()Ljava/lang/String;"), (37, u "statement"), (0, u "(I)Ljava/lang/String;"), (14, u "(Ljava/lang/String;Ljava/lang/String;Ljava/lang/String;Z)V"), (13, .class_ 106), (0, u "com/example/coordinant/coordinant/Log")] 26

def k11c0 : Code := { maxStack := 2, maxLocals := 5, code := prog_50_method_1_code, exceptionTable := #[], attributes := #[] }
def k11m0 : Method := { name := "<init>", desc := "(Ljava/lang/String;Ljava/lang/String;Ljava/lang/String;Z)V", sig := { parameters := [(.object "java/lang/String"), (.object "java/lang/String"), (.object "java/lang/String"), .boolean], returnType := none }, accessFlags := 0, code := some k11c0 }
def k11c1 : Code := { maxStack := 3, maxLocals := 4, code := prog_50_method_2_code, exceptionTable := #[], attributes := #[] }
def k11m1 : Method := { name := "statement", desc := "(I)Ljava/lang/String;", sig := { parameters := [.int], returnType := some (.object "java/lang/String") }, accessFlags := 0, code := some k11c1 }
/-- com/example/coordinant/coordinant/Log$Rows -/
def k11 : Class := { plain "com/example/coordinant/coordinant/Log$Rows" (some 10) with
  accessFlags := 48
  interfaces := #[]
  cf := some (fileOf pool11 8 #[.nestHost 105] #[{ accessFlags := 0, nameIndex := 5, descriptorIndex := 91, attributes := #[] }, { accessFlags := 0, nameIndex := 75, descriptorIndex := 76, attributes := #[] }] 48 2 #[] #[{ accessFlags := 18, nameIndex := 11, descriptorIndex := 12, attributes := #[] }, { accessFlags := 18, nameIndex := 15, descriptorIndex := 12, attributes := #[] }, { accessFlags := 18, nameIndex := 18, descriptorIndex := 12, attributes := #[] }, { accessFlags := 18, nameIndex := 21, descriptorIndex := 22, attributes := #[] }])
  fields := #[{ name := "head", type := (.object "java/lang/String"), accessFlags := 18, slot := 0, constantValue := 0 }, { name := "row", type := (.object "java/lang/String"), accessFlags := 18, slot := 1, constantValue := 0 }, { name := "tail", type := (.object "java/lang/String"), accessFlags := 18, slot := 2, constantValue := 0 }, { name := "repeatable", type := .boolean, accessFlags := 18, slot := 3, constantValue := 0 }]
  methods := #[k11m0, k11m1]
  instanceTypes := #[(.object "java/lang/String"), (.object "java/lang/String"), (.object "java/lang/String"), .boolean]
  staticTypes := #[]
  resolved := Array.replicate 133 none
  statics := none }

def pool12 : Array CpInfo := pool [(1, .class_ 2), (0, u "java/lang/Appendable"), (0, .class_ 4), (0, u "java/lang/Object")] 9

/-- java/lang/Appendable -/
def k12 : Class := { plain "java/lang/Appendable" (some 0) with
  accessFlags := 1537
  interfaces := #[]
  cf := some (fileOf pool12 1 #[] #[] 1537 3 #[] #[])
  fields := #[]
  methods := #[]
  instanceTypes := #[]
  staticTypes := #[]
  resolved := Array.replicate 14 none
  statics := none }

def pool13 : Array CpInfo := pool [(1, .class_ 2), (0, u "java/lang/String"), (0, .methodref 4 5), (0, .class_ 6), (0, .nameAndType 7 8), (0, u "java/lang/Object"), (0, u "<init>"), (0, u "()V"), (1, .class_ 12), (1, u "java/lang/AbstractStringBuilder"), (0, u "EMPTYVALUE"), (0, u "[B"), (0, .fieldref 10 16), (0, .nameAndType 17 14), (0, u "value"), (0, .fieldref 1 19), (0, .nameAndType 20 21), (0, u "COMPACT_STRINGS"), (0, u "Z"), (0, .fieldref 10 23), (0, .nameAndType 24 25), (0, u "coder"), (0, u "B"), (6, .methodref 1 33), (0, .nameAndType 34 35), (0, u "length"), (0, u "()I"), (2, .integer 2147483631), (1, .methodref 1 41), (0, .nameAndType 24 42), (0, u "()B"), (0, .methodref 10 44), (0, .nameAndType 45 46), (0, u "append"), (0, u "(Ljava/lang/String;)Ljava/lang/AbstractStringBuilder;"), (1, .class_ 49), (0, u "java/lang/CharSequence"), (19, u "(Ljava/lang/String;)V"), (5, u "maybeLatin1"), (3, .fieldref 10 80), (0, .nameAndType 81 82), (0, u "count"), (0, u "I"), (2, u "isLatin1"), (0, u "()Z"), (13, .methodref 10 101), (0, .nameAndType 102 103), (0, u "ensureCapacityInternal"), (0, u "(I)V"), (104, .methodref 10 209), (0, .nameAndType 210 211), (0, u "putStringAt"), (0, u "(ILjava/lang/String;)V"), (5, u "inflateIfNeededFor"), (2, .nameAndType 221 222), (0, u "getBytes"), (0, u "([BIB)V"), (174, .methodref 10 398), (0, .nameAndType 217 69), (0, .methodref 1 220), (3, u "()[B"), (40, .class_ 445), (0, u "java/lang/Appendable"), (106, u "getValue")] 56

def k13m0 : Method := { name := "<init>", desc := "()V", sig := { parameters := [], returnType := none }, accessFlags := 0, code := none }
def k13c1 : Code := { maxStack := 2, maxLocals := 5, code := jdk_68_method_3_code, exceptionTable := #[], attributes := #[] }
def k13m1 : Method := { name := "<init>", desc := "(Ljava/lang/String;)V", sig := { parameters := [(.object "java/lang/String")], returnType := none }, accessFlags := 0, code := some k13c1 }
def k13c2 : Code := { maxStack := 1, maxLocals := 1, code := jdk_68_method_6_code, exceptionTable := #[], attributes := #[] }
def k13m2 : Method := { name := "length", desc := "()I", sig := { parameters := [], returnType := some .int }, accessFlags := 1, code := some k13c2 }
def k13c3 : Code := { maxStack := 4, maxLocals := 3, code := jdk_68_method_9_code, exceptionTable := #[], attributes := #[] }
def k13m3 : Method := { name := "ensureCapacityInternal", desc := "(I)V", sig := { parameters := [.int], returnType := none }, accessFlags := 2, code := some k13c3 }
def k13c4 : Code := { maxStack := 3, maxLocals := 3, code := jdk_68_method_22_code, exceptionTable := #[], attributes := #[] }
def k13m4 : Method := { name := "append", desc := "(Ljava/lang/String;)Ljava/lang/AbstractStringBuilder;", sig := { parameters := [(.object "java/lang/String")], returnType := some (.object "java/lang/AbstractStringBuilder") }, accessFlags := 1, code := some k13c4 }
def k13c5 : Code := { maxStack := 1, maxLocals := 1, code := jdk_68_method_64_code, exceptionTable := #[], attributes := #[] }
def k13m5 : Method := { name := "getValue", desc := "()[B", sig := { parameters := [], returnType := some (.array .byte) }, accessFlags := 16, code := some k13c5 }
def k13c6 : Code := { maxStack := 1, maxLocals := 1, code := jdk_68_method_68_code, exceptionTable := #[], attributes := #[] }
def k13m6 : Method := { name := "isLatin1", desc := "()Z", sig := { parameters := [], returnType := some .boolean }, accessFlags := 16, code := some k13c6 }
def k13c7 : Code := { maxStack := 2, maxLocals := 2, code := jdk_68_method_71_code, exceptionTable := #[], attributes := #[] }
def k13m7 : Method := { name := "inflateIfNeededFor", desc := "(Ljava/lang/String;)V", sig := { parameters := [(.object "java/lang/String")], returnType := none }, accessFlags := 2, code := some k13c7 }
def k13c8 : Code := { maxStack := 4, maxLocals := 3, code := jdk_68_method_73_code, exceptionTable := #[], attributes := #[] }
def k13m8 : Method := { name := "putStringAt", desc := "(ILjava/lang/String;)V", sig := { parameters := [.int, (.object "java/lang/String")], returnType := none }, accessFlags := 2, code := some k13c8 }
/-- java/lang/AbstractStringBuilder -/
def k13 : Class := { plain "java/lang/AbstractStringBuilder" (some 0) with
  accessFlags := 1056
  interfaces := #[12, 4]
  cf := some (fileOf pool13 10 #[] #[{ accessFlags := 0, nameIndex := 7, descriptorIndex := 8, attributes := #[] }, { accessFlags := 0, nameIndex := 7, descriptorIndex := 69, attributes := #[] }, { accessFlags := 1, nameIndex := 34, descriptorIndex := 35, attributes := #[] }, { accessFlags := 2, nameIndex := 102, descriptorIndex := 103, attributes := #[] }, { accessFlags := 1, nameIndex := 45, descriptorIndex := 46, attributes := #[] }, { accessFlags := 16, nameIndex := 552, descriptorIndex := 403, attributes := #[] }, { accessFlags := 16, nameIndex := 85, descriptorIndex := 86, attributes := #[] }, { accessFlags := 2, nameIndex := 217, descriptorIndex := 69, attributes := #[] }, { accessFlags := 2, nameIndex := 210, descriptorIndex := 211, attributes := #[] }] 1056 4 #[444, 48] #[{ accessFlags := 0, nameIndex := 17, descriptorIndex := 14, attributes := #[] }, { accessFlags := 0, nameIndex := 24, descriptorIndex := 25, attributes := #[] }, { accessFlags := 0, nameIndex := 75, descriptorIndex := 21, attributes := #[] }, { accessFlags := 0, nameIndex := 81, descriptorIndex := 82, attributes := #[] }, { accessFlags := 26, nameIndex := 13, descriptorIndex := 14, attributes := #[] }])
  fields := #[{ name := "value", type := (.array .byte), accessFlags := 0, slot := 0, constantValue := 0 }, { name := "coder", type := .byte, accessFlags := 0, slot := 1, constantValue := 0 }, { name := "maybeLatin1", type := .boolean, accessFlags := 0, slot := 2, constantValue := 0 }, { name := "count", type := .int, accessFlags := 0, slot := 3, constantValue := 0 }, { name := "EMPTYVALUE", type := (.array .byte), accessFlags := 26, slot := 0, constantValue := 0 }]
  methods := #[k13m0, k13m1, k13m2, k13m3, k13m4, k13m5, k13m6, k13m7, k13m8]
  instanceTypes := #[(.array .byte), .byte, .boolean, .int]
  staticTypes := #[(.array .byte)]
  resolved := Array.replicate 609 none
  statics := none }

def pool14 : Array CpInfo := pool [(2, .class_ 4), (1, u "java/lang/AbstractStringBuilder"), (0, u "<init>"), (1, .methodref 2 8), (0, .nameAndType 5 9), (0, u "(Ljava/lang/String;)V"), (8, .class_ 20), (1, u "java/lang/String"), (2, .methodref 24 25), (0, .class_ 26), (0, .nameAndType 27 28), (0, u "java/lang/StringBuilder"), (0, u "append"), (0, u "(Ljava/lang/String;)Ljava/lang/StringBuilder;"), (0, .methodref 2 30), (0, .nameAndType 27 31), (0, u "(Ljava/lang/String;)Ljava/lang/AbstractStringBuilder;"), (105, .methodref 18 138), (0, .nameAndType 5 139), (0, u "(Ljava/lang/StringBuilder;)V"), (5, u "()V"), (10, u "()I"), (186, .methodref 2 344), (0, .nameAndType 345 156), (0, u "length"), (3, .class_ 350), (0, u "java/lang/Appendable"), (0, .class_ 352), (0, u "java/io/Serializable"), (0, .class_ 354), (0, u "java/lang/Comparable"), (0, .class_ 356), (0, u "java/lang/CharSequence"), (0, u "serialVersionUID"), (0, u "J"), (40, u "toString"), (0, u "()Ljava/lang/String;")] 21

def k14m0 : Method := { name := "<init>", desc := "()V", sig := { parameters := [], returnType := none }, accessFlags := 1, code := none }
def k14c1 : Code := { maxStack := 2, maxLocals := 2, code := jdk_67_method_3_code, exceptionTable := #[], attributes := #[] }
def k14m1 : Method := { name := "<init>", desc := "(Ljava/lang/String;)V", sig := { parameters := [(.object "java/lang/String")], returnType := none }, accessFlags := 1, code := some k14c1 }
def k14c2 : Code := { maxStack := 2, maxLocals := 2, code := jdk_67_method_7_code, exceptionTable := #[], attributes := #[] }
def k14m2 : Method := { name := "append", desc := "(Ljava/lang/String;)Ljava/lang/StringBuilder;", sig := { parameters := [(.object "java/lang/String")], returnType := some (.object "java/lang/StringBuilder") }, accessFlags := 1, code := some k14c2 }
def k14c3 : Code := { maxStack := 3, maxLocals := 1, code := jdk_67_method_42_code, exceptionTable := #[], attributes := #[] }
def k14m3 : Method := { name := "toString", desc := "()Ljava/lang/String;", sig := { parameters := [], returnType := some (.object "java/lang/String") }, accessFlags := 1, code := some k14c3 }
def k14c4 : Code := { maxStack := 2, maxLocals := 2, code := jdk_67_method_80_code, exceptionTable := #[], attributes := #[] }
def k14m4 : Method := { name := "append", desc := "(Ljava/lang/String;)Ljava/lang/AbstractStringBuilder;", sig := { parameters := [(.object "java/lang/String")], returnType := some (.object "java/lang/AbstractStringBuilder") }, accessFlags := 4161, code := some k14c4 }
def k14c5 : Code := { maxStack := 1, maxLocals := 1, code := jdk_67_method_93_code, exceptionTable := #[], attributes := #[] }
def k14m5 : Method := { name := "length", desc := "()I", sig := { parameters := [], returnType := some .int }, accessFlags := 4161, code := some k14c5 }
/-- java/lang/StringBuilder -/
def k14 : Class := { plain "java/lang/StringBuilder" (some 13) with
  accessFlags := 49
  interfaces := #[12, 2, 3, 4]
  cf := some (fileOf pool14 24 #[] #[{ accessFlags := 1, nameIndex := 5, descriptorIndex := 145, attributes := #[] }, { accessFlags := 1, nameIndex := 5, descriptorIndex := 9, attributes := #[] }, { accessFlags := 1, nameIndex := 27, descriptorIndex := 28, attributes := #[] }, { accessFlags := 1, nameIndex := 399, descriptorIndex := 400, attributes := #[] }, { accessFlags := 4161, nameIndex := 27, descriptorIndex := 31, attributes := #[] }, { accessFlags := 4161, nameIndex := 345, descriptorIndex := 156, attributes := #[] }] 49 2 #[349, 351, 353, 355] #[{ accessFlags := 24, nameIndex := 357, descriptorIndex := 358, attributes := #[] }])
  fields := #[{ name := "serialVersionUID", type := .long, accessFlags := 24, slot := 0, constantValue := 0 }]
  methods := #[k14m0, k14m1, k14m2, k14m3, k14m4, k14m5]
  instanceTypes := #[(.array .byte), .byte, .boolean, .int]
  staticTypes := #[.long]
  resolved := Array.replicate 422 none
  statics := none }

def pool15 : Array CpInfo := pool [(2, .class_ 4), (1, u "java/lang/Object"), (0, u "<init>"), (0, u "()V"), (1, .class_ 10), (1, u "java/lang/System"), (0, u "allowSecurityManager"), (0, u "I"), (16, u "cons"), (0, u "Ljava/io/Console;"), (77, .class_ 110), (1, u "java/lang/System$CallersHolder"), (43, u "initialErrStream"), (0, u "Ljava/io/PrintStream;"), (19, u "security"), (0, u "Ljava/lang/SecurityManager;"), (31, .class_ 209), (0, u "java/lang/System$1"), (7, u "props"), (0, u "Ljava/util/Properties;"), (2, u "lineSeparator"), (0, u "Ljava/lang/String;"), (96, .class_ 321), (1, u "java/lang/System$LoggerFinder"), (5, .class_ 328), (0, u "java/lang/System$Logger"), (67, u "err"), (2, u "out"), (91, u "notSupportedJnuEncoding"), (15, u "in"), (17, u "initialIn"), (0, u "Ljava/io/InputStream;"), (35, u "bootLayer"), (0, u "Ljava/lang/ModuleLayer;"), (99, .class_ 664), (0, u "java/lang/System$2"), (9, u "NEVER"), (2, u "MAYBE"), (49, u "arraycopy"), (0, u "(Ljava/lang/Object;ILjava/lang/Object;II)V"), (72, .class_ 802), (0, u "java/lang/System$Logger$Level")] 31

def k15m0 : Method := { name := "<init>", desc := "()V", sig := { parameters := [], returnType := none }, accessFlags := 2, code := none }
def k15m1 : Method := { name := "arraycopy", desc := "(Ljava/lang/Object;ILjava/lang/Object;II)V", sig := { parameters := [(.object "java/lang/Object"), .int, (.object "java/lang/Object"), .int, .int], returnType := none }, accessFlags := 265, code := none }
/-- java/lang/System -/
def k15 : Class := { plain "java/lang/System" (some 0) with
  accessFlags := 49
  interfaces := #[]
  cf := some (fileOf pool15 8 #[.nestMembers #[319, 327, 801, 108, 663, 208]] #[{ accessFlags := 2, nameIndex := 5, descriptorIndex := 6, attributes := #[] }, { accessFlags := 265, nameIndex := 727, descriptorIndex := 728, attributes := #[] }] 49 2 #[] #[{ accessFlags := 25, nameIndex := 507, descriptorIndex := 526, attributes := #[] }, { accessFlags := 25, nameIndex := 399, descriptorIndex := 155, attributes := #[] }, { accessFlags := 25, nameIndex := 396, descriptorIndex := 155, attributes := #[] }, { accessFlags := 10, nameIndex := 525, descriptorIndex := 526, attributes := #[] }, { accessFlags := 26, nameIndex := 674, descriptorIndex := 12, attributes := #[] }, { accessFlags := 26, nameIndex := 677, descriptorIndex := 12, attributes := #[] }, { accessFlags := 10, nameIndex := 11, descriptorIndex := 12, attributes := #[] }, { accessFlags := 74, nameIndex := 175, descriptorIndex := 176, attributes := #[] }, { accessFlags := 10, nameIndex := 491, descriptorIndex := 222, attributes := #[] }, { accessFlags := 74, nameIndex := 29, descriptorIndex := 30, attributes := #[] }, { accessFlags := 74, nameIndex := 154, descriptorIndex := 155, attributes := #[] }, { accessFlags := 10, nameIndex := 217, descriptorIndex := 218, attributes := #[] }, { accessFlags := 10, nameIndex := 221, descriptorIndex := 222, attributes := #[] }, { accessFlags := 8, nameIndex := 562, descriptorIndex := 563, attributes := #[] }])
  fields := #[{ name := "in", type := (.object "java/io/InputStream"), accessFlags := 25, slot := 0, constantValue := 0 }, { name := "out", type := (.object "java/io/PrintStream"), accessFlags := 25, slot := 1, constantValue := 0 }, { name := "err", type := (.object "java/io/PrintStream"), accessFlags := 25, slot := 2, constantValue := 0 }, { name := "initialIn", type := (.object "java/io/InputStream"), accessFlags := 10, slot := 3, constantValue := 0 }, { name := "NEVER", type := .int, accessFlags := 26, slot := 4, constantValue := 0 }, { name := "MAYBE", type := .int, accessFlags := 26, slot := 5, constantValue := 0 }, { name := "allowSecurityManager", type := .int, accessFlags := 10, slot := 6, constantValue := 0 }, { name := "security", type := (.object "java/lang/SecurityManager"), accessFlags := 74, slot := 7, constantValue := 0 }, { name := "notSupportedJnuEncoding", type := (.object "java/lang/String"), accessFlags := 10, slot := 8, constantValue := 0 }, { name := "cons", type := (.object "java/io/Console"), accessFlags := 74, slot := 9, constantValue := 0 }, { name := "initialErrStream", type := (.object "java/io/PrintStream"), accessFlags := 74, slot := 10, constantValue := 0 }, { name := "props", type := (.object "java/util/Properties"), accessFlags := 10, slot := 11, constantValue := 0 }, { name := "lineSeparator", type := (.object "java/lang/String"), accessFlags := 10, slot := 12, constantValue := 0 }, { name := "bootLayer", type := (.object "java/lang/ModuleLayer"), accessFlags := 8, slot := 13, constantValue := 0 }]
  methods := #[k15m0, k15m1]
  instanceTypes := #[]
  staticTypes := #[(.object "java/io/InputStream"), (.object "java/io/PrintStream"), (.object "java/io/PrintStream"), (.object "java/io/InputStream"), .int, .int, .int, (.object "java/lang/SecurityManager"), (.object "java/lang/String"), (.object "java/io/Console"), (.object "java/io/PrintStream"), (.object "java/util/Properties"), (.object "java/lang/String"), (.object "java/lang/ModuleLayer")]
  resolved := Array.replicate 834 none
  statics := none }

def pool16 : Array CpInfo := pool [(2, .class_ 4), (1, u "java/lang/Object"), (0, u "<init>"), (0, u "()V"), (7, .class_ 16), (1, u "java/util/Arrays"), (57, .class_ 76), (1, u "java/util/Arrays$NaturalOrder"), (36, .class_ 115), (1, u "java/util/Arrays$LegacyMergeSort"), (1, u "Z"), (21, u "copyOfRange"), (10, .methodref 151 152), (0, .class_ 153), (0, .nameAndType 154 155), (0, u "java/lang/System"), (0, u "arraycopy"), (0, u "(Ljava/lang/Object;ILjava/lang/Object;II)V"), (148, .methodref 305 306), (0, .class_ 307), (0, .nameAndType 308 309), (0, u "java/lang/Math"), (0, u "min"), (0, u "(II)I"), (29, .methodref 14 340), (0, .nameAndType 341 342), (0, u "copyOfRangeByte"), (0, u "([BII)[B"), (0, .methodref 14 344), (0, .nameAndType 345 346), (0, u "checkLength"), (0, u "(II)V"), (28, .class_ 376), (0, u "java/util/Arrays$ArrayList"), (68, u "$assertionsDisabled"), (269, u "MIN_ARRAY_SORT_GRAN"), (0, u "I"), (2, u "INSERTIONSORT_THRESHOLD"), (255, .class_ 976), (0, u "java/util/Arrays$ArrayItr")] 52

def k16m0 : Method := { name := "<init>", desc := "()V", sig := { parameters := [], returnType := none }, accessFlags := 2, code := none }
def k16c1 : Code := { maxStack := 4, maxLocals := 2, code := jdk_65_method_131_code, exceptionTable := #[], attributes := #[] }
def k16m1 : Method := { name := "checkLength", desc := "(II)V", sig := { parameters := [.int, .int], returnType := none }, accessFlags := 10, code := some k16c1 }
def k16c2 : Code := { maxStack := 3, maxLocals := 3, code := jdk_65_method_132_code, exceptionTable := #[], attributes := #[] }
def k16m2 : Method := { name := "copyOfRange", desc := "([BII)[B", sig := { parameters := [(.array .byte), .int, .int], returnType := some (.array .byte) }, accessFlags := 9, code := some k16c2 }
def k16c3 : Code := { maxStack := 6, maxLocals := 5, code := jdk_65_method_133_code, exceptionTable := #[], attributes := #[] }
def k16m3 : Method := { name := "copyOfRangeByte", desc := "([BII)[B", sig := { parameters := [(.array .byte), .int, .int], returnType := some (.array .byte) }, accessFlags := 10, code := some k16c3 }
/-- java/util/Arrays -/
def k16 : Class := { plain "java/util/Arrays" (some 0) with
  accessFlags := 49
  interfaces := #[]
  cf := some (fileOf pool16 14 #[.nestMembers #[975, 375, 113, 74]] #[{ accessFlags := 2, nameIndex := 5, descriptorIndex := 6, attributes := #[] }, { accessFlags := 10, nameIndex := 345, descriptorIndex := 346, attributes := #[] }, { accessFlags := 9, nameIndex := 139, descriptorIndex := 342, attributes := #[] }, { accessFlags := 10, nameIndex := 341, descriptorIndex := 342, attributes := #[] }] 49 2 #[] #[{ accessFlags := 26, nameIndex := 715, descriptorIndex := 716, attributes := #[] }, { accessFlags := 26, nameIndex := 719, descriptorIndex := 716, attributes := #[] }, { accessFlags := 4120, nameIndex := 445, descriptorIndex := 117, attributes := #[] }])
  fields := #[{ name := "MIN_ARRAY_SORT_GRAN", type := .int, accessFlags := 26, slot := 0, constantValue := 0 }, { name := "INSERTIONSORT_THRESHOLD", type := .int, accessFlags := 26, slot := 1, constantValue := 0 }, { name := "$assertionsDisabled", type := .boolean, accessFlags := 4120, slot := 2, constantValue := 0 }]
  methods := #[k16m0, k16m1, k16m2, k16m3]
  instanceTypes := #[]
  staticTypes := #[.int, .int, .boolean]
  resolved := Array.replicate 1029 none
  statics := none }

def pool17 : Array CpInfo := pool [(1, .class_ 2), (0, u "java/lang/Math"), (1, .class_ 6), (1, u "java/lang/Object"), (0, u "<init>"), (0, u "()V"), (89, .class_ 100), (1, u "java/lang/Math$RandomNumberGeneratorHolder"), (71, u "negativeZeroFloatBits"), (0, u "J"), (2, u "negativeZeroDoubleBits"), (24, u "min"), (43, u "$assertionsDisabled"), (0, u "Z"), (88, u "(II)I"), (2, u "twoToTheDoubleScaleDown"), (0, u "D"), (4, u "twoToTheDoubleScaleUp"), (9, u "E"), (3, u "PI"), (2, u "TAU"), (2, u "DEGREES_TO_RADIANS"), (0, u "RADIANS_TO_DEGREES")] 94

def k17m0 : Method := { name := "<init>", desc := "()V", sig := { parameters := [], returnType := none }, accessFlags := 2, code := none }
def k17c1 : Code := { maxStack := 2, maxLocals := 2, code := jdk_29_method_69_code, exceptionTable := #[], attributes := #[] }
def k17m1 : Method := { name := "min", desc := "(II)I", sig := { parameters := [.int, .int], returnType := some .int }, accessFlags := 9, code := some k17c1 }
/-- java/lang/Math -/
def k17 : Class := { plain "java/lang/Math" (some 0) with
  accessFlags := 49
  interfaces := #[]
  cf := some (fileOf pool17 1 #[.nestMembers #[98]] #[{ accessFlags := 2, nameIndex := 7, descriptorIndex := 8, attributes := #[] }, { accessFlags := 9, nameIndex := 201, descriptorIndex := 335, attributes := #[] }] 49 4 #[] #[{ accessFlags := 25, nameIndex := 354, descriptorIndex := 339, attributes := #[] }, { accessFlags := 25, nameIndex := 358, descriptorIndex := 339, attributes := #[] }, { accessFlags := 25, nameIndex := 361, descriptorIndex := 339, attributes := #[] }, { accessFlags := 26, nameIndex := 364, descriptorIndex := 339, attributes := #[] }, { accessFlags := 26, nameIndex := 365, descriptorIndex := 339, attributes := #[] }, { accessFlags := 26, nameIndex := 172, descriptorIndex := 173, attributes := #[] }, { accessFlags := 26, nameIndex := 176, descriptorIndex := 173, attributes := #[] }, { accessFlags := 8, nameIndex := 344, descriptorIndex := 339, attributes := #[] }, { accessFlags := 8, nameIndex := 338, descriptorIndex := 339, attributes := #[] }, { accessFlags := 4120, nameIndex := 245, descriptorIndex := 246, attributes := #[] }])
  fields := #[{ name := "E", type := .double, accessFlags := 25, slot := 0, constantValue := 0 }, { name := "PI", type := .double, accessFlags := 25, slot := 1, constantValue := 0 }, { name := "TAU", type := .double, accessFlags := 25, slot := 2, constantValue := 0 }, { name := "DEGREES_TO_RADIANS", type := .double, accessFlags := 26, slot := 3, constantValue := 0 }, { name := "RADIANS_TO_DEGREES", type := .double, accessFlags := 26, slot := 4, constantValue := 0 }, { name := "negativeZeroFloatBits", type := .long, accessFlags := 26, slot := 5, constantValue := 0 }, { name := "negativeZeroDoubleBits", type := .long, accessFlags := 26, slot := 6, constantValue := 0 }, { name := "twoToTheDoubleScaleUp", type := .double, accessFlags := 8, slot := 7, constantValue := 0 }, { name := "twoToTheDoubleScaleDown", type := .double, accessFlags := 8, slot := 8, constantValue := 0 }, { name := "$assertionsDisabled", type := .boolean, accessFlags := 4120, slot := 9, constantValue := 0 }]
  methods := #[k17m0, k17m1]
  instanceTypes := #[]
  staticTypes := #[.double, .double, .double, .double, .double, .long, .long, .double, .double, .boolean]
  resolved := Array.replicate 460 none
  statics := none }

def pool18 : Array CpInfo := pool [(2, .class_ 4), (1, u "java/lang/Object"), (0, u "<init>"), (0, u "()V"), (17, .class_ 26), (1, u "jdk/internal/util/Preconditions"), (28, .class_ 56), (0, u "jdk/internal/util/Preconditions$4"), (57, .class_ 115), (0, u "jdk/internal/util/Preconditions$1"), (7, u "SIOOBE_FORMATTER"), (0, u "Ljava/util/function/BiFunction;"), (0, .class_ 126), (0, u "jdk/internal/util/Preconditions$2"), (3, u "AIOOBE_FORMATTER"), (0, .class_ 132), (0, u "jdk/internal/util/Preconditions$3"), (3, u "IOOBE_FORMATTER")] 57

def k18m0 : Method := { name := "<init>", desc := "()V", sig := { parameters := [], returnType := none }, accessFlags := 1, code := none }
/-- jdk/internal/util/Preconditions -/
def k18 : Class := { plain "jdk/internal/util/Preconditions" (some 0) with
  accessFlags := 33
  interfaces := #[]
  cf := some (fileOf pool18 24 #[.nestMembers #[55, 131, 125, 114]] #[{ accessFlags := 1, nameIndex := 5, descriptorIndex := 6, attributes := #[] }] 33 2 #[] #[{ accessFlags := 25, nameIndex := 123, descriptorIndex := 124, attributes := #[] }, { accessFlags := 25, nameIndex := 130, descriptorIndex := 124, attributes := #[] }, { accessFlags := 25, nameIndex := 136, descriptorIndex := 124, attributes := #[] }])
  fields := #[{ name := "SIOOBE_FORMATTER", type := (.object "java/util/function/BiFunction"), accessFlags := 25, slot := 0, constantValue := 0 }, { name := "AIOOBE_FORMATTER", type := (.object "java/util/function/BiFunction"), accessFlags := 25, slot := 1, constantValue := 0 }, { name := "IOOBE_FORMATTER", type := (.object "java/util/function/BiFunction"), accessFlags := 25, slot := 2, constantValue := 0 }]
  methods := #[k18m0]
  instanceTypes := #[]
  staticTypes := #[(.object "java/util/function/BiFunction"), (.object "java/util/function/BiFunction"), (.object "java/util/function/BiFunction")]
  resolved := Array.replicate 194 none
  statics := some 1 }

def pool19 : Array CpInfo := pool [(9, u "<init>"), (6, .class_ 18), (1, u "java/lang/Object"), (0, u "()V"), (1, .class_ 23), (1, u "jdk/internal/util/ArraysSupport"), (0, u "LOG2_ARRAY_LONG_INDEX_SCALE"), (0, u "I"), (2, u "U"), (0, u "Ljdk/internal/misc/Unsafe;"), (8, u "BIG_ENDIAN"), (0, u "Z"), (8, u "LOG2_BYTE_BIT_SIZE"), (4, u "LOG2_ARRAY_INT_INDEX_SCALE"), (54, u "JLA"), (0, u "Ljdk/internal/access/JavaLangAccess;"), (11, u "LOG2_ARRAY_BOOLEAN_INDEX_SCALE"), (9, u "LOG2_ARRAY_BYTE_INDEX_SCALE"), (5, u "LOG2_ARRAY_CHAR_INDEX_SCALE"), (5, u "LOG2_ARRAY_SHORT_INDEX_SCALE"), (18, u "LOG2_ARRAY_FLOAT_INDEX_SCALE"), (24, u "LOG2_ARRAY_DOUBLE_INDEX_SCALE"), (89, u "T_BOOLEAN"), (2, u "T_CHAR"), (1, u "T_FLOAT"), (1, u "T_DOUBLE"), (1, u "T_BYTE"), (1, u "T_SHORT"), (1, u "T_INT"), (1, u "T_LONG"), (1, u "SOFT_MAX_ARRAY_LENGTH")] 83

def k19m0 : Method := { name := "<init>", desc := "()V", sig := { parameters := [], returnType := none }, accessFlags := 2, code := none }
/-- jdk/internal/util/ArraysSupport -/
def k19 : Class := { plain "jdk/internal/util/ArraysSupport" (some 0) with
  accessFlags := 33
  interfaces := #[]
  cf := some (fileOf pool19 21 #[] #[{ accessFlags := 2, nameIndex := 9, descriptorIndex := 19, attributes := #[] }] 33 16 #[] #[{ accessFlags := 24, nameIndex := 28, descriptorIndex := 29, attributes := #[] }, { accessFlags := 26, nameIndex := 38, descriptorIndex := 39, attributes := #[] }, { accessFlags := 25, nameIndex := 121, descriptorIndex := 25, attributes := #[] }, { accessFlags := 25, nameIndex := 131, descriptorIndex := 25, attributes := #[] }, { accessFlags := 25, nameIndex := 137, descriptorIndex := 25, attributes := #[] }, { accessFlags := 25, nameIndex := 143, descriptorIndex := 25, attributes := #[] }, { accessFlags := 25, nameIndex := 53, descriptorIndex := 25, attributes := #[] }, { accessFlags := 25, nameIndex := 24, descriptorIndex := 25, attributes := #[] }, { accessFlags := 25, nameIndex := 162, descriptorIndex := 25, attributes := #[] }, { accessFlags := 25, nameIndex := 187, descriptorIndex := 25, attributes := #[] }, { accessFlags := 26, nameIndex := 48, descriptorIndex := 25, attributes := #[] }, { accessFlags := 25, nameIndex := 277, descriptorIndex := 25, attributes := #[] }, { accessFlags := 25, nameIndex := 280, descriptorIndex := 25, attributes := #[] }, { accessFlags := 25, nameIndex := 282, descriptorIndex := 25, attributes := #[] }, { accessFlags := 25, nameIndex := 284, descriptorIndex := 25, attributes := #[] }, { accessFlags := 25, nameIndex := 286, descriptorIndex := 25, attributes := #[] }, { accessFlags := 25, nameIndex := 288, descriptorIndex := 25, attributes := #[] }, { accessFlags := 25, nameIndex := 290, descriptorIndex := 25, attributes := #[] }, { accessFlags := 25, nameIndex := 292, descriptorIndex := 25, attributes := #[] }, { accessFlags := 26, nameIndex := 108, descriptorIndex := 109, attributes := #[] }, { accessFlags := 25, nameIndex := 294, descriptorIndex := 25, attributes := #[] }])
  fields := #[{ name := "U", type := (.object "jdk/internal/misc/Unsafe"), accessFlags := 24, slot := 0, constantValue := 0 }, { name := "BIG_ENDIAN", type := .boolean, accessFlags := 26, slot := 1, constantValue := 0 }, { name := "LOG2_ARRAY_BOOLEAN_INDEX_SCALE", type := .int, accessFlags := 25, slot := 2, constantValue := 0 }, { name := "LOG2_ARRAY_BYTE_INDEX_SCALE", type := .int, accessFlags := 25, slot := 3, constantValue := 0 }, { name := "LOG2_ARRAY_CHAR_INDEX_SCALE", type := .int, accessFlags := 25, slot := 4, constantValue := 0 }, { name := "LOG2_ARRAY_SHORT_INDEX_SCALE", type := .int, accessFlags := 25, slot := 5, constantValue := 0 }, { name := "LOG2_ARRAY_INT_INDEX_SCALE", type := .int, accessFlags := 25, slot := 6, constantValue := 0 }, { name := "LOG2_ARRAY_LONG_INDEX_SCALE", type := .int, accessFlags := 25, slot := 7, constantValue := 0 }, { name := "LOG2_ARRAY_FLOAT_INDEX_SCALE", type := .int, accessFlags := 25, slot := 8, constantValue := 0 }, { name := "LOG2_ARRAY_DOUBLE_INDEX_SCALE", type := .int, accessFlags := 25, slot := 9, constantValue := 0 }, { name := "LOG2_BYTE_BIT_SIZE", type := .int, accessFlags := 26, slot := 10, constantValue := 0 }, { name := "T_BOOLEAN", type := .int, accessFlags := 25, slot := 11, constantValue := 0 }, { name := "T_CHAR", type := .int, accessFlags := 25, slot := 12, constantValue := 0 }, { name := "T_FLOAT", type := .int, accessFlags := 25, slot := 13, constantValue := 0 }, { name := "T_DOUBLE", type := .int, accessFlags := 25, slot := 14, constantValue := 0 }, { name := "T_BYTE", type := .int, accessFlags := 25, slot := 15, constantValue := 0 }, { name := "T_SHORT", type := .int, accessFlags := 25, slot := 16, constantValue := 0 }, { name := "T_INT", type := .int, accessFlags := 25, slot := 17, constantValue := 0 }, { name := "T_LONG", type := .int, accessFlags := 25, slot := 18, constantValue := 0 }, { name := "JLA", type := (.object "jdk/internal/access/JavaLangAccess"), accessFlags := 26, slot := 19, constantValue := 0 }, { name := "SOFT_MAX_ARRAY_LENGTH", type := .int, accessFlags := 25, slot := 20, constantValue := 0 }]
  methods := #[k19m0]
  instanceTypes := #[]
  staticTypes := #[(.object "jdk/internal/misc/Unsafe"), .boolean, .int, .int, .int, .int, .int, .int, .int, .int, .int, .int, .int, .int, .int, .int, .int, .int, .int, (.object "jdk/internal/access/JavaLangAccess"), .int]
  resolved := Array.replicate 378 none
  statics := none }

def pool20 : Array CpInfo := pool [(1, u "java/lang/Cloneable"), (0, .class_ 1), (0, u "java/lang/Object"), (0, .class_ 3)] 3

/-- java/lang/Cloneable -/
def k20 : Class := { plain "java/lang/Cloneable" (some 0) with
  accessFlags := 1537
  interfaces := #[]
  cf := some (fileOf pool20 2 #[] #[] 1537 4 #[] #[])
  fields := #[]
  methods := #[]
  instanceTypes := #[]
  staticTypes := #[]
  resolved := Array.replicate 8 none
  statics := none }

/-- the primitive byte -/
def k21 : Class := { plain "byte" none with kind := .primitive 'B', accessFlags := 0x411 }
/-- [B -/
def k22 : Class := { plain "[B" (some 0) with kind := .array 21 .byte, interfaces := #[20, 2], accessFlags := 1041 }

/-- the primitive char -/
def k23 : Class := { plain "char" none with kind := .primitive 'C', accessFlags := 0x411 }
/-- [C -/
def k24 : Class := { plain "[C" (some 0) with kind := .array 23 .char, interfaces := #[20, 2], accessFlags := 1041 }

/-- the primitive int -/
def k25 : Class := { plain "int" none with kind := .primitive 'I', accessFlags := 0x411 }
/-- [I -/
def k26 : Class := { plain "[I" (some 0) with kind := .array 25 .int, interfaces := #[20, 2], accessFlags := 1041 }

def heap : Heap := #[{ cls := 7, slots := #[.long 0, .int 1, .null, .int 0, .null, .int 0, .int 0], vm := .statics 7 },
  { cls := 18, slots := #[.null, .null, .null], vm := .statics 18 }]
def classes : Array Class := #[k0, k1, k2, k3, k4, k5, k6, k7, k8, k9, k10, k11, k12, k13, k14, k15, k16, k17, k18, k19, k20, k21, k22, k23, k24, k25, k26]
def interned : List (Array UInt16 × Addr) := []
def slotsUsed : Nat := 10
def theMethod : MethodId := ⟨1, 1⟩
def args0 : Array Value := #[.int 5, .int 3, .int 1, .int 2, .int 1]
def aboutOver (below : List Frame) : State where
  vm := { classes := classes, interned := interned.toArray }
  heap := heap
  slotsUsed := slotsUsed
  threads := #[{ frames := .invoking theMethod args0 :: below }]
def below0 : List Frame := [.native { method := ⟨0, 0⟩, args := #[] }]
def about1 : State := aboutOver below0
def p0 : Program := .bare "" "" ""
def e0 : Env := launch0.env 0 0 0
theorem w_frames : about1.frames = Frame.invoking theMethod args0 :: below0 := rfl
set_option maxRecDepth 65536 in
theorem w_args : argsFit about1.vm theMethod args0 = true := by decide +kernel
set_option maxRecDepth 65536 in
theorem w_heap : heapFits about1 = true := by decide +kernel
set_option maxRecDepth 65536 in
theorem w_runnable : about1.curStatus? = some .runnable := by decide +kernel
set_option maxRecDepth 65536 in
theorem w_alone : about1.alone = true := by decide +kernel
set_option maxRecDepth 65536 in
theorem w_named : about1.methodNamed? x = some theMethod := by decide +kernel
set_option maxRecDepth 65536 in
theorem w_hears : about1.hears theMethod below0 = true := by decide +kernel
set_option maxRecDepth 65536 in
theorem w_ripe : about1.ripe theMethod args0 below0 = true := by decide +kernel
theorem w_running : about1.status = .running := rfl
set_option maxRecDepth 65536 in
theorem w_room : about1.hasRoom e0.platform room_1 = true :=
  launch0.hasRoom_least _ room_1 (by decide +kernel) (by decide +kernel) (by decide +kernel) (by decide +kernel) (by decide +kernel) (by decide +kernel)
theorem allAtoms_all (ts : List Jvm.Cond) (a : Array Jvm.Value) (st : Jvm.State) : (allAtoms ts).before a st = ts.all (fun c => c.before a st) := by
  induction ts with
  | nil => rfl
  | cons c t ih =>
    show (Jvm.Cond.and c (allAtoms t)).before a st = _
    rw [Jvm.Cond.before_and, ih, List.all_cons]
def words1 : List Jvm.Cond := Jvm.Cond.code x code maxLocals ret :: tables_1
/-- a 'code' word, met by the world's own term for the bytes: nothing is compared byte by byte -/
theorem code_word {y : MethodName} {bytes : ByteArray} {mx : Nat} {rt : Option FieldType} {a : Array Value} {s : State} {m : MethodId} {meth : Method} {c : Code} (h1 : s.methodNamed? y = some m) (h2 : s.vm.method? m = some meth) (h3 : meth.code = some c) (h4 : c.code = bytes)
    (h5 : (c.maxLocals == mx && c.exceptionTable.isEmpty && decide (c.maxStack ≤ mostOperands) && decide (meth.sig.returnType = rt) && !meth.locks && decide (parseMethodDescriptor y.desc = some meth.sig)) = true) : (Jvm.Cond.code y bytes mx rt).before a s = true := by
  simp only [Bool.and_eq_true, beq_iff_eq, Bool.not_eq_true', decide_eq_true_eq] at h5
  obtain ⟨⟨⟨⟨⟨g1, g2⟩, g3⟩, g4⟩, g5⟩, g6⟩ := h5
  simp [Cond.before, Cond.holds, Cond.value, h1, h2, h3, h4, g1, g2, g3, g4, g5, g6]
def isCode : Jvm.Cond → Bool
  | .code _ _ _ _ => true
  | _ => false
theorem all_split {L : List Jvm.Cond} {P : Jvm.Cond → Bool} (h1 : L.all (fun c => isCode c || P c) = true) (h2 : ∀ c ∈ L.filter isCode, P c = true) : L.all P = true := by
  refine List.all_eq_true.mpr fun c hc => ?_
  have h := List.all_eq_true.mp h1 c hc
  rcases Bool.eq_false_or_eq_true (isCode c) with hi | hi
  · exact h2 c (List.mem_filter.mpr ⟨hc, hi⟩)
  · simpa [hi] using h
set_option maxRecDepth 65536 in
theorem w_c0 : (Jvm.Cond.code x code maxLocals ret).before args0 about1 = true := code_word (m := ⟨1, 1⟩) (meth := k1m1) (c := k1c1) (by decide +kernel) rfl rfl rfl (by decide +kernel)
set_option maxRecDepth 65536 in
theorem w_c1 : (Jvm.Cond.code ({ cls := "java/lang/String", name := "valueOf", desc := "(C)Ljava/lang/String;" } : Jvm.MethodName) jdk_42_method_139_code (1 : Nat) (Option.some (Jvm.ClassFile.FieldType.object "java/lang/String"))).before args0 about1 = true := code_word (m := ⟨7, 5⟩) (meth := k7m5) (c := k7c5) (by decide +kernel) rfl rfl rfl (by decide +kernel)
set_option maxRecDepth 65536 in
theorem w_c2 : (Jvm.Cond.code ({ cls := "java/lang/StringLatin1", name := "canEncode", desc := "(C)Z" } : Jvm.MethodName) jdk_43_method_3_code (1 : Nat) (Option.some Jvm.ClassFile.FieldType.boolean)).before args0 about1 = true := code_word (m := ⟨8, 1⟩) (meth := k8m1) (c := k8c1) (by decide +kernel) rfl rfl rfl (by decide +kernel)
set_option maxRecDepth 65536 in
theorem w_c3 : (Jvm.Cond.code ({ cls := "java/lang/StringLatin1", name := "toBytes", desc := "(C)[B" } : Jvm.MethodName) jdk_43_method_46_code (1 : Nat) (Option.some (Jvm.ClassFile.FieldType.array Jvm.ClassFile.FieldType.byte))).before args0 about1 = true := code_word (m := ⟨8, 3⟩) (meth := k8m3) (c := k8c3) (by decide +kernel) rfl rfl rfl (by decide +kernel)
set_option maxRecDepth 65536 in
theorem w_c4 : (Jvm.Cond.code ({ cls := "java/lang/String", name := "<init>", desc := "([BB)V" } : Jvm.MethodName) jdk_42_method_151_code (3 : Nat) (Option.none : Option Jvm.ClassFile.FieldType)).before args0 about1 = true := code_word (m := ⟨7, 9⟩) (meth := k7m9) (c := k7c9) (by decide +kernel) rfl rfl rfl (by decide +kernel)
set_option maxRecDepth 65536 in
theorem w_c5 : (Jvm.Cond.code ({ cls := "java/lang/Object", name := "<init>", desc := "()V" } : Jvm.MethodName) object_method_1_code (1 : Nat) (Option.none : Option Jvm.ClassFile.FieldType)).before args0 about1 = true := code_word (m := ⟨0, 0⟩) (meth := k0m0) (c := k0c0) (by decide +kernel) rfl rfl rfl (by decide +kernel)
set_option maxRecDepth 65536 in
theorem w_c6 : (Jvm.Cond.code ({ cls := "java/lang/String", name := "<init>", desc := "([C)V" } : Jvm.MethodName) jdk_42_method_3_code (2 : Nat) (Option.none : Option Jvm.ClassFile.FieldType)).before args0 about1 = true := code_word (m := ⟨7, 1⟩) (meth := k7m1) (c := k7c1) (by decide +kernel) rfl rfl rfl (by decide +kernel)
set_option maxRecDepth 65536 in
theorem w_c7 : (Jvm.Cond.code ({ cls := "java/lang/String", name := "<init>", desc := "([CIILjava/lang/Void;)V" } : Jvm.MethodName) jdk_42_method_149_code (6 : Nat) (Option.none : Option Jvm.ClassFile.FieldType)).before args0 about1 = true := code_word (m := ⟨7, 7⟩) (meth := k7m7) (c := k7c7) (by decide +kernel) rfl rfl rfl (by decide +kernel)
set_option maxRecDepth 65536 in
theorem w_c8 : (Jvm.Cond.code ({ cls := "java/lang/StringUTF16", name := "compress", desc := "([CII)[B" } : Jvm.MethodName) jdk_52_method_16_code (6 : Nat) (Option.some (Jvm.ClassFile.FieldType.array Jvm.ClassFile.FieldType.byte))).before args0 about1 = true := code_word (m := ⟨9, 2⟩) (meth := k9m2) (c := k9c2) (by decide +kernel) rfl rfl rfl (by decide +kernel)
set_option maxRecDepth 65536 in
theorem w_c9 : (Jvm.Cond.code ({ cls := "java/lang/StringUTF16", name := "compress", desc := "([CI[BII)I" } : Jvm.MethodName) jdk_52_method_21_code (7 : Nat) (Option.some Jvm.ClassFile.FieldType.int)).before args0 about1 = true := code_word (m := ⟨9, 3⟩) (meth := k9m3) (c := k9c3) (by decide +kernel) rfl rfl rfl (by decide +kernel)
set_option maxRecDepth 65536 in
theorem w_c10 : (Jvm.Cond.code ({ cls := "java/lang/StringUTF16", name := "coderFromArrayLen", desc := "([BI)B" } : Jvm.MethodName) jdk_52_method_15_code (2 : Nat) (Option.some Jvm.ClassFile.FieldType.byte)).before args0 about1 = true := code_word (m := ⟨9, 1⟩) (meth := k9m1) (c := k9c1) (by decide +kernel) rfl rfl rfl (by decide +kernel)
set_option maxRecDepth 65536 in
theorem w_c11 : (Jvm.Cond.code ({ cls := "com/example/coordinant/coordinant/Log$Rows", name := "<init>", desc := "(Ljava/lang/String;Ljava/lang/String;Ljava/lang/String;Z)V" } : Jvm.MethodName) prog_50_method_1_code (5 : Nat) (Option.none : Option Jvm.ClassFile.FieldType)).before args0 about1 = true := code_word (m := ⟨11, 0⟩) (meth := k11m0) (c := k11c0) (by decide +kernel) rfl rfl rfl (by decide +kernel)
set_option maxRecDepth 65536 in
theorem w_c12 : (Jvm.Cond.code ({ cls := "java/lang/Record", name := "<init>", desc := "()V" } : Jvm.MethodName) jdk_30_method_1_code (1 : Nat) (Option.none : Option Jvm.ClassFile.FieldType)).before args0 about1 = true := code_word (m := ⟨10, 0⟩) (meth := k10m0) (c := k10c0) (by decide +kernel) rfl rfl rfl (by decide +kernel)
set_option maxRecDepth 65536 in
theorem w_c13 : (Jvm.Cond.code ({ cls := "com/example/coordinant/coordinant/Log$Rows", name := "statement", desc := "(I)Ljava/lang/String;" } : Jvm.MethodName) prog_50_method_2_code (4 : Nat) (Option.some (Jvm.ClassFile.FieldType.object "java/lang/String"))).before args0 about1 = true := code_word (m := ⟨11, 1⟩) (meth := k11m1) (c := k11c1) (by decide +kernel) rfl rfl rfl (by decide +kernel)
set_option maxRecDepth 65536 in
theorem w_c14 : (Jvm.Cond.code ({ cls := "java/lang/StringBuilder", name := "<init>", desc := "(Ljava/lang/String;)V" } : Jvm.MethodName) jdk_67_method_3_code (2 : Nat) (Option.none : Option Jvm.ClassFile.FieldType)).before args0 about1 = true := code_word (m := ⟨14, 1⟩) (meth := k14m1) (c := k14c1) (by decide +kernel) rfl rfl rfl (by decide +kernel)
set_option maxRecDepth 65536 in
theorem w_c15 : (Jvm.Cond.code ({ cls := "java/lang/AbstractStringBuilder", name := "<init>", desc := "(Ljava/lang/String;)V" } : Jvm.MethodName) jdk_68_method_3_code (5 : Nat) (Option.none : Option Jvm.ClassFile.FieldType)).before args0 about1 = true := code_word (m := ⟨13, 1⟩) (meth := k13m1) (c := k13c1) (by decide +kernel) rfl rfl rfl (by decide +kernel)
set_option maxRecDepth 65536 in
theorem w_c16 : (Jvm.Cond.code ({ cls := "java/lang/String", name := "length", desc := "()I" } : Jvm.MethodName) jdk_42_method_54_code (1 : Nat) (Option.some Jvm.ClassFile.FieldType.int)).before args0 about1 = true := code_word (m := ⟨7, 3⟩) (meth := k7m3) (c := k7c3) (by decide +kernel) rfl rfl rfl (by decide +kernel)
set_option maxRecDepth 65536 in
theorem w_c17 : (Jvm.Cond.code ({ cls := "java/lang/String", name := "coder", desc := "()B" } : Jvm.MethodName) jdk_42_method_152_code (1 : Nat) (Option.some Jvm.ClassFile.FieldType.byte)).before args0 about1 = true := code_word (m := ⟨7, 10⟩) (meth := k7m10) (c := k7c10) (by decide +kernel) rfl rfl rfl (by decide +kernel)
set_option maxRecDepth 65536 in
theorem w_c18 : (Jvm.Cond.code ({ cls := "java/lang/StringBuilder", name := "append", desc := "(Ljava/lang/String;)Ljava/lang/AbstractStringBuilder;" } : Jvm.MethodName) jdk_67_method_80_code (2 : Nat) (Option.some (Jvm.ClassFile.FieldType.object "java/lang/AbstractStringBuilder"))).before args0 about1 = true := code_word (m := ⟨14, 4⟩) (meth := k14m4) (c := k14c4) (by decide +kernel) rfl rfl rfl (by decide +kernel)
set_option maxRecDepth 65536 in
theorem w_c19 : (Jvm.Cond.code ({ cls := "java/lang/StringBuilder", name := "append", desc := "(Ljava/lang/String;)Ljava/lang/StringBuilder;" } : Jvm.MethodName) jdk_67_method_7_code (2 : Nat) (Option.some (Jvm.ClassFile.FieldType.object "java/lang/StringBuilder"))).before args0 about1 = true := code_word (m := ⟨14, 2⟩) (meth := k14m2) (c := k14c2) (by decide +kernel) rfl rfl rfl (by decide +kernel)
set_option maxRecDepth 65536 in
theorem w_c20 : (Jvm.Cond.code ({ cls := "java/lang/AbstractStringBuilder", name := "append", desc := "(Ljava/lang/String;)Ljava/lang/AbstractStringBuilder;" } : Jvm.MethodName) jdk_68_method_22_code (3 : Nat) (Option.some (Jvm.ClassFile.FieldType.object "java/lang/AbstractStringBuilder"))).before args0 about1 = true := code_word (m := ⟨13, 4⟩) (meth := k13m4) (c := k13c4) (by decide +kernel) rfl rfl rfl (by decide +kernel)
set_option maxRecDepth 65536 in
theorem w_c21 : (Jvm.Cond.code ({ cls := "java/lang/AbstractStringBuilder", name := "ensureCapacityInternal", desc := "(I)V" } : Jvm.MethodName) jdk_68_method_9_code (3 : Nat) (Option.none : Option Jvm.ClassFile.FieldType)).before args0 about1 = true := code_word (m := ⟨13, 3⟩) (meth := k13m3) (c := k13c3) (by decide +kernel) rfl rfl rfl (by decide +kernel)
set_option maxRecDepth 65536 in
theorem w_c22 : (Jvm.Cond.code ({ cls := "java/lang/AbstractStringBuilder", name := "putStringAt", desc := "(ILjava/lang/String;)V" } : Jvm.MethodName) jdk_68_method_73_code (3 : Nat) (Option.none : Option Jvm.ClassFile.FieldType)).before args0 about1 = true := code_word (m := ⟨13, 8⟩) (meth := k13m8) (c := k13c8) (by decide +kernel) rfl rfl rfl (by decide +kernel)
set_option maxRecDepth 65536 in
theorem w_c23 : (Jvm.Cond.code ({ cls := "java/lang/AbstractStringBuilder", name := "inflateIfNeededFor", desc := "(Ljava/lang/String;)V" } : Jvm.MethodName) jdk_68_method_71_code (2 : Nat) (Option.none : Option Jvm.ClassFile.FieldType)).before args0 about1 = true := code_word (m := ⟨13, 7⟩) (meth := k13m7) (c := k13c7) (by decide +kernel) rfl rfl rfl (by decide +kernel)
set_option maxRecDepth 65536 in
theorem w_c24 : (Jvm.Cond.code ({ cls := "java/lang/String", name := "getBytes", desc := "([BIB)V" } : Jvm.MethodName) jdk_42_method_147_code (4 : Nat) (Option.none : Option Jvm.ClassFile.FieldType)).before args0 about1 = true := code_word (m := ⟨7, 6⟩) (meth := k7m6) (c := k7c6) (by decide +kernel) rfl rfl rfl (by decide +kernel)
set_option maxRecDepth 65536 in
theorem w_c25 : (Jvm.Cond.code ({ cls := "java/lang/StringBuilder", name := "toString", desc := "()Ljava/lang/String;" } : Jvm.MethodName) jdk_67_method_42_code (1 : Nat) (Option.some (Jvm.ClassFile.FieldType.object "java/lang/String"))).before args0 about1 = true := code_word (m := ⟨14, 3⟩) (meth := k14m3) (c := k14c3) (by decide +kernel) rfl rfl rfl (by decide +kernel)
set_option maxRecDepth 65536 in
theorem w_c26 : (Jvm.Cond.code ({ cls := "java/lang/String", name := "<init>", desc := "(Ljava/lang/StringBuilder;)V" } : Jvm.MethodName) jdk_42_method_53_code (2 : Nat) (Option.none : Option Jvm.ClassFile.FieldType)).before args0 about1 = true := code_word (m := ⟨7, 2⟩) (meth := k7m2) (c := k7c2) (by decide +kernel) rfl rfl rfl (by decide +kernel)
set_option maxRecDepth 65536 in
theorem w_c27 : (Jvm.Cond.code ({ cls := "java/lang/String", name := "<init>", desc := "(Ljava/lang/AbstractStringBuilder;Ljava/lang/Void;)V" } : Jvm.MethodName) jdk_42_method_150_code (5 : Nat) (Option.none : Option Jvm.ClassFile.FieldType)).before args0 about1 = true := code_word (m := ⟨7, 8⟩) (meth := k7m8) (c := k7c8) (by decide +kernel) rfl rfl rfl (by decide +kernel)
set_option maxRecDepth 65536 in
theorem w_c28 : (Jvm.Cond.code ({ cls := "java/lang/AbstractStringBuilder", name := "getValue", desc := "()[B" } : Jvm.MethodName) jdk_68_method_64_code (1 : Nat) (Option.some (Jvm.ClassFile.FieldType.array Jvm.ClassFile.FieldType.byte))).before args0 about1 = true := code_word (m := ⟨13, 5⟩) (meth := k13m5) (c := k13c5) (by decide +kernel) rfl rfl rfl (by decide +kernel)
set_option maxRecDepth 65536 in
theorem w_c29 : (Jvm.Cond.code ({ cls := "java/lang/StringBuilder", name := "length", desc := "()I" } : Jvm.MethodName) jdk_67_method_93_code (1 : Nat) (Option.some Jvm.ClassFile.FieldType.int)).before args0 about1 = true := code_word (m := ⟨14, 5⟩) (meth := k14m5) (c := k14c5) (by decide +kernel) rfl rfl rfl (by decide +kernel)
set_option maxRecDepth 65536 in
theorem w_c30 : (Jvm.Cond.code ({ cls := "java/lang/AbstractStringBuilder", name := "length", desc := "()I" } : Jvm.MethodName) jdk_68_method_6_code (1 : Nat) (Option.some Jvm.ClassFile.FieldType.int)).before args0 about1 = true := code_word (m := ⟨13, 2⟩) (meth := k13m2) (c := k13c2) (by decide +kernel) rfl rfl rfl (by decide +kernel)
set_option maxRecDepth 65536 in
theorem w_c31 : (Jvm.Cond.code ({ cls := "java/lang/AbstractStringBuilder", name := "isLatin1", desc := "()Z" } : Jvm.MethodName) jdk_68_method_68_code (1 : Nat) (Option.some Jvm.ClassFile.FieldType.boolean)).before args0 about1 = true := code_word (m := ⟨13, 6⟩) (meth := k13m6) (c := k13c6) (by decide +kernel) rfl rfl rfl (by decide +kernel)
set_option maxRecDepth 65536 in
theorem w_c32 : (Jvm.Cond.code ({ cls := "java/util/Arrays", name := "copyOfRange", desc := "([BII)[B" } : Jvm.MethodName) jdk_65_method_132_code (3 : Nat) (Option.some (Jvm.ClassFile.FieldType.array Jvm.ClassFile.FieldType.byte))).before args0 about1 = true := code_word (m := ⟨16, 2⟩) (meth := k16m2) (c := k16c2) (by decide +kernel) rfl rfl rfl (by decide +kernel)
set_option maxRecDepth 65536 in
theorem w_c33 : (Jvm.Cond.code ({ cls := "java/util/Arrays", name := "copyOfRangeByte", desc := "([BII)[B" } : Jvm.MethodName) jdk_65_method_133_code (5 : Nat) (Option.some (Jvm.ClassFile.FieldType.array Jvm.ClassFile.FieldType.byte))).before args0 about1 = true := code_word (m := ⟨16, 3⟩) (meth := k16m3) (c := k16c3) (by decide +kernel) rfl rfl rfl (by decide +kernel)
set_option maxRecDepth 65536 in
theorem w_c34 : (Jvm.Cond.code ({ cls := "java/util/Arrays", name := "checkLength", desc := "(II)V" } : Jvm.MethodName) jdk_65_method_131_code (2 : Nat) (Option.none : Option Jvm.ClassFile.FieldType)).before args0 about1 = true := code_word (m := ⟨16, 1⟩) (meth := k16m1) (c := k16c1) (by decide +kernel) rfl rfl rfl (by decide +kernel)
set_option maxRecDepth 65536 in
theorem w_c35 : (Jvm.Cond.code ({ cls := "java/lang/Math", name := "min", desc := "(II)I" } : Jvm.MethodName) jdk_29_method_69_code (2 : Nat) (Option.some Jvm.ClassFile.FieldType.int)).before args0 about1 = true := code_word (m := ⟨17, 1⟩) (meth := k17m1) (c := k17c1) (by decide +kernel) rfl rfl rfl (by decide +kernel)
set_option maxRecDepth 65536 in
theorem w_c36 : (Jvm.Cond.code ({ cls := "java/lang/String", name := "equals", desc := "(Ljava/lang/Object;)Z" } : Jvm.MethodName) jdk_42_method_66_code (3 : Nat) (Option.some Jvm.ClassFile.FieldType.boolean)).before args0 about1 = true := code_word (m := ⟨7, 4⟩) (meth := k7m4) (c := k7c4) (by decide +kernel) rfl rfl rfl (by decide +kernel)
set_option maxRecDepth 65536 in
theorem w_c37 : (Jvm.Cond.code ({ cls := "java/lang/StringLatin1", name := "equals", desc := "([B[B)Z" } : Jvm.MethodName) jdk_43_method_13_code (3 : Nat) (Option.some Jvm.ClassFile.FieldType.boolean)).before args0 about1 = true := code_word (m := ⟨8, 2⟩) (meth := k8m2) (c := k8c2) (by decide +kernel) rfl rfl rfl (by decide +kernel)
def codes1 : List Jvm.Cond := [Jvm.Cond.code x code maxLocals ret, Jvm.Cond.code ({ cls := "java/lang/String", name := "valueOf", desc := "(C)Ljava/lang/String;" } : Jvm.MethodName) jdk_42_method_139_code (1 : Nat) (Option.some (Jvm.ClassFile.FieldType.object "java/lang/String")), Jvm.Cond.code ({ cls := "java/lang/StringLatin1", name := "canEncode", desc := "(C)Z" } : Jvm.MethodName) jdk_43_method_3_code (1 : Nat) (Option.some Jvm.ClassFile.FieldType.boolean), Jvm.Cond.code ({ cls := "java/lang/StringLatin1", name := "toBytes", desc := "(C)[B" } : Jvm.MethodName) jdk_43_method_46_code (1 : Nat) (Option.some (Jvm.ClassFile.FieldType.array Jvm.ClassFile.FieldType.byte)), Jvm.Cond.code ({ cls := "java/lang/String", name := "<init>", desc := "([BB)V" } : Jvm.MethodName) jdk_42_method_151_code (3 : Nat) (Option.none : Option Jvm.ClassFile.FieldType), Jvm.Cond.code ({ cls := "java/lang/Object", name := "<init>", desc := "()V" } : Jvm.MethodName) object_method_1_code (1 : Nat) (Option.none : Option Jvm.ClassFile.FieldType), Jvm.Cond.code ({ cls := "java/lang/String", name := "<init>", desc := "([C)V" } : Jvm.MethodName) jdk_42_method_3_code (2 : Nat) (Option.none : Option Jvm.ClassFile.FieldType), Jvm.Cond.code ({ cls := "java/lang/String", name := "<init>", desc := "([CIILjava/lang/Void;)V" } : Jvm.MethodName) jdk_42_method_149_code (6 : Nat) (Option.none : Option Jvm.ClassFile.FieldType), Jvm.Cond.code ({ cls := "java/lang/StringUTF16", name := "compress", desc := "([CII)[B" } : Jvm.MethodName) jdk_52_method_16_code (6 : Nat) (Option.some (Jvm.ClassFile.FieldType.array Jvm.ClassFile.FieldType.byte)), Jvm.Cond.code ({ cls := "java/lang/StringUTF16", name := "compress", desc := "([CI[BII)I" } : Jvm.MethodName) jdk_52_method_21_code (7 : Nat) (Option.some Jvm.ClassFile.FieldType.int), Jvm.Cond.code ({ cls := "java/lang/StringUTF16", name := "coderFromArrayLen", desc := "([BI)B" } : Jvm.MethodName) jdk_52_method_15_code (2 : Nat) (Option.some Jvm.ClassFile.FieldType.byte), Jvm.Cond.code ({ cls := "com/example/coordinant/coordinant/Log$Rows", name := "<init>", desc := "(Ljava/lang/String;Ljava/lang/String;Ljava/lang/String;Z)V" } : Jvm.MethodName) prog_50_method_1_code (5 : Nat) (Option.none : Option Jvm.ClassFile.FieldType), Jvm.Cond.code ({ cls := "java/lang/Record", name := "<init>", desc := "()V" } : Jvm.MethodName) jdk_30_method_1_code (1 : Nat) (Option.none : Option Jvm.ClassFile.FieldType), Jvm.Cond.code ({ cls := "com/example/coordinant/coordinant/Log$Rows", name := "statement", desc := "(I)Ljava/lang/String;" } : Jvm.MethodName) prog_50_method_2_code (4 : Nat) (Option.some (Jvm.ClassFile.FieldType.object "java/lang/String")), Jvm.Cond.code ({ cls := "java/lang/StringBuilder", name := "<init>", desc := "(Ljava/lang/String;)V" } : Jvm.MethodName) jdk_67_method_3_code (2 : Nat) (Option.none : Option Jvm.ClassFile.FieldType), Jvm.Cond.code ({ cls := "java/lang/AbstractStringBuilder", name := "<init>", desc := "(Ljava/lang/String;)V" } : Jvm.MethodName) jdk_68_method_3_code (5 : Nat) (Option.none : Option Jvm.ClassFile.FieldType), Jvm.Cond.code ({ cls := "java/lang/String", name := "length", desc := "()I" } : Jvm.MethodName) jdk_42_method_54_code (1 : Nat) (Option.some Jvm.ClassFile.FieldType.int), Jvm.Cond.code ({ cls := "java/lang/String", name := "coder", desc := "()B" } : Jvm.MethodName) jdk_42_method_152_code (1 : Nat) (Option.some Jvm.ClassFile.FieldType.byte), Jvm.Cond.code ({ cls := "java/lang/StringBuilder", name := "append", desc := "(Ljava/lang/String;)Ljava/lang/AbstractStringBuilder;" } : Jvm.MethodName) jdk_67_method_80_code (2 : Nat) (Option.some (Jvm.ClassFile.FieldType.object "java/lang/AbstractStringBuilder")), Jvm.Cond.code ({ cls := "java/lang/StringBuilder", name := "append", desc := "(Ljava/lang/String;)Ljava/lang/StringBuilder;" } : Jvm.MethodName) jdk_67_method_7_code (2 : Nat) (Option.some (Jvm.ClassFile.FieldType.object "java/lang/StringBuilder")), Jvm.Cond.code ({ cls := "java/lang/AbstractStringBuilder", name := "append", desc := "(Ljava/lang/String;)Ljava/lang/AbstractStringBuilder;" } : Jvm.MethodName) jdk_68_method_22_code (3 : Nat) (Option.some (Jvm.ClassFile.FieldType.object "java/lang/AbstractStringBuilder")), Jvm.Cond.code ({ cls := "java/lang/AbstractStringBuilder", name := "ensureCapacityInternal", desc := "(I)V" } : Jvm.MethodName) jdk_68_method_9_code (3 : Nat) (Option.none : Option Jvm.ClassFile.FieldType), Jvm.Cond.code ({ cls := "java/lang/AbstractStringBuilder", name := "putStringAt", desc := "(ILjava/lang/String;)V" } : Jvm.MethodName) jdk_68_method_73_code (3 : Nat) (Option.none : Option Jvm.ClassFile.FieldType), Jvm.Cond.code ({ cls := "java/lang/AbstractStringBuilder", name := "inflateIfNeededFor", desc := "(Ljava/lang/String;)V" } : Jvm.MethodName) jdk_68_method_71_code (2 : Nat) (Option.none : Option Jvm.ClassFile.FieldType), Jvm.Cond.code ({ cls := "java/lang/String", name := "getBytes", desc := "([BIB)V" } : Jvm.MethodName) jdk_42_method_147_code (4 : Nat) (Option.none : Option Jvm.ClassFile.FieldType), Jvm.Cond.code ({ cls := "java/lang/StringBuilder", name := "toString", desc := "()Ljava/lang/String;" } : Jvm.MethodName) jdk_67_method_42_code (1 : Nat) (Option.some (Jvm.ClassFile.FieldType.object "java/lang/String")), Jvm.Cond.code ({ cls := "java/lang/String", name := "<init>", desc := "(Ljava/lang/StringBuilder;)V" } : Jvm.MethodName) jdk_42_method_53_code (2 : Nat) (Option.none : Option Jvm.ClassFile.FieldType), Jvm.Cond.code ({ cls := "java/lang/String", name := "<init>", desc := "(Ljava/lang/AbstractStringBuilder;Ljava/lang/Void;)V" } : Jvm.MethodName) jdk_42_method_150_code (5 : Nat) (Option.none : Option Jvm.ClassFile.FieldType), Jvm.Cond.code ({ cls := "java/lang/AbstractStringBuilder", name := "getValue", desc := "()[B" } : Jvm.MethodName) jdk_68_method_64_code (1 : Nat) (Option.some (Jvm.ClassFile.FieldType.array Jvm.ClassFile.FieldType.byte)), Jvm.Cond.code ({ cls := "java/lang/StringBuilder", name := "length", desc := "()I" } : Jvm.MethodName) jdk_67_method_93_code (1 : Nat) (Option.some Jvm.ClassFile.FieldType.int), Jvm.Cond.code ({ cls := "java/lang/AbstractStringBuilder", name := "length", desc := "()I" } : Jvm.MethodName) jdk_68_method_6_code (1 : Nat) (Option.some Jvm.ClassFile.FieldType.int), Jvm.Cond.code ({ cls := "java/lang/AbstractStringBuilder", name := "isLatin1", desc := "()Z" } : Jvm.MethodName) jdk_68_method_68_code (1 : Nat) (Option.some Jvm.ClassFile.FieldType.boolean), Jvm.Cond.code ({ cls := "java/util/Arrays", name := "copyOfRange", desc := "([BII)[B" } : Jvm.MethodName) jdk_65_method_132_code (3 : Nat) (Option.some (Jvm.ClassFile.FieldType.array Jvm.ClassFile.FieldType.byte)), Jvm.Cond.code ({ cls := "java/util/Arrays", name := "copyOfRangeByte", desc := "([BII)[B" } : Jvm.MethodName) jdk_65_method_133_code (5 : Nat) (Option.some (Jvm.ClassFile.FieldType.array Jvm.ClassFile.FieldType.byte)), Jvm.Cond.code ({ cls := "java/util/Arrays", name := "checkLength", desc := "(II)V" } : Jvm.MethodName) jdk_65_method_131_code (2 : Nat) (Option.none : Option Jvm.ClassFile.FieldType), Jvm.Cond.code ({ cls := "java/lang/Math", name := "min", desc := "(II)I" } : Jvm.MethodName) jdk_29_method_69_code (2 : Nat) (Option.some Jvm.ClassFile.FieldType.int), Jvm.Cond.code ({ cls := "java/lang/String", name := "equals", desc := "(Ljava/lang/Object;)Z" } : Jvm.MethodName) jdk_42_method_66_code (3 : Nat) (Option.some Jvm.ClassFile.FieldType.boolean), Jvm.Cond.code ({ cls := "java/lang/StringLatin1", name := "equals", desc := "([B[B)Z" } : Jvm.MethodName) jdk_43_method_13_code (3 : Nat) (Option.some Jvm.ClassFile.FieldType.boolean)]
set_option maxRecDepth 65536 in
theorem codes_eq : words1.filter isCode = codes1 := rfl
theorem w_codes : ∀ c ∈ words1.filter isCode, c.before args0 about1 = true := by
  rw [codes_eq]
  intro c hc
  simp only [codes1, List.mem_cons, List.not_mem_nil, or_false] at hc
  rcases hc with rfl | rfl | rfl | rfl | rfl | rfl | rfl | rfl | rfl | rfl | rfl | rfl | rfl | rfl | rfl | rfl | rfl | rfl | rfl | rfl | rfl | rfl | rfl | rfl | rfl | rfl | rfl | rfl | rfl | rfl | rfl | rfl | rfl | rfl | rfl | rfl | rfl | rfl
  · exact w_c0
  · exact w_c1
  · exact w_c2
  · exact w_c3
  · exact w_c4
  · exact w_c5
  · exact w_c6
  · exact w_c7
  · exact w_c8
  · exact w_c9
  · exact w_c10
  · exact w_c11
  · exact w_c12
  · exact w_c13
  · exact w_c14
  · exact w_c15
  · exact w_c16
  · exact w_c17
  · exact w_c18
  · exact w_c19
  · exact w_c20
  · exact w_c21
  · exact w_c22
  · exact w_c23
  · exact w_c24
  · exact w_c25
  · exact w_c26
  · exact w_c27
  · exact w_c28
  · exact w_c29
  · exact w_c30
  · exact w_c31
  · exact w_c32
  · exact w_c33
  · exact w_c34
  · exact w_c35
  · exact w_c36
  · exact w_c37
set_option maxRecDepth 65536 in
theorem w_t1 : (words1.take 24).all (fun c => isCode c || c.before args0 about1) = true := by decide +kernel
set_option maxRecDepth 65536 in
theorem w_t2 : ((words1.drop 24).take 24).all (fun c => isCode c || c.before args0 about1) = true := by decide +kernel
set_option maxRecDepth 65536 in
theorem w_t3 : (((words1.drop 24).drop 24).take 24).all (fun c => isCode c || c.before args0 about1) = true := by decide +kernel
set_option maxRecDepth 65536 in
theorem w_t4 : ((((words1.drop 24).drop 24).drop 24).take 24).all (fun c => isCode c || c.before args0 about1) = true := by decide +kernel
set_option maxRecDepth 65536 in
theorem w_t5 : (((((words1.drop 24).drop 24).drop 24).drop 24).take 24).all (fun c => isCode c || c.before args0 about1) = true := by decide +kernel
set_option maxRecDepth 65536 in
theorem w_t6 : ((((((words1.drop 24).drop 24).drop 24).drop 24).drop 24).take 24).all (fun c => isCode c || c.before args0 about1) = true := by decide +kernel
set_option maxRecDepth 65536 in
theorem w_t7 : (((((((words1.drop 24).drop 24).drop 24).drop 24).drop 24).drop 24).take 24).all (fun c => isCode c || c.before args0 about1) = true := by decide +kernel
set_option maxRecDepth 65536 in
theorem w_t8 : ((((((((words1.drop 24).drop 24).drop 24).drop 24).drop 24).drop 24).drop 24).take 24).all (fun c => isCode c || c.before args0 about1) = true := by decide +kernel
set_option maxRecDepth 65536 in
theorem w_t9 : ((((((((words1.drop 24).drop 24).drop 24).drop 24).drop 24).drop 24).drop 24).drop 24).all (fun c => isCode c || c.before args0 about1) = true := by decide +kernel
theorem w_tables : (allAtoms (Jvm.Cond.code x code maxLocals ret :: tables_1)).before args0 about1 = true := by
  rw [allAtoms_all]
  show words1.all (fun c => c.before args0 about1) = true
  refine all_split ?_ w_codes
  rw [← List.take_append_drop 24 words1, List.all_append, w_t1, ← List.take_append_drop 24 (words1.drop 24), List.all_append, w_t2, ← List.take_append_drop 24 ((words1.drop 24).drop 24), List.all_append, w_t3, ← List.take_append_drop 24 (((words1.drop 24).drop 24).drop 24), List.all_append, w_t4, ← List.take_append_drop 24 ((((words1.drop 24).drop 24).drop 24).drop 24), List.all_append, w_t5, ← List.take_append_drop 24 (((((words1.drop 24).drop 24).drop 24).drop 24).drop 24), List.all_append, w_t6, ← List.take_append_drop 24 ((((((words1.drop 24).drop 24).drop 24).drop 24).drop 24).drop 24), List.all_append, w_t7, ← List.take_append_drop 24 (((((((words1.drop 24).drop 24).drop 24).drop 24).drop 24).drop 24).drop 24), List.all_append, w_t8, w_t9]
  rfl
set_option maxRecDepth 65536 in
theorem w_rest : rest_1_c.before args0 about1 = true := by decide +kernel
set_option maxRecDepth 65536 in
theorem w_case : (Jvm.Cond.and given_1 narrow_1).before args0 about1 = true := by decide +kernel
set_option maxRecDepth 65536 in
theorem w_consts : constsHeld consts_1 about1 := Jvm.Lit.constsHeldB_iff.mp (by decide +kernel)
theorem w_applies : (headSpec (Jvm.Cond.code x code maxLocals ret :: tables_1) room_1).applies x e0.platform about1 = true :=
  (Spec.applies_iff w_frames).mpr ⟨w_running, w_runnable, w_alone, w_named, w_hears, w_ripe, w_room, w_tables⟩
theorem atStart : AtStart classFile x code maxLocals ret World_1 tables_1 room_1 Calls_1 rest_1 Pre_1 launch0 p0 e0 about1 theMethod args0 below0 :=
  ⟨lists_1, trivial, launch0.admits_env _ _ _, launch0.least_env, fairChoices_fair.cas, fairChoices_fair.clock, w_frames, w_args, w_heap, w_applies, ⟨w_consts, trivial⟩, w_rest, w_case⟩
end start1
theorem witness_1 : WitnessClaimed_1 := ⟨start1.p0, start1.e0, start1.about1, start1.theMethod, start1.args0, start1.below0, start1.atStart⟩
end Jvm.Pilot.@@N@@
