import JvmDerived
import JvmDerived.Pilot.@@N@@Statement
import JvmDerived.Pilot.@@N@@Code
set_option linter.unusedVariables false
set_option linter.unusedSimpArgs false
namespace Jvm.RoadKit
open Sem ClassFile Op Lib Jvm.Stand Jvm.Free Jvm.LawKit
section New
variable {p : Program} {l : Launch} {e : Env} {R : Room} {s : State} {m : MethodId} {args : Array Value} {below : List Frame} {meth : Method} {c : Code} {T : State} {locs : List Loc} {cells slots : Nat}
theorem retI (X : Stand p l e R s m args below meth c T locs cells slots) (hx : p.tables.exec = Jvm.exec) {pc : Nat} {Ls : Array Slot} {z : Int32} {rest : List Value} (hret : meth.sig.returnType = some .int) (hd : decode c.code pc = .ok (.ireturn, 1)) {fs : List Frame}
    (hl : ∀ (f : JFrame) (acts : List Action), f.method = m → f.locked = none → f.entered = [] → (doReturn e (T.setTop f) acts (some (.int z))).1 = T.setFrames fs) : Steps p.tables e below (T.setTop (mkF m pc Ls (.int z :: rest))) (T.setFrames fs) := by
  have hm' : T.vm.method? m = some meth := X.method'
  have hn : narrow .int (.int z) = .int z := rfl
  show Steps p.tables e below (T.setTop { method := m, pc := pc, locals := Ls, stack := _ :: rest, locked := none }) _
  jvm_step X.here [X.here.top, hx, hd, hm', hret, hn]
  first | (intro acts; rw [hl _ acts rfl rfl rfl]) | rw [hl _ _ rfl rfl rfl]
  exact Steps.refl _
end New
end Jvm.RoadKit
namespace Jvm.Pilot.@@N@@
open Jvm Jvm.ClassFile Sem Op Lib Jvm.Free Jvm.Stand Jvm.LawKit Jvm.RoadKit Bundle Jvm.Pilot.@@N@@.Jvm.D
/-- from the state F the walk ends as Q says (what it returns, the heap, the places written) -/
def Ends (p : Program) (e : Env) (below : List Frame) (s : State) (R : Room) (Q : Option Value → Heap → List Loc → Prop) (F : State) : Prop :=
  ∃ t o, Steps p.tables e below F t ∧ t.status = .running ∧ Ended t below o ∧ ∃ v L, o = .returned v ∧ Q v t.heap L ∧ FrameEnd s o t L R.cells R.slots
theorem Ends.of {p : Program} {e : Env} {below : List Frame} {s : State} {R : Room} {Q : Option Value → Heap → List Loc → Prop} {F F' : State} (h : ∀ t, Steps p.tables e below F' t → Steps p.tables e below F t) (k : Ends p e below s R Q F') : Ends p e below s R Q F := by
  obtain ⟨t, o, h1, r⟩ := k
  exact ⟨t, o, h t h1, r⟩
theorem Ends.st {p : Program} {e : Env} {below : List Frame} {s : State} {R : Room} {Q : Option Value → Heap → List Loc → Prop} {F F' : State} (h : Steps p.tables e below F F') (k : Ends p e below s R Q F') : Ends p e below s R Q F := Ends.of (fun _ q => h.trans q) k
theorem own_toInt {n : Nat} (h : n ≤ 100000) : (Int32.ofNat n).toInt = n := Int32.toInt_ofNat_of_lt (by omega)
theorem own_clamp {n : Nat} (h : n ≤ 100000) : (Int32.ofNat n).toNatClampNeg = n := by
  have e : (Int32.ofNat n).toNatClampNeg = (Int32.ofNat n).toInt.toNat := rfl
  rw [e, own_toInt h]
  omega
theorem own_nn {n : Nat} (h : n ≤ 100000) : ¬ Int32.ofNat n < (0 : Int32) := by
  rw [Int32.lt_iff_toInt_lt, own_toInt h]
  have : ((0 : Int32)).toInt = 0 := by decide
  omega
theorem own_ltN (i n : Nat) (h : i ≤ 100000) (h' : n ≤ 100000) : Int32.ofNat i < Int32.ofNat n ↔ i < n := by
  rw [Int32.lt_iff_toInt_lt, own_toInt h, own_toInt h']
  omega
theorem own_eqN (i n : Nat) (h : i ≤ 100000) (h' : n ≤ 100000) : Int32.ofNat i = Int32.ofNat n ↔ i = n := by
  constructor
  · intro q
    have := congrArg Int32.toInt q
    rw [own_toInt h, own_toInt h'] at this
    omega
  · intro q
    rw [q]
theorem own_add (a b : Nat) : Int32.ofNat a + Int32.ofNat b = Int32.ofNat (a + b) := (Int32.ofNat_add a b).symm
theorem own_sub (a b : Nat) (h : b ≤ a) (ha : a ≤ 100000) : Int32.ofNat a - Int32.ofNat b = Int32.ofNat (a - b) := by
  apply Int32.toInt_inj.mp
  have h1 := c_isub (Int32.ofNat a) (Int32.ofNat b)
  have h2 := rng32 (Int32.ofNat a - Int32.ofNat b)
  rw [own_toInt ha, own_toInt (by omega : b ≤ 100000)] at h1
  rw [own_toInt (by omega : a - b ≤ 100000)]
  omega
theorem own_sh0 (x : Int32) : x >>> ((0 : Int32) &&& 31) = x := by
  apply Int32.toInt_inj.mp
  rw [c_ishr x 0 0 (by decide)]
  simp
theorem own_shl0 (x : Int32) : x <<< ((0 : Int32) &&& 31) = x := by
  have h := shlm (x := x) (k := 0) (m := 1) (by decide)
  rw [h, Int32.mul_one]
theorem own_rg (n : Nat) (f : Nat → Int32) (i : Nat) (hi : i < n) (d : Value) : ((List.range n).map fun i => Value.int (f i)).getD i d = .int (f i) := by
  simp [List.getD_eq_getElem?_getD, hi]
theorem own_rg0 (n : Nat) (i : Nat) : ((List.range n).map fun _ => Value.int (0 : Int32)).getD i (.int 0) = .int 0 := by
  by_cases hi : i < n
  · simp [List.getD_eq_getElem?_getD, hi]
  · simp [List.getD_eq_getElem?_getD, hi]
theorem own_set (n : Nat) (f : Nat → Int32) (i : Nat) (x : Int32) : ((List.range n).map fun j => Value.int (f j)).set i (.int x) = (List.range n).map fun j => Value.int (if j = i then x else f j) := by
  apply List.ext_getElem
  · simp
  · intro m h1 h2
    simp only [List.getElem_set, List.getElem_map, List.getElem_range]
    by_cases e : i = m
    · rw [if_pos e, if_pos e.symm]
    · rw [if_neg e, if_neg (fun q => e q.symm)]
/-- an array of n places (bytes or chars) that hold f -/
def Ary (ty : FieldType) (Z : State) (h : Heap) (a : Addr) (n : Nat) (f : Nat → Int32) : Prop := n ≤ 100000 ∧ ∃ k, Arv Z h a k ty (Int32.ofNat n) ((List.range n).map fun i => Value.int (f i)) (.int 0)
theorem Ary.lt {ty : FieldType} {Z : State} {h : Heap} {a : Addr} {n : Nat} {f : Nat → Int32} (F : Ary ty Z h a n f) : a < h.size := by
  obtain ⟨-, k, V⟩ := F
  exact V.lt
theorem Ary.ext {ty : FieldType} {Z : State} {h h' : Heap} {a : Addr} {n : Nat} {f : Nat → Int32} (F : Ary ty Z h a n f) (E : Ext h h') : Ary ty Z h' a n f := by
  obtain ⟨hn, k, V⟩ := F
  exact ⟨hn, k, V.ext E⟩
theorem Ary.other {ty : FieldType} {Z : State} {h h' : Heap} {a b : Addr} {sl : Nat} {v : Value} {n : Nat} {f : Nat → Int32} (F : Ary ty Z h a n f) (W : Wr h h' b sl v) (q : a ≠ b) : Ary ty Z h' a n f := by
  obtain ⟨hn, k, V⟩ := F
  exact ⟨hn, k, V.other W q⟩
theorem Ary.keep {ty : FieldType} {Z : State} {h h' : Heap} {a : Addr} {ws : List Addr} {n : Nat} {f : Nat → Int32} (F : Ary ty Z h a n f) (K : Keep h h' ws) (q : a ∉ ws) : Ary ty Z h' a n f := by
  obtain ⟨hn, k, V⟩ := F
  exact ⟨hn, k, V.keep K q⟩
theorem Ary.new {ty : FieldType} {Z : State} {h : Heap} {a : Addr} {k : ClassId} {n : Nat} (A : Arr Z h a (newA k ty (Int32.ofNat n)) ty) (hn : n ≤ 100000) (hd : defaultValue ty = .int 0) : Ary ty Z h a n (fun _ => 0) := by
  have V := Arv.new A (own_nn hn)
  rw [hd] at V
  exact ⟨hn, k, V.pad (fun i => by rw [own_rg0]; rfl)⟩
theorem Ary.congr {ty : FieldType} {Z : State} {h : Heap} {a : Addr} {n : Nat} {f g : Nat → Int32} (F : Ary ty Z h a n f) (e : ∀ i, i < n → f i = g i) : Ary ty Z h a n g := by
  obtain ⟨hn, k, V⟩ := F
  have q : ((List.range n).map fun i => Value.int (f i)) = (List.range n).map fun i => Value.int (g i) := List.map_congr_left fun i hi => by rw [e i (List.mem_range.mp hi)]
  exact ⟨hn, k, q ▸ V⟩
theorem Ary.op {ty : FieldType} {Z : State} {h : Heap} {a : Addr} {n : Nat} {f : Nat → Int32} (F : Ary ty Z h a n f) : ∃ c : Cell, Arr Z h a c ty ∧ c.slots.size = n ∧ (∀ i, i < n → c.slots[i]? = some (.int (f i))) ∧
    ∀ (h' : Heap) (q x : Int32) (i : Nat), Wr h h' a q.toNatClampNeg (.int x) → q.toNatClampNeg = i → i < n → fits ty (.int x) = true → Ary ty Z h' a n (fun j => if j = i then x else f j) := by
  obtain ⟨hn, k, c, A, q, S, N, H, G⟩ := F
  have S' : c.slots.size = n := by rw [S, own_clamp hn]
  refine ⟨c, A, S', fun i hi => ?_, fun h' q' x i W hq hi hf => ⟨hn, k, ?_⟩⟩
  · rw [H i (by rw [S']; exact hi), own_rg n f i hi]
  · have V := Arv.set A q S N H G hf W i hq (by simp; exact hi)
    rw [own_set] at V
    exact V
theorem own_hin {c : Cell} {n i : Nat} {q : Int32} (S : c.slots.size = n) (e : q = Int32.ofNat i) (hi : i < n) (hn : n ≤ 100000) : ¬ (q < 0 ∨ c.slots.size ≤ q.toNatClampNeg) := by
  subst e
  rw [own_clamp (by omega), S]
  intro h
  exact h.elim (own_nn (by omega)) (by omega)
theorem own_hat {c : Cell} {n i : Nat} {q : Int32} {f : Nat → Int32} (H : ∀ i, i < n → c.slots[i]? = some (.int (f i))) (e : q = Int32.ofNat i) (hi : i < n) (hn : n ≤ 100000) : c.slots[q.toNatClampNeg]? = some (.int (f i)) := by
  subst e
  rw [own_clamp (by omega)]
  exact H i hi
theorem Ary.cpd {ty : FieldType} {Z : State} {h' : Heap} {b : Addr} {k' : ClassId} {n' nA j n i : Nat} {f g : Nat → Int32} (V : Arv Z h' b k' ty (Int32.ofNat n') (((List.range n').map fun x => Value.int (g x)).take (Int32.ofNat j).toNatClampNeg ++ (List.range (Int32.ofNat n).toNatClampNeg).map (fun x => ((List.range nA).map fun x => Value.int (f x)).getD ((Int32.ofNat i).toNatClampNeg + x) (.int 0)) ++ ((List.range n').map fun x => Value.int (g x)).drop ((Int32.ofNat j).toNatClampNeg + (Int32.ofNat n).toNatClampNeg)) (.int 0))
    (hn' : n' ≤ 100000) (h1 : i + n ≤ nA) (hA : nA ≤ 100000) (h2 : j + n ≤ n') : Ary ty Z h' b n' (fun x => if j ≤ x ∧ x < j + n then f (i + (x - j)) else g x) := by
  refine ⟨hn', k', ?_⟩
  rw [own_clamp (by omega : j ≤ 100000), own_clamp (by omega : n ≤ 100000), own_clamp (by omega : i ≤ 100000)] at V
  have e : (((List.range n').map fun x => Value.int (g x)).take j ++ (List.range n).map (fun x => ((List.range nA).map fun x => Value.int (f x)).getD (i + x) (.int 0)) ++ ((List.range n').map fun x => Value.int (g x)).drop (j + n)) = (List.range n').map fun x => Value.int (if j ≤ x ∧ x < j + n then f (i + (x - j)) else g x) := by
    have e2 : (List.range n).map (fun x => ((List.range nA).map fun x => Value.int (f x)).getD (i + x) (.int 0)) = (List.range n).map (fun x => Value.int (f (i + x))) := List.map_congr_left fun x hx => own_rg nA f (i + x) (by have := List.mem_range.mp hx; omega) _
    rw [e2]
    apply List.ext_getElem
    · simp
      omega
    · intro m h3 h4
      simp only [List.length_map, List.length_range] at h4
      by_cases q1 : m < j
      · rw [List.getElem_append_left (by simp; omega), List.getElem_append_left (by simp; omega)]
        simp only [List.getElem_take, List.getElem_map, List.getElem_range]
        rw [if_neg (by omega)]
      · by_cases q2 : m < j + n
        · rw [List.getElem_append_left (by simp; omega), List.getElem_append_right (by simp; omega)]
          simp only [List.getElem_map, List.getElem_range, List.length_take, List.length_map, List.length_range]
          rw [if_pos (by omega), show min j n' = j by omega]
        · rw [List.getElem_append_right (by simp; omega)]
          simp only [List.getElem_drop, List.getElem_map, List.getElem_range, List.length_append, List.length_take, List.length_map, List.length_range]
          rw [if_neg (by omega)]
          congr 2
          omega
  rw [e] at V
  exact V
theorem own_bb (x : Int32) : x.toInt8.toInt32.toInt8.toInt32 = x.toInt8.toInt32 := by
  rw [Int8.toInt8_toInt32]
theorem own_nar (x : Int32) : nar .byte x.toInt8.toInt32 = x.toInt8.toInt32 := own_bb x
/-- a String (coder 0) whose bytes are f -/
def Str (Z : State) (h : Heap) (a b : Addr) (n : Nat) (f : Nat → Int32) : Prop := Exa Z h a "java/lang/String" ∧ Fld Z h a "java/lang/String" "coder" "B" (.int (0 : Int32)) ∧ Fld Z h a "java/lang/String" "value" "[B" (.ref b) ∧ Ary .byte Z h b n f
theorem Str.ext {Z : State} {h h' : Heap} {a b : Addr} {n : Nat} {f : Nat → Int32} (F : Str Z h a b n f) (E : Ext h h') : Str Z h' a b n f := ⟨F.1.ext E, F.2.1.ext E, F.2.2.1.ext E, F.2.2.2.ext E⟩
theorem Str.keep {Z : State} {h h' : Heap} {a b : Addr} {n : Nat} {f : Nat → Int32} {ws : List Addr} (F : Str Z h a b n f) (K : Keep h h' ws) (q : a ∉ ws) (q' : b ∉ ws) : Str Z h' a b n f := ⟨F.1.keep K, F.2.1.keep K q, F.2.2.1.keep K q, F.2.2.2.keep K q'⟩
theorem Str.congr {Z : State} {h : Heap} {a b : Addr} {n : Nat} {f g : Nat → Int32} (F : Str Z h a b n f) (e : ∀ i, i < n → f i = g i) : Str Z h a b n g := ⟨F.1, F.2.1, F.2.2.1, F.2.2.2.congr e⟩
theorem own_same {Z : State} {a0 : Array Value} {x y z : MethodName} {C : String} (hz : z.cls = y.cls) (hy : y.cls ≠ "java/lang/invoke/MethodHandle" ∧ y.cls ≠ "java/lang/invoke/VarHandle") (wi : (Jvm.Cond.instanceMethod y).before a0 Z = true) (ws : (Jvm.Cond.selects C x z).before a0 Z = true) : (Jvm.Cond.sameMethod y.cls y.cls y.name y.desc).before a0 Z = true := by
  obtain ⟨mk, methM, hnamed, hmethM, -, -⟩ := Cond.instanceMethod_spec wi
  obtain ⟨c2, r2, m2, q1, q2, q3, q4, kP, hkP, hkPi⟩ := Cond.selects_spec ws
  have hf := State.methodFound?_of_named hnamed hy
  have hc := findClass_of_methodNamed hnamed
  have hc2 := findClass_of_methodNamed q3
  rw [hz] at hc2
  have e : mk.cls = m2.cls := Option.some.inj (hc.symm.trans hc2)
  rw [← e] at hkP
  simp [Cond.before, Cond.holds, Cond.value, hc, hf, hnamed, hkP, hkPi]
theorem own_psel {Z : State} {a0 : Array Value} {x y z : MethodName} {C : String} (hz : z.cls = y.cls) (hy : y.cls ≠ "java/lang/invoke/MethodHandle" ∧ y.cls ≠ "java/lang/invoke/VarHandle") (wi : (Jvm.Cond.instanceMethod y).before a0 Z = true) (wp : (Jvm.Cond.privateMethod y).before a0 Z = true) (ws : (Jvm.Cond.selects C x z).before a0 Z = true) : (Jvm.Cond.selects y.cls y y).before a0 Z = true := by
  obtain ⟨mk, methM, hnamed, hmethM, -, -⟩ := Cond.instanceMethod_spec wi
  obtain ⟨c2, r2, m2, q1, q2, q3, q4, kP, hkP, hkPi⟩ := Cond.selects_spec ws
  have hf := State.methodFound?_of_named hnamed hy
  have hc := findClass_of_methodNamed hnamed
  have hc2 := findClass_of_methodNamed q3
  rw [hz] at hc2
  have e : mk.cls = m2.cls := Option.some.inj (hc.symm.trans hc2)
  rw [← e] at hkP
  have hs : selectMethod {} Z.vm mk.cls mk = .method mk := selectMethod_private hmethM (Cond.privateMethod_at wp mk methM hnamed hmethM)
  simp [Cond.before, Cond.holds, Cond.value, hc, hf, hnamed, hs, hkP, hkPi]
theorem own_nf {s : State} {args : Array Value} {x y z : MethodName} {C : String} (hz : z.cls = y.cls) (ws : (Jvm.Cond.selects C x z).before args s = true) : NotFace s y := fun r0 h0 => by
  obtain ⟨c2, r2, m2, q1, q2, q3, q4, kP, hkP, hkPi⟩ := Cond.selects_spec ws
  have hc := findClass_of_methodNamed h0
  have hc2 := findClass_of_methodNamed q3
  rw [hz] at hc2
  have e : r0.cls = m2.cls := Option.some.inj (hc.symm.trans hc2)
  rw [e]
  exact ⟨kP, hkP, hkPi⟩
theorem own_decl {Z : State} {a0 : Array Value} {y : MethodName} {bytes : ByteArray} {ml : Nat} {rt : Option FieldType} (wi : (Jvm.Cond.instanceMethod y).before a0 Z = true) (wc : (Jvm.Cond.code y bytes ml rt).before a0 Z = true) : (Jvm.Cond.declares y).before a0 Z = true := by
  obtain ⟨mk, methM, hnamed, hmethM, hst, -⟩ := Cond.instanceMethod_spec wi
  obtain ⟨m2, cM, q1, -, -, -, -, -, -, hsig⟩ := Cond.code_spec hnamed wc
  cases hmethM.symm.trans q1
  simp [Cond.before, Cond.holds, Cond.value, hnamed, hmethM, hst, hsig]
theorem own_cap (k cap : Nat) (h : k ≤ cap) (hc : cap ≤ 100000) : ¬ (0 : Int32) < (Int32.ofNat k - (Int32.ofNat cap >>> ((0 : Int32) &&& 31))) := by
  rw [own_sh0, Int32.lt_iff_toInt_lt]
  have h1 := c_isub (Int32.ofNat k) (Int32.ofNat cap)
  have h2 := rng32 (Int32.ofNat k - Int32.ofNat cap)
  rw [own_toInt (by omega : k ≤ 100000), own_toInt hc] at h1
  have : ((0 : Int32)).toInt = 0 := by decide
  omega
theorem own_cfa (x : Int32) : (((x - x).toUInt32 >>> ((31 : Int32) &&& 31).toUInt32).toInt32).toInt8.toInt32 = (0 : Int32) := by
  rw [Int32.sub_self]
  decide
/-- a StringBuilder (coder 0) of capacity cap whose first n bytes are f's -/
def SBd (Z : State) (h : Heap) (a b : Addr) (cap n : Nat) (f : Nat → Int32) : Prop := Exa Z h a "java/lang/StringBuilder" ∧ Fld Z h a "java/lang/AbstractStringBuilder" "coder" "B" (.int (0 : Int32)) ∧ Fld Z h a "java/lang/AbstractStringBuilder" "count" "I" (.int (Int32.ofNat n)) ∧ Fld Z h a "java/lang/AbstractStringBuilder" "value" "[B" (.ref b) ∧ Ary .byte Z h b cap f ∧ n ≤ cap
theorem SBd.ext {Z : State} {h h' : Heap} {a b : Addr} {cap n : Nat} {f : Nat → Int32} (F : SBd Z h a b cap n f) (E : Ext h h') : SBd Z h' a b cap n f := ⟨F.1.ext E, F.2.1.ext E, F.2.2.1.ext E, F.2.2.2.1.ext E, F.2.2.2.2.1.ext E, F.2.2.2.2.2⟩
theorem SBd.keep {Z : State} {h h' : Heap} {a b : Addr} {cap n : Nat} {f : Nat → Int32} {ws : List Addr} (F : SBd Z h a b cap n f) (K : Keep h h' ws) (q : a ∉ ws) (q' : b ∉ ws) : SBd Z h' a b cap n f := ⟨F.1.keep K, F.2.1.keep K q, F.2.2.1.keep K q, F.2.2.2.1.keep K q, F.2.2.2.2.1.keep K q', F.2.2.2.2.2⟩
/-- the same, for a walk that may intern String constants -/
def EndsW (p : Program) (e : Env) (below : List Frame) (s : State) (R : Room) (Q : Option Value → Heap → List Loc → Prop) (F : State) : Prop :=
  ∃ t o, Steps p.tables e below F t ∧ t.status = .running ∧ Ended t below o ∧ ∃ v L, o = .returned v ∧ Q v t.heap L ∧ ReturnedEndW s o t L R.cells R.slots
theorem EndsW.of {p : Program} {e : Env} {below : List Frame} {s : State} {R : Room} {Q : Option Value → Heap → List Loc → Prop} {F F' : State} (h : ∀ t, Steps p.tables e below F' t → Steps p.tables e below F t) (k : EndsW p e below s R Q F') : EndsW p e below s R Q F := by
  obtain ⟨t, o, h1, r⟩ := k
  exact ⟨t, o, h t h1, r⟩
theorem EndsW.st {p : Program} {e : Env} {below : List Frame} {s : State} {R : Room} {Q : Option Value → Heap → List Loc → Prop} {F F' : State} (h : Steps p.tables e below F F') (k : EndsW p e below s R Q F') : EndsW p e below s R Q F := EndsW.of (fun _ q => h.trans q) k
def tf (t : List Int32) : Nat → Int32 := fun i => t.getD i 0
theorem tf_nil : (fun _ => (0 : Int32)) = tf [] := by
  funext i
  simp [tf]
theorem own_snoc (t : List Int32) (c : Int32) {n : Nat} (hn : n = t.length) {f : Nat → Int32} (hf : f = tf t) : (fun x => if x = n then c else f x) = tf (t ++ [c]) := by
  funext x
  subst hn hf
  simp only [tf, List.getD_eq_getElem?_getD]
  by_cases h : x = t.length
  · rw [if_pos h]
    subst h
    simp
  · rw [if_neg h]
    by_cases h2 : x < t.length
    · rw [List.getElem?_append_left h2]
    · rw [List.getElem?_append_right (by omega), List.getElem?_eq_none (by omega), List.getElem?_eq_none (by simp; omega)]
theorem own_ne2 {u v n k : Nat} {P P' : Prop} (hz : n ≤ u) (hl : u < k) (wh : (v < n ∧ P) ∨ (k ≤ v ∧ P')) : ¬ u = v := by
  rcases wh with ⟨r, -⟩ | ⟨r, -⟩ <;> omega
theorem tf_at (t r : List Int32) (k : Nat) : tf (t ++ r) (t.length + k) = r.getD k 0 := by
  simp only [tf, List.getD_eq_getElem?_getD]
  rw [List.getElem?_append_right (by omega), Nat.add_sub_cancel_left]
theorem SBd.snoc {Z : State} {h : Heap} {a b : Addr} {cap : Nat} {t : List Int32} {c d : Int32} (e : c = d) (F : SBd Z h a b cap (t.length + 1) (fun x => if x = t.length then c else tf t x)) : SBd Z h a b cap (t ++ [d]).length (tf (t ++ [d])) := by
  subst e
  rw [List.length_append, ← own_snoc t c rfl rfl]
  exact F
theorem SBd.tru {Z : State} {h : Heap} {a b : Addr} {cap : Nat} {t : List Int32} (F : SBd Z h a b cap (t.length + 4) (fun x => if x = t.length + 3 then (101 : Int32) else if x = t.length + 2 then (117 : Int32) else if x = t.length + 1 then (114 : Int32) else if x = t.length + 0 then (116 : Int32) else tf t x)) : SBd Z h a b cap (t ++ [116] ++ [114] ++ [117] ++ [101]).length (tf (t ++ [116] ++ [114] ++ [117] ++ [101])) := by
  have e := own_snoc (t ++ [116] ++ [114] ++ [117]) 101 (n := t.length + 3) (by simp) (own_snoc (t ++ [116] ++ [114]) 117 (n := t.length + 2) (by simp) (own_snoc (t ++ [116]) 114 (n := t.length + 1) (by simp) (own_snoc t 116 (n := t.length + 0) rfl rfl)))
  have hl : List.length (t ++ [116] ++ [114] ++ [117] ++ [101]) = t.length + 4 := by simp
  rw [← e, hl]
  exact F
theorem SBd.fal {Z : State} {h : Heap} {a b : Addr} {cap : Nat} {t : List Int32} (F : SBd Z h a b cap (t.length + 5) (fun x => if x = t.length + 4 then (101 : Int32) else if x = t.length + 3 then (115 : Int32) else if x = t.length + 2 then (108 : Int32) else if x = t.length + 1 then (97 : Int32) else if x = t.length + 0 then (102 : Int32) else tf t x)) : SBd Z h a b cap (t ++ [102] ++ [97] ++ [108] ++ [115] ++ [101]).length (tf (t ++ [102] ++ [97] ++ [108] ++ [115] ++ [101])) := by
  have e := own_snoc (t ++ [102] ++ [97] ++ [108] ++ [115]) 101 (n := t.length + 4) (by simp) (own_snoc (t ++ [102] ++ [97] ++ [108]) 115 (n := t.length + 3) (by simp) (own_snoc (t ++ [102] ++ [97]) 108 (n := t.length + 2) (by simp) (own_snoc (t ++ [102]) 97 (n := t.length + 1) (by simp) (own_snoc t 102 (n := t.length + 0) rfl rfl))))
  have hl : List.length (t ++ [102] ++ [97] ++ [108] ++ [115] ++ [101]) = t.length + 5 := by simp
  rw [← e, hl]
  exact F
/-- a JsonWriter whose text is t -/
def JWr (Z : State) (h : Heap) (w a b : Addr) (t : List Int32) (av : Int32) : Prop := Exa Z h w "com/example/tenantd/tenantd/server/JsonWriter" ∧ Fld Z h w "com/example/tenantd/tenantd/server/JsonWriter" "text" "Ljava/lang/StringBuilder;" (.ref a) ∧ Fld Z h w "com/example/tenantd/tenantd/server/JsonWriter" "afterValue" "Z" (.int av) ∧ SBd Z h a b 256 t.length (tf t)
theorem JWr.ext {Z : State} {h h' : Heap} {w a b : Addr} {t : List Int32} {av : Int32} (F : JWr Z h w a b t av) (E : Ext h h') : JWr Z h' w a b t av := ⟨F.1.ext E, F.2.1.ext E, F.2.2.1.ext E, F.2.2.2.ext E⟩
theorem JWr.keep {Z : State} {h h' : Heap} {w a b : Addr} {t : List Int32} {av : Int32} (F : JWr Z h w a b t av) (K : Keep h h' []) : JWr Z h' w a b t av := ⟨F.1.keep K, F.2.1.keep K nin0, F.2.2.1.keep K nin0, F.2.2.2.keep K nin0 nin0⟩
theorem own_m6 (x : Int32) : (x &&& (2147483647 : Int32)) % (6 : Int32) = 0 ∨ (x &&& (2147483647 : Int32)) % (6 : Int32) = 1 ∨ (x &&& (2147483647 : Int32)) % (6 : Int32) = 2 ∨ (x &&& (2147483647 : Int32)) % (6 : Int32) = 3 ∨ (x &&& (2147483647 : Int32)) % (6 : Int32) = 4 ∨ (x &&& (2147483647 : Int32)) % (6 : Int32) = 5 := by
  have h := c_mask x (2147483647 : Int32) 31 (by decide) (by decide)
  have h2 := (c_irem (x &&& (2147483647 : Int32)) (6 : Int32) 6 (by decide)).1 (by rw [h]; omega)
  have k : ∀ q : Int32, (((x &&& (2147483647 : Int32)) % (6 : Int32)).toInt = q.toInt) → (x &&& (2147483647 : Int32)) % (6 : Int32) = q := fun q e => Int32.toInt_inj.mp e
  have t0 := k 0
  have t1 := k 1
  have t2 := k 2
  have t3 := k 3
  have t4 := k 4
  have t5 := k 5
  rw [show (0 : Int32).toInt = 0 by decide] at t0
  rw [show (1 : Int32).toInt = 1 by decide] at t1
  rw [show (2 : Int32).toInt = 2 by decide] at t2
  rw [show (3 : Int32).toInt = 3 by decide] at t3
  rw [show (4 : Int32).toInt = 4 by decide] at t4
  rw [show (5 : Int32).toInt = 5 by decide] at t5
  generalize ((x &&& (2147483647 : Int32)) % (6 : Int32)).toInt = u at *
  rcases (by omega : u = 0 ∨ u = 1 ∨ u = 2 ∨ u = 3 ∨ u = 4 ∨ u = 5) with r | r | r | r | r | r
  · exact Or.inl (t0 r)
  · exact Or.inr (Or.inl (t1 r))
  · exact Or.inr (Or.inr (Or.inl (t2 r)))
  · exact Or.inr (Or.inr (Or.inr (Or.inl (t3 r))))
  · exact Or.inr (Or.inr (Or.inr (Or.inr (Or.inl (t4 r)))))
  · exact Or.inr (Or.inr (Or.inr (Or.inr (Or.inr (t5 r)))))
theorem own_a3 (x : Int32) : (x &&& (3 : Int32)) = 0 ∨ (x &&& (3 : Int32)) = 1 ∨ (x &&& (3 : Int32)) = 2 ∨ (x &&& (3 : Int32)) = 3 := by
  have h := c_mask x (3 : Int32) 2 (by decide) (by decide)
  have k : ∀ q : Int32, ((x &&& (3 : Int32)).toInt = q.toInt) → (x &&& (3 : Int32)) = q := fun q e => Int32.toInt_inj.mp e
  have t0 := k 0
  have t1 := k 1
  have t2 := k 2
  have t3 := k 3
  rw [show (0 : Int32).toInt = 0 by decide] at t0
  rw [show (1 : Int32).toInt = 1 by decide] at t1
  rw [show (2 : Int32).toInt = 2 by decide] at t2
  rw [show (3 : Int32).toInt = 3 by decide] at t3
  generalize (x &&& (3 : Int32)).toInt = u at *
  rcases (by omega : u = 0 ∨ u = 1 ∨ u = 2 ∨ u = 3) with r | r | r | r
  · exact Or.inl (t0 r)
  · exact Or.inr (Or.inl (t1 r))
  · exact Or.inr (Or.inr (Or.inl (t2 r)))
  · exact Or.inr (Or.inr (Or.inr (t3 r)))
theorem pd_0 : parseMethodDescriptor "()V" = some ⟨[], none⟩ := by decide +kernel
theorem pd_1 : parseMethodDescriptor "(I)V" = some ⟨[.int], none⟩ := by decide +kernel
theorem pd_2 : parseMethodDescriptor "()Lcom/example/tenantd/tenantd/server/JsonWriter;" = some ⟨[], some (.object "com/example/tenantd/tenantd/server/JsonWriter")⟩ := by decide +kernel
theorem pd_3 : parseMethodDescriptor "(C)Ljava/lang/StringBuilder;" = some ⟨[.char], some (.object "java/lang/StringBuilder")⟩ := by decide +kernel
theorem pd_4 : parseMethodDescriptor "(C)Ljava/lang/AbstractStringBuilder;" = some ⟨[.char], some (.object "java/lang/AbstractStringBuilder")⟩ := by decide +kernel
theorem pd_5 : parseMethodDescriptor "()Z" = some ⟨[], some .boolean⟩ := by decide +kernel
theorem pd_6 : parseMethodDescriptor "(C)Z" = some ⟨[.char], some .boolean⟩ := by decide +kernel
theorem pd_7 : parseMethodDescriptor "()Ljava/lang/String;" = some ⟨[], some (.object "java/lang/String")⟩ := by decide +kernel
theorem pd_8 : parseMethodDescriptor "(Ljava/lang/StringBuilder;)V" = some ⟨[(.object "java/lang/StringBuilder")], none⟩ := by decide +kernel
theorem pd_9 : parseMethodDescriptor "(Ljava/lang/AbstractStringBuilder;Ljava/lang/Void;)V" = some ⟨[(.object "java/lang/AbstractStringBuilder"), (.object "java/lang/Void")], none⟩ := by decide +kernel
theorem pd_10 : parseMethodDescriptor "()[B" = some ⟨[], some (.array .byte)⟩ := by decide +kernel
theorem pd_11 : parseMethodDescriptor "()I" = some ⟨[], some .int⟩ := by decide +kernel
theorem pd_12 : parseMethodDescriptor "([BII)[B" = some ⟨[(.array .byte), .int, .int], some (.array .byte)⟩ := by decide +kernel
theorem pd_13 : parseMethodDescriptor "(II)V" = some ⟨[.int, .int], none⟩ := by decide +kernel
theorem pd_14 : parseMethodDescriptor "(II)I" = some ⟨[.int, .int], some .int⟩ := by decide +kernel
theorem pd_15 : parseMethodDescriptor "(Ljava/lang/Object;ILjava/lang/Object;II)V" = some ⟨[(.object "java/lang/Object"), .int, (.object "java/lang/Object"), .int, .int], none⟩ := by decide +kernel
theorem pd_16 : parseMethodDescriptor "(Ljava/lang/Object;)Z" = some ⟨[(.object "java/lang/Object")], some .boolean⟩ := by decide +kernel
theorem pd_17 : parseMethodDescriptor "([B[B)Z" = some ⟨[(.array .byte), (.array .byte)], some .boolean⟩ := by decide +kernel
theorem pd_18 : parseMethodDescriptor "()B" = some ⟨[], some .byte⟩ := by decide +kernel
theorem pd_19 : parseMethodDescriptor "(Ljava/lang/String;IC)Z" = some ⟨[(.object "java/lang/String"), .int, .char], some .boolean⟩ := by decide +kernel
theorem pd_20 : parseMethodDescriptor "(I)C" = some ⟨[.int], some .char⟩ := by decide +kernel
theorem pd_21 : parseMethodDescriptor "([BI)C" = some ⟨[(.array .byte), .int], some .char⟩ := by decide +kernel
theorem pd_22 : parseMethodDescriptor "(IILjava/util/function/BiFunction;)I" = some ⟨[.int, .int, (.object "java/util/function/BiFunction")], some .int⟩ := by decide +kernel
theorem pd_23 : parseMethodDescriptor "(Z)Lcom/example/tenantd/tenantd/server/JsonWriter;" = some ⟨[.boolean], some (.object "com/example/tenantd/tenantd/server/JsonWriter")⟩ := by decide +kernel
theorem pd_24 : parseMethodDescriptor "(Z)Ljava/lang/StringBuilder;" = some ⟨[.boolean], some (.object "java/lang/StringBuilder")⟩ := by decide +kernel
theorem pd_25 : parseMethodDescriptor "(Z)Ljava/lang/AbstractStringBuilder;" = some ⟨[.boolean], some (.object "java/lang/AbstractStringBuilder")⟩ := by decide +kernel
theorem d25_0 : decode jdk_42_method_152_code 0 = .ok (.getstatic 38, 3) := by decide +kernel
theorem d25_3 : decode jdk_42_method_152_code 3 = .ok (.ifCond .eq 10, 3) := by decide +kernel
theorem d25_6 : decode jdk_42_method_152_code 6 = .ok (.aload_n 0, 1) := by decide +kernel
theorem d25_7 : decode jdk_42_method_152_code 7 = .ok (.getfield 15, 3) := by decide +kernel
theorem d25_10 : decode jdk_42_method_152_code 10 = .ok (.goto 4, 3) := by decide +kernel
theorem d25_13 : decode jdk_42_method_152_code 13 = .ok (.iconst 1, 1) := by decide +kernel
theorem d25_14 : decode jdk_42_method_152_code 14 = .ok (.ireturn, 1) := by decide +kernel
theorem pn_0 : plainName "java/lang/String" = true := by first | (simp [plainName, overriddenIn]; done) | decide +kernel
def Q_str_coder (Z : State) (a1 : Addr) (cs : Int32) (h0 : Heap) (n0 : Nat) (v : Option Value) (h : Heap) (L : List Loc) : Prop := v = some (.int (0 : Int32)) ∧ Fr n0 L ∧ h = h0
set_option maxRecDepth 65536 in
set_option maxHeartbeats 40000000 in
theorem str_coder (l : Launch) (Z : State) (a0 : Array Value) (hw : ∀ d ∈ tables_1, d.before a0 Z = true) (ws : List Jvm.Cond) (a1 : Addr) (cs : Int32) (h0 : Heap) (n0 : Nat) (Z0 : n0 ≤ h0.size) (S0 : Sta Z Z.heap "java/lang/String" "COMPACT_STRINGS" "Z" (.int cs)) (hcs : ¬ cs = (0 : Int32)) (O : Old Z n0 h0) (F_c : Fld Z h0 a1 "java/lang/String" "coder" "B" (.int (0 : Int32))) :
    MetFree l (⟨"java/lang/String", "coder", "()B"⟩ : MethodName) (head1 (Jvm.Cond.code (⟨"java/lang/String", "coder", "()B"⟩ : MethodName) jdk_42_method_152_code 1 (some .byte) :: ws) ({ frames := 0, cells := 0, slots := 0, locals := 0 } : Room)) (fun a U => a = #[(.ref a1)] ∧ Z.Warmed39 U.vm ∧ U.heap = h0) (fun _ _ _ _ _ => True) (fun _ U o U' => ∃ v L, o = .returned v ∧ Q_str_coder Z a1 cs h0 n0 v U'.heap L ∧ FrameEnd U o U' L ({ frames := 0, cells := 0, slots := 0, locals := 0 } : Room).cells ({ frames := 0, cells := 0, slots := 0, locals := 0 } : Room).slots) := by
  refine MetFree.of_bodySF (plainFor_of_name pn_0) hisR ?_
  intro p e s m args below meth c s₁ Bd hml0 hP hK
  obtain ⟨rfl, hZ, hh⟩ := hP
  have hx := Bd.exec
  have hby := Bd.bytes
  have hml : c.maxLocals = 1 := hml0
  have hown : s.vm.findClass "java/lang/String" = some m.cls := findClass_of_methodNamed Bd.named
  have hnm := (name_of_methodNamed Bd.named Bd.method).1
  have X0 : Stand p l e ({ frames := 0, cells := 0, slots := 0, locals := 0 } : Room) s m #[(.ref a1)] below meth c s₁ [] 0 0 := Stand.of_body Bd
  have e0 : s₁.heap = h0 := by rw [← hh, Bd.state]; rfl
  have N0 := Fr.nil n0
  have eF : entryFrame m #[(.ref a1)] 1 = mkF m 0 #[.val (.ref a1)] [] := by first | (simp [entryFrame, mkF, argsToLocals, Value.category]; done) | rfl
  show Ends p e below s ({ frames := 0, cells := 0, slots := 0, locals := 0 } : Room) (Q_str_coder Z a1 cs h0 n0) (s₁.setTop (entryFrame m #[(.ref a1)] 1))
  rw [eF]
  obtain ⟨T1, X1, e1, st1⟩ := getS2 X0 hx hZ hown (host := "") (Or.inl (hw _ (List.mem_of_getElem? (i := 130) rfl))) Via.refl e0 (S0.ext O.2) (g := (mkF m 0 #[.val (.ref a1)] [])) rfl (hb hby d25_0)
  refine Ends.of st1 ?_
  refine Ends.of (F' := T1.setTop (mkF m 7 #[.val (.ref a1)] [(.ref a1)])) (fun _ kt => ?_) ?_
  · show Steps p.tables e below (T1.setTop (mkF m 3 #[.val (.ref a1)] [(.int cs)])) _
    refine XS.ifNo X1.here hx rfl (hb hby d25_3) rfl ((if0 _ _).trans (feq hcs).1) ?_
    show Steps p.tables e below (T1.setTop (mkF m 6 #[.val (.ref a1)] [])) _
    refine XS.aloadN X1.here hx rfl (hb hby d25_6) rfl rfl ?_
    exact kt
  obtain ⟨T2, X2, e2, st2⟩ := getF X1 hx hZ hown (host := "") (Or.inl (hw _ (List.mem_of_getElem? (i := 99) rfl))) Via.refl e1 F_c (g := (mkF m 7 #[.val (.ref a1)] [(.ref a1)])) rfl rfl (hb hby d25_7)
  refine Ends.of st2 ?_
  refine Ends.of (F' := T2.setTop (mkF m 14 #[.val (.ref a1)] [(.int (0 : Int32))])) (fun _ kt => ?_) ?_
  · show Steps p.tables e below (T2.setTop (mkF m 10 #[.val (.ref a1)] [(.int (0 : Int32))])) _
    refine XS.goto X2.here hx rfl (pc0 := 10) (pc' := 14) rfl (hb hby d25_10) (by decide) (by decide) ?_
    exact kt
  obtain ⟨fs, hr, hrun, hended, hW, hsame⟩ := X2.leave (v := some (.int (0 : Int32))) (fun h => by rw [Bd.returns] at h; cases h)
  exact ⟨_, _, retN X2 hx (t := .byte) Bd.returns (by simp) (hb hby d25_14) hr, hrun, hended, _, _, rfl, ⟨rfl, N0, e2⟩, ⟨_, rfl⟩, hW, hsame.mono (by decide) (by decide)⟩
theorem d24_0 : decode jdk_42_method_54_code 0 = .ok (.aload_n 0, 1) := by decide +kernel
theorem d24_1 : decode jdk_42_method_54_code 1 = .ok (.getfield 9, 3) := by decide +kernel
theorem d24_4 : decode jdk_42_method_54_code 4 = .ok (.arraylength, 1) := by decide +kernel
theorem d24_5 : decode jdk_42_method_54_code 5 = .ok (.aload_n 0, 1) := by decide +kernel
theorem d24_6 : decode jdk_42_method_54_code 6 = .ok (.invokevirtual 335, 3) := by decide +kernel
theorem d24_9 : decode jdk_42_method_54_code 9 = .ok (.ishr, 1) := by decide +kernel
theorem d24_10 : decode jdk_42_method_54_code 10 = .ok (.ireturn, 1) := by decide +kernel
def Q_str_length (Z : State) (a1 : Addr) (b : Addr) (n : Nat) (f : Nat → Int32) (cs : Int32) (h0 : Heap) (n0 : Nat) (v : Option Value) (h : Heap) (L : List Loc) : Prop := v = some (.int (Int32.ofNat n)) ∧ Fr n0 L ∧ h = h0
set_option maxRecDepth 65536 in
set_option maxHeartbeats 40000000 in
theorem str_length (l : Launch) (Z : State) (a0 : Array Value) (hw : ∀ d ∈ tables_1, d.before a0 Z = true) (ws : List Jvm.Cond) (a1 : Addr) (b : Addr) (n : Nat) (f : Nat → Int32) (cs : Int32) (h0 : Heap) (n0 : Nat) (Z0 : n0 ≤ h0.size) (S0 : Sta Z Z.heap "java/lang/String" "COMPACT_STRINGS" "Z" (.int cs)) (hcs : ¬ cs = (0 : Int32)) (O : Old Z n0 h0) (F : Str Z h0 a1 b n f) :
    MetFree l (⟨"java/lang/String", "length", "()I"⟩ : MethodName) (head1 (Jvm.Cond.code (⟨"java/lang/String", "length", "()I"⟩ : MethodName) jdk_42_method_54_code 1 (some .int) :: ws) ({ frames := 1, cells := 0, slots := 0, locals := 13 } : Room)) (fun a U => a = #[(.ref a1)] ∧ Z.Warmed39 U.vm ∧ U.heap = h0) (fun _ _ _ _ _ => True) (fun _ U o U' => ∃ v L, o = .returned v ∧ Q_str_length Z a1 b n f cs h0 n0 v U'.heap L ∧ FrameEnd U o U' L ({ frames := 1, cells := 0, slots := 0, locals := 13 } : Room).cells ({ frames := 1, cells := 0, slots := 0, locals := 13 } : Room).slots) := by
  refine MetFree.of_bodySF (plainFor_of_name pn_0) hisR ?_
  intro p e s m args below meth c s₁ Bd hml0 hP hK
  obtain ⟨rfl, hZ, hh⟩ := hP
  have hx := Bd.exec
  have hby := Bd.bytes
  have hml : c.maxLocals = 1 := hml0
  have hown : s.vm.findClass "java/lang/String" = some m.cls := findClass_of_methodNamed Bd.named
  have hnm := (name_of_methodNamed Bd.named Bd.method).1
  have X0 : Stand p l e ({ frames := 1, cells := 0, slots := 0, locals := 13 } : Room) s m #[(.ref a1)] below meth c s₁ [] 0 0 := Stand.of_body Bd
  have e0 : s₁.heap = h0 := by rw [← hh, Bd.state]; rfl
  have N0 := Fr.nil n0
  have eF : entryFrame m #[(.ref a1)] 1 = mkF m 0 #[.val (.ref a1)] [] := by first | (simp [entryFrame, mkF, argsToLocals, Value.category]; done) | rfl
  show Ends p e below s ({ frames := 1, cells := 0, slots := 0, locals := 13 } : Room) (Q_str_length Z a1 b n f cs h0 n0) (s₁.setTop (entryFrame m #[(.ref a1)] 1))
  rw [eF]
  obtain ⟨cb, Ab, Sb, Hb, -⟩ := F.2.2.2.op
  refine Ends.of (F' := s₁.setTop (mkF m 1 #[.val (.ref a1)] [(.ref a1)])) (fun _ kt => ?_) ?_
  · show Steps p.tables e below (s₁.setTop (mkF m 0 #[.val (.ref a1)] [])) _
    refine XS.aloadN X0.here hx rfl (hb hby d24_0) rfl rfl ?_
    exact kt
  obtain ⟨T3, X3, e3, st3⟩ := getF X0 hx hZ hown (host := "") (Or.inl (hw _ (List.mem_of_getElem? (i := 119) rfl))) Via.refl e0 F.2.2.1 (g := (mkF m 1 #[.val (.ref a1)] [(.ref a1)])) rfl rfl (hb hby d24_1)
  refine Ends.of st3 ?_
  refine Ends.of (F' := T3.setTop (mkF m 6 #[.val (.ref a1)] [(.ref a1), (.int (Int32.ofNat n))])) (fun _ kt => ?_) ?_
  · show Steps p.tables e below (T3.setTop (mkF m 4 #[.val (.ref a1)] [(.ref b)])) _
    refine X3.arraylength hx (by rw [e3]; exact Ab.1) (State.isArrayOf_alike hZ.alike Ab.2.1) (g := (mkF m 4 #[.val (.ref a1)] [(.ref b)])) rfl rfl (hb hby d24_4) _ ?_
    rw [Sb]
    show Steps p.tables e below (T3.setTop (mkF m 5 #[.val (.ref a1)] [(.int (Int32.ofNat n))])) _
    refine XS.aloadN X3.here hx rfl (hb hby d24_5) rfl rfl ?_
    exact kt
  obtain ⟨cq4, kq4, q4a, q4b, q4c⟩ := isOf hZ e3 F.1
  obtain ⟨_, _, ⟨T4, L4, k4, n4⟩, -, X4, ⟨Lc4, hQ4, l4, y4, z4⟩, st4⟩ := X3.virtualBack hx (y := (⟨"java/lang/String", "coder", "()B"⟩ : MethodName)) (z := (⟨"java/lang/String", "coder", "()B"⟩ : MethodName)) hown (mvT hZ (hw _ (List.mem_of_getElem? (i := 139) rfl))) (mvT hZ (hw _ (List.mem_of_getElem? (i := 140) rfl))) (notFace_of_selects (args := #[]) (mvT hZ (hw _ (List.mem_of_getElem? (i := 142) rfl)))) (mvT hZ (hw _ (List.mem_of_getElem? (i := 142) rfl))) (mvT hZ (hw _ (List.mem_of_getElem? (i := 141) rfl))) (by decide) (backOf (W := 1) (str_coder l Z a0 hw [] a1 cs h0 n0 Z0 S0 hcs O F.2.1) hZ (hw _ (List.mem_of_getElem? (i := 143) rfl)) (hw _ (List.mem_of_getElem? (i := 24) rfl)) (by decide) (by decide)) q4a q4c (g := (mkF m 6 #[.val (.ref a1)] [(.ref a1), (.int (Int32.ofNat n))])) rfl (by rw [hml]; rfl) (Steps.refl _) (argsL := []) (rest := [(.int (Int32.ofNat n))]) (lenOf pd_18 rfl) rfl (by show 2 * 0 + _ ≤ _; exact Nat.le_of_eq rfl) (hb hby d24_6) (fun _ _ => ⟨rfl, e3, (by decide : 0 + 0 ≤ _), (by decide : 0 + 0 ≤ _)⟩)
  dsimp only [Pt.U, Pt.locs, Pt.cells, Pt.slots] at X4 l4 y4 z4 st4 hQ4
  subst l4 y4 z4
  obtain ⟨rfl, N4q, e4⟩ := hQ4
  have N4 := Fr.app N0 N4q
  refine Ends.st st4 ?_
  refine Ends.of (F' := T4.setTop (mkF m 10 #[.val (.ref a1)] [(.int ((Int32.ofNat n) >>> ((0 : Int32) &&& 31)))])) (fun _ kt => ?_) ?_
  · show Steps p.tables e below (T4.setTop (mkF m 9 #[.val (.ref a1)] [(.int (0 : Int32)), (.int (Int32.ofNat n))])) _
    refine XS.ishr X4.here hx rfl (hb hby d24_9) rfl ?_
    exact kt
  obtain ⟨fs, hr, hrun, hended, hW, hsame⟩ := X4.leave (v := some (.int ((Int32.ofNat n) >>> ((0 : Int32) &&& 31)))) (fun h => by rw [Bd.returns] at h; cases h)
  exact ⟨_, _, retI X4 hx Bd.returns (hb hby d24_10) hr, hrun, hended, _, _, rfl, ⟨by rw [own_sh0], N4, e4⟩, ⟨_, rfl⟩, hW, hsame.mono (by decide) (by decide)⟩
theorem d10_0 : decode jdk_43_method_3_code 0 = .ok (.iload_n 0, 1) := by decide +kernel
theorem d10_1 : decode jdk_43_method_3_code 1 = .ok (.sipush 255, 3) := by decide +kernel
theorem d10_4 : decode jdk_43_method_3_code 4 = .ok (.if_icmp .gt 7, 3) := by decide +kernel
theorem d10_7 : decode jdk_43_method_3_code 7 = .ok (.iconst 1, 1) := by decide +kernel
theorem d10_8 : decode jdk_43_method_3_code 8 = .ok (.goto 4, 3) := by decide +kernel
theorem d10_11 : decode jdk_43_method_3_code 11 = .ok (.iconst 0, 1) := by decide +kernel
theorem d10_12 : decode jdk_43_method_3_code 12 = .ok (.ireturn, 1) := by decide +kernel
theorem pn_1 : plainName "java/lang/StringLatin1" = true := by first | (simp [plainName, overriddenIn]; done) | decide +kernel
def Q_lat_can (Z : State) (p1 : Int32) (h0 : Heap) (n0 : Nat) (v : Option Value) (h : Heap) (L : List Loc) : Prop := v = some (.int (1 : Int32)) ∧ Fr n0 L ∧ h = h0
set_option maxRecDepth 65536 in
set_option maxHeartbeats 40000000 in
theorem lat_can (l : Launch) (Z : State) (a0 : Array Value) (hw : ∀ d ∈ tables_1, d.before a0 Z = true) (ws : List Jvm.Cond) (p1 : Int32) (h0 : Heap) (n0 : Nat) (Z0 : n0 ≤ h0.size) (hp : ¬ (255 : Int32) < p1) :
    MetFree l (⟨"java/lang/StringLatin1", "canEncode", "(C)Z"⟩ : MethodName) (head1 (Jvm.Cond.code (⟨"java/lang/StringLatin1", "canEncode", "(C)Z"⟩ : MethodName) jdk_43_method_3_code 1 (some .boolean) :: ws) ({ frames := 0, cells := 0, slots := 0, locals := 0 } : Room)) (fun a U => a = #[(.int p1)] ∧ Z.Warmed39 U.vm ∧ U.heap = h0) (fun _ _ _ _ _ => True) (fun _ U o U' => ∃ v L, o = .returned v ∧ Q_lat_can Z p1 h0 n0 v U'.heap L ∧ FrameEnd U o U' L ({ frames := 0, cells := 0, slots := 0, locals := 0 } : Room).cells ({ frames := 0, cells := 0, slots := 0, locals := 0 } : Room).slots) := by
  refine MetFree.of_bodySF (plainFor_of_name pn_1) hisR ?_
  intro p e s m args below meth c s₁ Bd hml0 hP hK
  obtain ⟨rfl, hZ, hh⟩ := hP
  have hx := Bd.exec
  have hby := Bd.bytes
  have hml : c.maxLocals = 1 := hml0
  have hown : s.vm.findClass "java/lang/StringLatin1" = some m.cls := findClass_of_methodNamed Bd.named
  have hnm := (name_of_methodNamed Bd.named Bd.method).1
  have X0 : Stand p l e ({ frames := 0, cells := 0, slots := 0, locals := 0 } : Room) s m #[(.int p1)] below meth c s₁ [] 0 0 := Stand.of_body Bd
  have e0 : s₁.heap = h0 := by rw [← hh, Bd.state]; rfl
  have N0 := Fr.nil n0
  have eF : entryFrame m #[(.int p1)] 1 = mkF m 0 #[.val (.int p1)] [] := by first | (simp [entryFrame, mkF, argsToLocals, Value.category]; done) | rfl
  show Ends p e below s ({ frames := 0, cells := 0, slots := 0, locals := 0 } : Room) (Q_lat_can Z p1 h0 n0) (s₁.setTop (entryFrame m #[(.int p1)] 1))
  rw [eF]
  refine Ends.of (F' := s₁.setTop (mkF m 12 #[.val (.int p1)] [(.int (1 : Int32))])) (fun _ kt => ?_) ?_
  · show Steps p.tables e below (s₁.setTop (mkF m 0 #[.val (.int p1)] [])) _
    refine XS.iloadN X0.here hx rfl (hb hby d10_0) rfl ?_
    show Steps p.tables e below (s₁.setTop (mkF m 1 #[.val (.int p1)] [(.int p1)])) _
    refine XS.sipush X0.here hx rfl (hb hby d10_1) ?_
    show Steps p.tables e below (s₁.setTop (mkF m 4 #[.val (.int p1)] [(.int (255 : Int32)), (.int p1)])) _
    refine XS.icmpNo X0.here hx rfl (hb hby d10_4) rfl (flt hp).2.2.1 ?_
    show Steps p.tables e below (s₁.setTop (mkF m 7 #[.val (.int p1)] [])) _
    refine XS.iconst X0.here hx rfl (hb hby d10_7) ?_
    show Steps p.tables e below (s₁.setTop (mkF m 8 #[.val (.int p1)] [(.int (1 : Int32))])) _
    refine XS.goto X0.here hx rfl (pc0 := 8) (pc' := 12) rfl (hb hby d10_8) (by decide) (by decide) ?_
    exact kt
  obtain ⟨fs, hr, hrun, hended, hW, hsame⟩ := X0.leave (v := some (.int (1 : Int32))) (fun h => by rw [Bd.returns] at h; cases h)
  exact ⟨_, _, retN X0 hx (t := .boolean) Bd.returns (by simp) (hb hby d10_12) hr, hrun, hended, _, _, rfl, ⟨rfl, N0, e0⟩, ⟨_, rfl⟩, hW, hsame.mono (by decide) (by decide)⟩
theorem d9_0 : decode jdk_68_method_68_code 0 = .ok (.getstatic 18, 3) := by decide +kernel
theorem d9_3 : decode jdk_68_method_68_code 3 = .ok (.ifCond .eq 14, 3) := by decide +kernel
theorem d9_6 : decode jdk_68_method_68_code 6 = .ok (.aload_n 0, 1) := by decide +kernel
theorem d9_7 : decode jdk_68_method_68_code 7 = .ok (.getfield 22, 3) := by decide +kernel
theorem d9_10 : decode jdk_68_method_68_code 10 = .ok (.ifCond .ne 7, 3) := by decide +kernel
theorem d9_13 : decode jdk_68_method_68_code 13 = .ok (.iconst 1, 1) := by decide +kernel
theorem d9_14 : decode jdk_68_method_68_code 14 = .ok (.goto 4, 3) := by decide +kernel
theorem d9_17 : decode jdk_68_method_68_code 17 = .ok (.iconst 0, 1) := by decide +kernel
theorem d9_18 : decode jdk_68_method_68_code 18 = .ok (.ireturn, 1) := by decide +kernel
theorem pn_2 : plainName "java/lang/AbstractStringBuilder" = true := by first | (simp [plainName, overriddenIn]; done) | decide +kernel
def Q_asb_lat (Z : State) (a1 : Addr) (cs : Int32) (h0 : Heap) (n0 : Nat) (v : Option Value) (h : Heap) (L : List Loc) : Prop := v = some (.int (1 : Int32)) ∧ Fr n0 L ∧ h = h0
set_option maxRecDepth 65536 in
set_option maxHeartbeats 40000000 in
theorem asb_lat (l : Launch) (Z : State) (a0 : Array Value) (hw : ∀ d ∈ tables_1, d.before a0 Z = true) (ws : List Jvm.Cond) (a1 : Addr) (cs : Int32) (h0 : Heap) (n0 : Nat) (Z0 : n0 ≤ h0.size) (S0 : Sta Z Z.heap "java/lang/String" "COMPACT_STRINGS" "Z" (.int cs)) (hcs : ¬ cs = (0 : Int32)) (O : Old Z n0 h0) (F_c : Fld Z h0 a1 "java/lang/AbstractStringBuilder" "coder" "B" (.int (0 : Int32))) :
    MetFree l (⟨"java/lang/AbstractStringBuilder", "isLatin1", "()Z"⟩ : MethodName) (head1 (Jvm.Cond.code (⟨"java/lang/AbstractStringBuilder", "isLatin1", "()Z"⟩ : MethodName) jdk_68_method_68_code 1 (some .boolean) :: ws) ({ frames := 0, cells := 0, slots := 0, locals := 0 } : Room)) (fun a U => a = #[(.ref a1)] ∧ Z.Warmed39 U.vm ∧ U.heap = h0) (fun _ _ _ _ _ => True) (fun _ U o U' => ∃ v L, o = .returned v ∧ Q_asb_lat Z a1 cs h0 n0 v U'.heap L ∧ FrameEnd U o U' L ({ frames := 0, cells := 0, slots := 0, locals := 0 } : Room).cells ({ frames := 0, cells := 0, slots := 0, locals := 0 } : Room).slots) := by
  refine MetFree.of_bodySF (plainFor_of_name pn_2) hisR ?_
  intro p e s m args below meth c s₁ Bd hml0 hP hK
  obtain ⟨rfl, hZ, hh⟩ := hP
  have hx := Bd.exec
  have hby := Bd.bytes
  have hml : c.maxLocals = 1 := hml0
  have hown : s.vm.findClass "java/lang/AbstractStringBuilder" = some m.cls := findClass_of_methodNamed Bd.named
  have hnm := (name_of_methodNamed Bd.named Bd.method).1
  have X0 : Stand p l e ({ frames := 0, cells := 0, slots := 0, locals := 0 } : Room) s m #[(.ref a1)] below meth c s₁ [] 0 0 := Stand.of_body Bd
  have e0 : s₁.heap = h0 := by rw [← hh, Bd.state]; rfl
  have N0 := Fr.nil n0
  have eF : entryFrame m #[(.ref a1)] 1 = mkF m 0 #[.val (.ref a1)] [] := by first | (simp [entryFrame, mkF, argsToLocals, Value.category]; done) | rfl
  show Ends p e below s ({ frames := 0, cells := 0, slots := 0, locals := 0 } : Room) (Q_asb_lat Z a1 cs h0 n0) (s₁.setTop (entryFrame m #[(.ref a1)] 1))
  rw [eF]
  obtain ⟨T5, X5, e5, st5⟩ := getS2 X0 hx hZ hown (host := "") (Or.inl (hw _ (List.mem_of_getElem? (i := 23) rfl))) Via.refl e0 (S0.ext O.2) (g := (mkF m 0 #[.val (.ref a1)] [])) rfl (hb hby d9_0)
  refine Ends.of st5 ?_
  refine Ends.of (F' := T5.setTop (mkF m 7 #[.val (.ref a1)] [(.ref a1)])) (fun _ kt => ?_) ?_
  · show Steps p.tables e below (T5.setTop (mkF m 3 #[.val (.ref a1)] [(.int cs)])) _
    refine XS.ifNo X5.here hx rfl (hb hby d9_3) rfl ((if0 _ _).trans (feq hcs).1) ?_
    show Steps p.tables e below (T5.setTop (mkF m 6 #[.val (.ref a1)] [])) _
    refine XS.aloadN X5.here hx rfl (hb hby d9_6) rfl rfl ?_
    exact kt
  obtain ⟨T6, X6, e6, st6⟩ := getF X5 hx hZ hown (host := "") (Or.inl (hw _ (List.mem_of_getElem? (i := 28) rfl))) Via.refl e5 F_c (g := (mkF m 7 #[.val (.ref a1)] [(.ref a1)])) rfl rfl (hb hby d9_7)
  refine Ends.of st6 ?_
  refine Ends.of (F' := T6.setTop (mkF m 18 #[.val (.ref a1)] [(.int (1 : Int32))])) (fun _ kt => ?_) ?_
  · show Steps p.tables e below (T6.setTop (mkF m 10 #[.val (.ref a1)] [(.int (0 : Int32))])) _
    refine XS.ifNo X6.here hx rfl (hb hby d9_10) rfl ((if0 _ _).trans (teq rfl).2) ?_
    show Steps p.tables e below (T6.setTop (mkF m 13 #[.val (.ref a1)] [])) _
    refine XS.iconst X6.here hx rfl (hb hby d9_13) ?_
    show Steps p.tables e below (T6.setTop (mkF m 14 #[.val (.ref a1)] [(.int (1 : Int32))])) _
    refine XS.goto X6.here hx rfl (pc0 := 14) (pc' := 18) rfl (hb hby d9_14) (by decide) (by decide) ?_
    exact kt
  obtain ⟨fs, hr, hrun, hended, hW, hsame⟩ := X6.leave (v := some (.int (1 : Int32))) (fun h => by rw [Bd.returns] at h; cases h)
  exact ⟨_, _, retN X6 hx (t := .boolean) Bd.returns (by simp) (hb hby d9_18) hr, hrun, hended, _, _, rfl, ⟨rfl, N0, e6⟩, ⟨_, rfl⟩, hW, hsame.mono (by decide) (by decide)⟩
theorem d8_0 : decode jdk_68_method_9_code 0 = .ok (.aload_n 0, 1) := by decide +kernel
theorem d8_1 : decode jdk_68_method_9_code 1 = .ok (.getfield 15, 3) := by decide +kernel
theorem d8_4 : decode jdk_68_method_9_code 4 = .ok (.arraylength, 1) := by decide +kernel
theorem d8_5 : decode jdk_68_method_9_code 5 = .ok (.aload_n 0, 1) := by decide +kernel
theorem d8_6 : decode jdk_68_method_9_code 6 = .ok (.getfield 22, 3) := by decide +kernel
theorem d8_9 : decode jdk_68_method_9_code 9 = .ok (.ishr, 1) := by decide +kernel
theorem d8_10 : decode jdk_68_method_9_code 10 = .ok (.istore_n 2, 1) := by decide +kernel
theorem d8_11 : decode jdk_68_method_9_code 11 = .ok (.iload_n 1, 1) := by decide +kernel
theorem d8_12 : decode jdk_68_method_9_code 12 = .ok (.iload_n 2, 1) := by decide +kernel
theorem d8_13 : decode jdk_68_method_9_code 13 = .ok (.isub, 1) := by decide +kernel
theorem d8_14 : decode jdk_68_method_9_code 14 = .ok (.ifCond .le 24, 3) := by decide +kernel
theorem d8_17 : decode jdk_68_method_9_code 17 = .ok (.aload_n 0, 1) := by decide +kernel
theorem d8_18 : decode jdk_68_method_9_code 18 = .ok (.aload_n 0, 1) := by decide +kernel
theorem d8_19 : decode jdk_68_method_9_code 19 = .ok (.getfield 15, 3) := by decide +kernel
theorem d8_22 : decode jdk_68_method_9_code 22 = .ok (.aload_n 0, 1) := by decide +kernel
theorem d8_23 : decode jdk_68_method_9_code 23 = .ok (.iload_n 1, 1) := by decide +kernel
theorem d8_24 : decode jdk_68_method_9_code 24 = .ok (.invokevirtual 104, 3) := by decide +kernel
theorem d8_27 : decode jdk_68_method_9_code 27 = .ok (.aload_n 0, 1) := by decide +kernel
theorem d8_28 : decode jdk_68_method_9_code 28 = .ok (.getfield 22, 3) := by decide +kernel
theorem d8_31 : decode jdk_68_method_9_code 31 = .ok (.ishl, 1) := by decide +kernel
theorem d8_32 : decode jdk_68_method_9_code 32 = .ok (.invokestatic 108, 3) := by decide +kernel
theorem d8_35 : decode jdk_68_method_9_code 35 = .ok (.putfield 15, 3) := by decide +kernel
theorem d8_38 : decode jdk_68_method_9_code 38 = .ok (.return_, 1) := by decide +kernel
def Q_asb_ens (Z : State) (a1 : Addr) (b : Addr) (cap : Nat) (n : Nat) (f : Nat → Int32) (k : Nat) (h0 : Heap) (n0 : Nat) (v : Option Value) (h : Heap) (L : List Loc) : Prop := v = none ∧ Fr n0 L ∧ h = h0
set_option maxRecDepth 65536 in
set_option maxHeartbeats 40000000 in
theorem asb_ens (l : Launch) (Z : State) (a0 : Array Value) (hw : ∀ d ∈ tables_1, d.before a0 Z = true) (ws : List Jvm.Cond) (a1 : Addr) (b : Addr) (cap : Nat) (n : Nat) (f : Nat → Int32) (k : Nat) (h0 : Heap) (n0 : Nat) (Z0 : n0 ≤ h0.size) (F : SBd Z h0 a1 b cap n f) (hk : k ≤ cap) :
    MetFree l (⟨"java/lang/AbstractStringBuilder", "ensureCapacityInternal", "(I)V"⟩ : MethodName) (head1 (Jvm.Cond.code (⟨"java/lang/AbstractStringBuilder", "ensureCapacityInternal", "(I)V"⟩ : MethodName) jdk_68_method_9_code 3 none :: ws) ({ frames := 0, cells := 0, slots := 0, locals := 0 } : Room)) (fun a U => a = #[(.ref a1), (.int (Int32.ofNat k))] ∧ Z.Warmed39 U.vm ∧ U.heap = h0) (fun _ _ _ _ _ => True) (fun _ U o U' => ∃ v L, o = .returned v ∧ Q_asb_ens Z a1 b cap n f k h0 n0 v U'.heap L ∧ FrameEnd U o U' L ({ frames := 0, cells := 0, slots := 0, locals := 0 } : Room).cells ({ frames := 0, cells := 0, slots := 0, locals := 0 } : Room).slots) := by
  refine MetFree.of_bodySF (plainFor_of_name pn_2) hisR ?_
  intro p e s m args below meth c s₁ Bd hml0 hP hK
  obtain ⟨rfl, hZ, hh⟩ := hP
  have hx := Bd.exec
  have hby := Bd.bytes
  have hml : c.maxLocals = 3 := hml0
  have hown : s.vm.findClass "java/lang/AbstractStringBuilder" = some m.cls := findClass_of_methodNamed Bd.named
  have hnm := (name_of_methodNamed Bd.named Bd.method).1
  have X0 : Stand p l e ({ frames := 0, cells := 0, slots := 0, locals := 0 } : Room) s m #[(.ref a1), (.int (Int32.ofNat k))] below meth c s₁ [] 0 0 := Stand.of_body Bd
  have e0 : s₁.heap = h0 := by rw [← hh, Bd.state]; rfl
  have N0 := Fr.nil n0
  have eF : entryFrame m #[(.ref a1), (.int (Int32.ofNat k))] 3 = mkF m 0 #[.val (.ref a1), .val (.int (Int32.ofNat k)), .unset] [] := by first | (simp [entryFrame, mkF, argsToLocals, Value.category]; done) | rfl
  show Ends p e below s ({ frames := 0, cells := 0, slots := 0, locals := 0 } : Room) (Q_asb_ens Z a1 b cap n f k h0 n0) (s₁.setTop (entryFrame m #[(.ref a1), (.int (Int32.ofNat k))] 3))
  rw [eF]
  obtain ⟨Ex, Fc, Fn, Fv, Va, hcap⟩ := F
  obtain ⟨cb, Ab, Sb, Hb, -⟩ := Va.op
  have hc1 := Va.1
  refine Ends.of (F' := s₁.setTop (mkF m 1 #[.val (.ref a1), .val (.int (Int32.ofNat k)), .unset] [(.ref a1)])) (fun _ kt => ?_) ?_
  · show Steps p.tables e below (s₁.setTop (mkF m 0 #[.val (.ref a1), .val (.int (Int32.ofNat k)), .unset] [])) _
    refine XS.aloadN X0.here hx rfl (hb hby d8_0) rfl rfl ?_
    exact kt
  obtain ⟨T7, X7, e7, st7⟩ := getF X0 hx hZ hown (host := "") (Or.inl (hw _ (List.mem_of_getElem? (i := 26) rfl))) Via.refl e0 Fv (g := (mkF m 1 #[.val (.ref a1), .val (.int (Int32.ofNat k)), .unset] [(.ref a1)])) rfl rfl (hb hby d8_1)
  refine Ends.of st7 ?_
  refine Ends.of (F' := T7.setTop (mkF m 6 #[.val (.ref a1), .val (.int (Int32.ofNat k)), .unset] [(.ref a1), (.int (Int32.ofNat cap))])) (fun _ kt => ?_) ?_
  · show Steps p.tables e below (T7.setTop (mkF m 4 #[.val (.ref a1), .val (.int (Int32.ofNat k)), .unset] [(.ref b)])) _
    refine X7.arraylength hx (by rw [e7]; exact Ab.1) (State.isArrayOf_alike hZ.alike Ab.2.1) (g := (mkF m 4 #[.val (.ref a1), .val (.int (Int32.ofNat k)), .unset] [(.ref b)])) rfl rfl (hb hby d8_4) _ ?_
    rw [Sb]
    show Steps p.tables e below (T7.setTop (mkF m 5 #[.val (.ref a1), .val (.int (Int32.ofNat k)), .unset] [(.int (Int32.ofNat cap))])) _
    refine XS.aloadN X7.here hx rfl (hb hby d8_5) rfl rfl ?_
    exact kt
  obtain ⟨T8, X8, e8, st8⟩ := getF X7 hx hZ hown (host := "") (Or.inl (hw _ (List.mem_of_getElem? (i := 28) rfl))) Via.refl e7 Fc (g := (mkF m 6 #[.val (.ref a1), .val (.int (Int32.ofNat k)), .unset] [(.ref a1), (.int (Int32.ofNat cap))])) rfl rfl (hb hby d8_6)
  refine Ends.of st8 ?_
  refine Ends.of (F' := T8.setTop (mkF m 38 #[.val (.ref a1), .val (.int (Int32.ofNat k)), .val (.int ((Int32.ofNat cap) >>> ((0 : Int32) &&& 31)))] [])) (fun _ kt => ?_) ?_
  · show Steps p.tables e below (T8.setTop (mkF m 9 #[.val (.ref a1), .val (.int (Int32.ofNat k)), .unset] [(.int (0 : Int32)), (.int (Int32.ofNat cap))])) _
    refine XS.ishr X8.here hx rfl (hb hby d8_9) rfl ?_
    show Steps p.tables e below (T8.setTop (mkF m 10 #[.val (.ref a1), .val (.int (Int32.ofNat k)), .unset] [(.int ((Int32.ofNat cap) >>> ((0 : Int32) &&& 31)))])) _
    refine XS.istoreN X8.here hx rfl (hb hby d8_10) rfl (l' := #[.val (.ref a1), .val (.int (Int32.ofNat k)), .val (.int ((Int32.ofNat cap) >>> ((0 : Int32) &&& 31)))]) rfl ?_
    show Steps p.tables e below (T8.setTop (mkF m 11 #[.val (.ref a1), .val (.int (Int32.ofNat k)), .val (.int ((Int32.ofNat cap) >>> ((0 : Int32) &&& 31)))] [])) _
    refine XS.iloadN X8.here hx rfl (hb hby d8_11) rfl ?_
    show Steps p.tables e below (T8.setTop (mkF m 12 #[.val (.ref a1), .val (.int (Int32.ofNat k)), .val (.int ((Int32.ofNat cap) >>> ((0 : Int32) &&& 31)))] [(.int (Int32.ofNat k))])) _
    refine XS.iloadN X8.here hx rfl (hb hby d8_12) rfl ?_
    show Steps p.tables e below (T8.setTop (mkF m 13 #[.val (.ref a1), .val (.int (Int32.ofNat k)), .val (.int ((Int32.ofNat cap) >>> ((0 : Int32) &&& 31)))] [(.int ((Int32.ofNat cap) >>> ((0 : Int32) &&& 31))), (.int (Int32.ofNat k))])) _
    refine XS.isub X8.here hx rfl (hb hby d8_13) rfl ?_
    show Steps p.tables e below (T8.setTop (mkF m 14 #[.val (.ref a1), .val (.int (Int32.ofNat k)), .val (.int ((Int32.ofNat cap) >>> ((0 : Int32) &&& 31)))] [(.int ((Int32.ofNat k) - ((Int32.ofNat cap) >>> ((0 : Int32) &&& 31))))])) _
    refine XS.ifYes X8.here hx rfl (pc0 := 14) (pc' := 38) rfl (hb hby d8_14) rfl ((if0 _ _).trans (flt (own_cap k cap hk hc1)).2.2.2) (by decide) (by decide) ?_
    exact kt
  obtain ⟨fs, hr, hrun, hended, hW, hsame⟩ := X8.leave (v := none) (fun _ => rfl)
  exact ⟨_, _, X8.returnOut hx Bd.returns (hb hby d8_38) hr, hrun, hended, _, _, rfl, ⟨rfl, N0, e8⟩, ⟨_, rfl⟩, hW, hsame.mono (by decide) (by decide)⟩
theorem d7_0 : decode jdk_68_method_31_code 0 = .ok (.aload_n 0, 1) := by decide +kernel
theorem d7_1 : decode jdk_68_method_31_code 1 = .ok (.aload_n 0, 1) := by decide +kernel
theorem d7_2 : decode jdk_68_method_31_code 2 = .ok (.getfield 79, 3) := by decide +kernel
theorem d7_5 : decode jdk_68_method_31_code 5 = .ok (.iconst 1, 1) := by decide +kernel
theorem d7_6 : decode jdk_68_method_31_code 6 = .ok (.iadd, 1) := by decide +kernel
theorem d7_7 : decode jdk_68_method_31_code 7 = .ok (.invokevirtual 100, 3) := by decide +kernel
theorem d7_10 : decode jdk_68_method_31_code 10 = .ok (.aload_n 0, 1) := by decide +kernel
theorem d7_11 : decode jdk_68_method_31_code 11 = .ok (.invokevirtual 83, 3) := by decide +kernel
theorem d7_14 : decode jdk_68_method_31_code 14 = .ok (.ifCond .eq 31, 3) := by decide +kernel
theorem d7_17 : decode jdk_68_method_31_code 17 = .ok (.iload_n 1, 1) := by decide +kernel
theorem d7_18 : decode jdk_68_method_31_code 18 = .ok (.invokestatic 191, 3) := by decide +kernel
theorem d7_21 : decode jdk_68_method_31_code 21 = .ok (.ifCond .eq 24, 3) := by decide +kernel
theorem d7_24 : decode jdk_68_method_31_code 24 = .ok (.aload_n 0, 1) := by decide +kernel
theorem d7_25 : decode jdk_68_method_31_code 25 = .ok (.getfield 15, 3) := by decide +kernel
theorem d7_28 : decode jdk_68_method_31_code 28 = .ok (.aload_n 0, 1) := by decide +kernel
theorem d7_29 : decode jdk_68_method_31_code 29 = .ok (.dup, 1) := by decide +kernel
theorem d7_30 : decode jdk_68_method_31_code 30 = .ok (.getfield 79, 3) := by decide +kernel
theorem d7_33 : decode jdk_68_method_31_code 33 = .ok (.dup_x1, 1) := by decide +kernel
theorem d7_34 : decode jdk_68_method_31_code 34 = .ok (.iconst 1, 1) := by decide +kernel
theorem d7_35 : decode jdk_68_method_31_code 35 = .ok (.iadd, 1) := by decide +kernel
theorem d7_36 : decode jdk_68_method_31_code 36 = .ok (.putfield 79, 3) := by decide +kernel
theorem d7_39 : decode jdk_68_method_31_code 39 = .ok (.iload_n 1, 1) := by decide +kernel
theorem d7_40 : decode jdk_68_method_31_code 40 = .ok (.i2b, 1) := by decide +kernel
theorem d7_41 : decode jdk_68_method_31_code 41 = .ok (.bastore, 1) := by decide +kernel
theorem d7_42 : decode jdk_68_method_31_code 42 = .ok (.goto 33, 3) := by decide +kernel
theorem d7_45 : decode jdk_68_method_31_code 45 = .ok (.aload_n 0, 1) := by decide +kernel
theorem d7_46 : decode jdk_68_method_31_code 46 = .ok (.invokevirtual 83, 3) := by decide +kernel
theorem d7_49 : decode jdk_68_method_31_code 49 = .ok (.ifCond .eq 7, 3) := by decide +kernel
theorem d7_52 : decode jdk_68_method_31_code 52 = .ok (.aload_n 0, 1) := by decide +kernel
theorem d7_53 : decode jdk_68_method_31_code 53 = .ok (.invokevirtual 195, 3) := by decide +kernel
theorem d7_56 : decode jdk_68_method_31_code 56 = .ok (.aload_n 0, 1) := by decide +kernel
theorem d7_57 : decode jdk_68_method_31_code 57 = .ok (.getfield 15, 3) := by decide +kernel
theorem d7_60 : decode jdk_68_method_31_code 60 = .ok (.aload_n 0, 1) := by decide +kernel
theorem d7_61 : decode jdk_68_method_31_code 61 = .ok (.dup, 1) := by decide +kernel
theorem d7_62 : decode jdk_68_method_31_code 62 = .ok (.getfield 79, 3) := by decide +kernel
theorem d7_65 : decode jdk_68_method_31_code 65 = .ok (.dup_x1, 1) := by decide +kernel
theorem d7_66 : decode jdk_68_method_31_code 66 = .ok (.iconst 1, 1) := by decide +kernel
theorem d7_67 : decode jdk_68_method_31_code 67 = .ok (.iadd, 1) := by decide +kernel
theorem d7_68 : decode jdk_68_method_31_code 68 = .ok (.putfield 79, 3) := by decide +kernel
theorem d7_71 : decode jdk_68_method_31_code 71 = .ok (.iload_n 1, 1) := by decide +kernel
theorem d7_72 : decode jdk_68_method_31_code 72 = .ok (.invokestatic 197, 3) := by decide +kernel
theorem d7_75 : decode jdk_68_method_31_code 75 = .ok (.aload_n 0, 1) := by decide +kernel
theorem d7_76 : decode jdk_68_method_31_code 76 = .ok (.areturn, 1) := by decide +kernel
def Q_asb_appC (Z : State) (a1 : Addr) (p2 : Int32) (b : Addr) (cap : Nat) (n : Nat) (f : Nat → Int32) (cs : Int32) (h0 : Heap) (n0 : Nat) (v : Option Value) (h : Heap) (L : List Loc) : Prop := v = some (.ref a1) ∧ Fr n0 L ∧ Keep h0 h [a1, b] ∧ SBd Z h a1 b cap (n + 1) (fun x => if x = n then p2.toInt8.toInt32 else f x)
set_option maxRecDepth 65536 in
set_option maxHeartbeats 40000000 in
theorem asb_appC (l : Launch) (Z : State) (a0 : Array Value) (hw : ∀ d ∈ tables_1, d.before a0 Z = true) (ws : List Jvm.Cond) (a1 : Addr) (p2 : Int32) (b : Addr) (cap : Nat) (n : Nat) (f : Nat → Int32) (cs : Int32) (h0 : Heap) (n0 : Nat) (Z0 : n0 ≤ h0.size) (S0 : Sta Z Z.heap "java/lang/String" "COMPACT_STRINGS" "Z" (.int cs)) (hcs : ¬ cs = (0 : Int32)) (O : Old Z n0 h0) (F : SBd Z h0 a1 b cap n f) (hp : ¬ (255 : Int32) < p2) (hn : n + 1 ≤ cap) (g_a : n0 ≤ a1) (g_b : n0 ≤ b) :
    MetFree l (⟨"java/lang/AbstractStringBuilder", "append", "(C)Ljava/lang/AbstractStringBuilder;"⟩ : MethodName) (head1 (Jvm.Cond.code (⟨"java/lang/AbstractStringBuilder", "append", "(C)Ljava/lang/AbstractStringBuilder;"⟩ : MethodName) jdk_68_method_31_code 2 (some (.object "java/lang/AbstractStringBuilder")) :: ws) ({ frames := 1, cells := 0, slots := 0, locals := 14 } : Room)) (fun a U => a = #[(.ref a1), (.int p2)] ∧ Z.Warmed39 U.vm ∧ U.heap = h0) (fun _ _ _ _ _ => True) (fun _ U o U' => ∃ v L, o = .returned v ∧ Q_asb_appC Z a1 p2 b cap n f cs h0 n0 v U'.heap L ∧ FrameEnd U o U' L ({ frames := 1, cells := 0, slots := 0, locals := 14 } : Room).cells ({ frames := 1, cells := 0, slots := 0, locals := 14 } : Room).slots) := by
  refine MetFree.of_bodySF (plainFor_of_name pn_2) hisR ?_
  intro p e s m args below meth c s₁ Bd hml0 hP hK
  obtain ⟨rfl, hZ, hh⟩ := hP
  have hx := Bd.exec
  have hby := Bd.bytes
  have hml : c.maxLocals = 2 := hml0
  have hown : s.vm.findClass "java/lang/AbstractStringBuilder" = some m.cls := findClass_of_methodNamed Bd.named
  have hnm := (name_of_methodNamed Bd.named Bd.method).1
  have X0 : Stand p l e ({ frames := 1, cells := 0, slots := 0, locals := 14 } : Room) s m #[(.ref a1), (.int p2)] below meth c s₁ [] 0 0 := Stand.of_body Bd
  have e0 : s₁.heap = h0 := by rw [← hh, Bd.state]; rfl
  have N0 := Fr.nil n0
  have eF : entryFrame m #[(.ref a1), (.int p2)] 2 = mkF m 0 #[.val (.ref a1), .val (.int p2)] [] := by first | (simp [entryFrame, mkF, argsToLocals, Value.category]; done) | rfl
  show Ends p e below s ({ frames := 1, cells := 0, slots := 0, locals := 14 } : Room) (Q_asb_appC Z a1 p2 b cap n f cs h0 n0) (s₁.setTop (entryFrame m #[(.ref a1), (.int p2)] 2))
  rw [eF]
  obtain ⟨Ex, Fc, Fn, Fv, Va, hcap⟩ := id F
  have hc1 := Va.1
  refine Ends.of (F' := s₁.setTop (mkF m 2 #[.val (.ref a1), .val (.int p2)] [(.ref a1), (.ref a1)])) (fun _ kt => ?_) ?_
  · show Steps p.tables e below (s₁.setTop (mkF m 0 #[.val (.ref a1), .val (.int p2)] [])) _
    refine XS.aloadN X0.here hx rfl (hb hby d7_0) rfl rfl ?_
    show Steps p.tables e below (s₁.setTop (mkF m 1 #[.val (.ref a1), .val (.int p2)] [(.ref a1)])) _
    refine XS.aloadN X0.here hx rfl (hb hby d7_1) rfl rfl ?_
    exact kt
  obtain ⟨T9, X9, e9, st9⟩ := getF X0 hx hZ hown (host := "") (Or.inl (hw _ (List.mem_of_getElem? (i := 47) rfl))) Via.refl e0 Fn (g := (mkF m 2 #[.val (.ref a1), .val (.int p2)] [(.ref a1), (.ref a1)])) rfl rfl (hb hby d7_2)
  refine Ends.of st9 ?_
  refine Ends.of (F' := T9.setTop (mkF m 7 #[.val (.ref a1), .val (.int p2)] [(.int ((Int32.ofNat n) + (1 : Int32))), (.ref a1)])) (fun _ kt => ?_) ?_
  · show Steps p.tables e below (T9.setTop (mkF m 5 #[.val (.ref a1), .val (.int p2)] [(.int (Int32.ofNat n)), (.ref a1)])) _
    refine XS.iconst X9.here hx rfl (hb hby d7_5) ?_
    show Steps p.tables e below (T9.setTop (mkF m 6 #[.val (.ref a1), .val (.int p2)] [(.int (1 : Int32)), (.int (Int32.ofNat n)), (.ref a1)])) _
    refine XS.iadd X9.here hx rfl (hb hby d7_6) rfl ?_
    exact kt
  rw [show Int32.ofNat n + (1 : Int32) = Int32.ofNat (n + 1) from own_add n 1]
  obtain ⟨cq10, kq10, q10a, q10b, q10c⟩ := isOf hZ e9 F.1
  obtain ⟨_, _, ⟨T10, L10, k10, n10⟩, -, X10, ⟨Lc10, hQ10, l10, y10, z10⟩, st10⟩ := X9.virtualBack hx (y := (⟨"java/lang/AbstractStringBuilder", "ensureCapacityInternal", "(I)V"⟩ : MethodName)) (z := (⟨"java/lang/AbstractStringBuilder", "ensureCapacityInternal", "(I)V"⟩ : MethodName)) hown (mvT hZ (hw _ (List.mem_of_getElem? (i := 49) rfl))) (mvT hZ (own_decl (hw _ (List.mem_of_getElem? (i := 50) rfl)) (hw _ (List.mem_of_getElem? (i := 53) rfl)))) (notFace_of_selects (args := #[]) (mvT hZ (hw _ (List.mem_of_getElem? (i := 52) rfl)))) (mvT hZ (hw _ (List.mem_of_getElem? (i := 52) rfl))) (mvT hZ (hw _ (List.mem_of_getElem? (i := 50) rfl))) (by decide) (backOf (W := 0) (asb_ens l Z a0 hw [] a1 b cap n f (n + 1) h0 n0 Z0 F (by omega)) hZ (hw _ (List.mem_of_getElem? (i := 53) rfl)) (hw _ (List.mem_of_getElem? (i := 20) rfl)) (by decide) (by decide)) q10a q10c (g := (mkF m 7 #[.val (.ref a1), .val (.int p2)] [(.int (Int32.ofNat (n + 1))), (.ref a1)])) rfl (by rw [hml]; rfl) (Steps.refl _) (argsL := [(.int (Int32.ofNat (n + 1)))]) (rest := []) (lenOf pd_1 rfl) rfl (by show 2 * 0 + _ ≤ _; exact Nat.le_of_eq rfl) (hb hby d7_7) (fun _ _ => ⟨rfl, e9, (by decide : 0 + 0 ≤ _), (by decide : 0 + 0 ≤ _)⟩)
  dsimp only [Pt.U, Pt.locs, Pt.cells, Pt.slots] at X10 l10 y10 z10 st10 hQ10
  subst l10 y10 z10
  obtain ⟨rfl, N10q, e10⟩ := hQ10
  have N10 := Fr.app N0 N10q
  refine Ends.st st10 ?_
  refine Ends.of (F' := T10.setTop (mkF m 11 #[.val (.ref a1), .val (.int p2)] [(.ref a1)])) (fun _ kt => ?_) ?_
  · show Steps p.tables e below (T10.setTop (mkF m 10 #[.val (.ref a1), .val (.int p2)] [])) _
    refine XS.aloadN X10.here hx rfl (hb hby d7_10) rfl rfl ?_
    exact kt
  obtain ⟨cq11, kq11, q11a, q11b, q11c⟩ := isOf hZ e10 F.1
  obtain ⟨_, _, ⟨T11, L11, k11, n11⟩, -, X11, ⟨Lc11, hQ11, l11, y11, z11⟩, st11⟩ := X10.virtualBack hx (y := (⟨"java/lang/AbstractStringBuilder", "isLatin1", "()Z"⟩ : MethodName)) (z := (⟨"java/lang/AbstractStringBuilder", "isLatin1", "()Z"⟩ : MethodName)) hown (mvT hZ (hw _ (List.mem_of_getElem? (i := 54) rfl))) (mvT hZ (hw _ (List.mem_of_getElem? (i := 55) rfl))) (notFace_of_selects (args := #[]) (mvT hZ (hw _ (List.mem_of_getElem? (i := 57) rfl)))) (mvT hZ (hw _ (List.mem_of_getElem? (i := 57) rfl))) (mvT hZ (hw _ (List.mem_of_getElem? (i := 56) rfl))) (by decide) (backOf (W := 0) (asb_lat l Z a0 hw [] a1 cs h0 n0 Z0 S0 hcs O F.2.1) hZ (hw _ (List.mem_of_getElem? (i := 58) rfl)) (hw _ (List.mem_of_getElem? (i := 20) rfl)) (by decide) (by decide)) q11a q11c (g := (mkF m 11 #[.val (.ref a1), .val (.int p2)] [(.ref a1)])) rfl (by rw [hml]; rfl) (Steps.refl _) (argsL := []) (rest := []) (lenOf pd_5 rfl) rfl (by show 2 * 0 + _ ≤ _; exact Nat.le_of_eq rfl) (hb hby d7_11) (fun _ _ => ⟨rfl, e10, (by decide : 0 + 0 ≤ _), (by decide : 0 + 0 ≤ _)⟩)
  dsimp only [Pt.U, Pt.locs, Pt.cells, Pt.slots] at X11 l11 y11 z11 st11 hQ11
  subst l11 y11 z11
  obtain ⟨rfl, N11q, e11⟩ := hQ11
  have N11 := Fr.app N10 N11q
  refine Ends.st st11 ?_
  refine Ends.of (F' := T11.setTop (mkF m 18 #[.val (.ref a1), .val (.int p2)] [(.int p2)])) (fun _ kt => ?_) ?_
  · show Steps p.tables e below (T11.setTop (mkF m 14 #[.val (.ref a1), .val (.int p2)] [(.int (1 : Int32))])) _
    refine XS.ifNo X11.here hx rfl (hb hby d7_14) rfl ((if0 _ _).trans (feq (by decide)).1) ?_
    show Steps p.tables e below (T11.setTop (mkF m 17 #[.val (.ref a1), .val (.int p2)] [])) _
    refine XS.iloadN X11.here hx rfl (hb hby d7_17) rfl ?_
    exact kt
  obtain ⟨_, _, ⟨T12, L12, k12, n12⟩, -, X12, ⟨Lc12, hQ12, l12, y12, z12⟩, st12⟩ := Jvm.LawKit.callS X11 hx (y := (⟨"java/lang/StringLatin1", "canEncode", "(C)Z"⟩ : MethodName)) hown (mvT hZ (hw _ (List.mem_of_getElem? (i := 59) rfl))) (mvT hZ (hw _ (List.mem_of_getElem? (i := 60) rfl))) (mvT hZ (hw _ (List.mem_of_getElem? (i := 61) rfl))) (mvT hZ (hw _ (List.mem_of_getElem? (i := 62) rfl))) (by decide) (backOf (W := 0) (lat_can l Z a0 hw [] p2 h0 n0 Z0 hp) hZ (hw _ (List.mem_of_getElem? (i := 62) rfl)) (hw _ (List.mem_of_getElem? (i := 61) rfl)) (by decide) (by decide)) (g := (mkF m 18 #[.val (.ref a1), .val (.int p2)] [(.int p2)])) rfl (by rw [hml]; rfl) (argsL := [(.int p2)]) (rest := []) (lenOf pd_6 rfl) rfl (by show 2 * 0 + _ ≤ _; exact Nat.le_of_eq rfl) (hb hby d7_18) (fun _ _ => ⟨rfl, e11, (by decide : 0 + 0 ≤ _), (by decide : 0 + 0 ≤ _)⟩)
  dsimp only [Pt.U, Pt.locs, Pt.cells, Pt.slots] at X12 l12 y12 z12 st12 hQ12
  subst l12 y12 z12
  obtain ⟨rfl, N12q, e12⟩ := hQ12
  have N12 := Fr.app N11 N12q
  refine Ends.of st12 ?_
  refine Ends.of (F' := T12.setTop (mkF m 25 #[.val (.ref a1), .val (.int p2)] [(.ref a1)])) (fun _ kt => ?_) ?_
  · show Steps p.tables e below (T12.setTop (mkF m 21 #[.val (.ref a1), .val (.int p2)] [(.int (1 : Int32))])) _
    refine XS.ifNo X12.here hx rfl (hb hby d7_21) rfl ((if0 _ _).trans (feq (by decide)).1) ?_
    show Steps p.tables e below (T12.setTop (mkF m 24 #[.val (.ref a1), .val (.int p2)] [])) _
    refine XS.aloadN X12.here hx rfl (hb hby d7_24) rfl rfl ?_
    exact kt
  obtain ⟨T13, X13, e13, st13⟩ := getF X12 hx hZ hown (host := "") (Or.inl (hw _ (List.mem_of_getElem? (i := 26) rfl))) Via.refl e12 Fv (g := (mkF m 25 #[.val (.ref a1), .val (.int p2)] [(.ref a1)])) rfl rfl (hb hby d7_25)
  refine Ends.of st13 ?_
  refine Ends.of (F' := T13.setTop (mkF m 30 #[.val (.ref a1), .val (.int p2)] [(.ref a1), (.ref a1), (.ref b)])) (fun _ kt => ?_) ?_
  · show Steps p.tables e below (T13.setTop (mkF m 28 #[.val (.ref a1), .val (.int p2)] [(.ref b)])) _
    refine XS.aloadN X13.here hx rfl (hb hby d7_28) rfl rfl ?_
    show Steps p.tables e below (T13.setTop (mkF m 29 #[.val (.ref a1), .val (.int p2)] [(.ref a1), (.ref b)])) _
    refine XS.dup X13.here hx rfl (hb hby d7_29) rfl rfl ?_
    exact kt
  obtain ⟨T14, X14, e14, st14⟩ := getF X13 hx hZ hown (host := "") (Or.inl (hw _ (List.mem_of_getElem? (i := 47) rfl))) Via.refl e13 Fn (g := (mkF m 30 #[.val (.ref a1), .val (.int p2)] [(.ref a1), (.ref a1), (.ref b)])) rfl rfl (hb hby d7_30)
  refine Ends.of st14 ?_
  refine Ends.of (F' := T14.setTop (mkF m 36 #[.val (.ref a1), .val (.int p2)] [(.int ((Int32.ofNat n) + (1 : Int32))), (.ref a1), (.int (Int32.ofNat n)), (.ref b)])) (fun _ kt => ?_) ?_
  · show Steps p.tables e below (T14.setTop (mkF m 33 #[.val (.ref a1), .val (.int p2)] [(.int (Int32.ofNat n)), (.ref a1), (.ref b)])) _
    refine XS.dupX1 X14.here hx rfl (hb hby d7_33) rfl rfl rfl ?_
    show Steps p.tables e below (T14.setTop (mkF m 34 #[.val (.ref a1), .val (.int p2)] [(.int (Int32.ofNat n)), (.ref a1), (.int (Int32.ofNat n)), (.ref b)])) _
    refine XS.iconst X14.here hx rfl (hb hby d7_34) ?_
    show Steps p.tables e below (T14.setTop (mkF m 35 #[.val (.ref a1), .val (.int p2)] [(.int (1 : Int32)), (.int (Int32.ofNat n)), (.ref a1), (.int (Int32.ofNat n)), (.ref b)])) _
    refine XS.iadd X14.here hx rfl (hb hby d7_35) rfl ?_
    exact kt
  rw [show Int32.ofNat n + (1 : Int32) = Int32.ofNat (n + 1) from own_add n 1]
  obtain ⟨T15, h15, X15, e15, W15, st15⟩ := putF X14 hx hZ hown (host := "") (Or.inl (hw _ (List.mem_of_getElem? (i := 47) rfl))) Via.refl e14 Fn Ex (Or.inl (hw _ (List.mem_of_getElem? (i := 48) rfl))) (hw _ (List.mem_of_getElem? (i := 11) rfl)) (ty := .int) (by decide) rfl rfl (g := (mkF m 36 #[.val (.ref a1), .val (.int p2)] [(.int (Int32.ofNat (n + 1))), (.ref a1), (.int (Int32.ofNat n)), (.ref b)])) rfl rfl (hb hby d7_36)
  refine Ends.of st15 ?_
  have N15 := Fr.snoc X15 N12 g_a
  have Fc1 := Fc.other W15 (Or.inr (slot_ne (Or.inl (hw _ (List.mem_of_getElem? (i := 29) rfl))) (Or.inl (hw _ (List.mem_of_getElem? (i := 48) rfl))) (by decide) (t := .byte) (t' := .int) (by decide) (by decide)))
  have Fv1 := Fv.other W15 (Or.inr (slot_ne (Or.inl (hw _ (List.mem_of_getElem? (i := 27) rfl))) (Or.inl (hw _ (List.mem_of_getElem? (i := 48) rfl))) (by decide) (t := (.array .byte)) (t' := .int) (by decide) (by decide)))
  have Ex1 := Ex.wr W15
  have Fn1 := Fn.same W15
  obtain ⟨cb0, Ab0, -, -, -⟩ := Va.op
  have nab : a1 ≠ b := ne_arr Ex (hw _ (List.mem_of_getElem? (i := 11) rfl)) Ab0
  have Va1 := Va.other W15 (Ne.symm nab)
  have K1 : Keep h0 h15 [a1, b] := (Keep.refl _ _).wr W15 (Or.inl (List.mem_of_getElem? (i := 0) rfl))
  obtain ⟨cb, Ab, Sb, Hb, put⟩ := Va1.op
  refine Ends.of (F' := T15.setTop (mkF m 41 #[.val (.ref a1), .val (.int p2)] [(.int (p2.toInt8.toInt32)), (.int (Int32.ofNat n)), (.ref b)])) (fun _ kt => ?_) ?_
  · show Steps p.tables e below (T15.setTop (mkF m 39 #[.val (.ref a1), .val (.int p2)] [(.int (Int32.ofNat n)), (.ref b)])) _
    refine XS.iloadN X15.here hx rfl (hb hby d7_39) rfl ?_
    show Steps p.tables e below (T15.setTop (mkF m 40 #[.val (.ref a1), .val (.int p2)] [(.int p2), (.int (Int32.ofNat n)), (.ref b)])) _
    refine XS.i2b X15.here hx rfl (hb hby d7_40) rfl ?_
    exact kt
  obtain ⟨T16, h16, X16, e16, W16, st16⟩ := stB X15 hx hZ e15 Ab (j := (Int32.ofNat n)) (own_hin (i := n) Sb rfl (by omega) (by omega)) (g := (mkF m 41 #[.val (.ref a1), .val (.int p2)] [(.int (p2.toInt8.toInt32)), (.int (Int32.ofNat n)), (.ref b)])) rfl rfl (hb hby d7_41)
  refine Ends.of st16 ?_
  have N16 := Fr.snoc X16 N15 g_b
  rw [own_nar] at W16
  have Va2 := put _ _ _ n W16 (own_clamp (by omega)) (by omega) (fits_nar_byte _)
  have Fc2 := Fc1.other W16 (Or.inl nab)
  have Fn2 := Fn1.other W16 (Or.inl nab)
  have Fv2 := Fv1.other W16 (Or.inl nab)
  have Ex2 := Ex1.wr W16
  have K2 : Keep h0 h16 [a1, b] := K1.wr W16 (Or.inl (List.mem_of_getElem? (i := 1) rfl))
  rw [← e16] at Va2 Fc2 Fn2 Fv2 Ex2 K2
  refine Ends.of (F' := T16.setTop (mkF m 76 #[.val (.ref a1), .val (.int p2)] [(.ref a1)])) (fun _ kt => ?_) ?_
  · show Steps p.tables e below (T16.setTop (mkF m 42 #[.val (.ref a1), .val (.int p2)] [])) _
    refine XS.goto X16.here hx rfl (pc0 := 42) (pc' := 75) rfl (hb hby d7_42) (by decide) (by decide) ?_
    show Steps p.tables e below (T16.setTop (mkF m 75 #[.val (.ref a1), .val (.int p2)] [])) _
    refine XS.aloadN X16.here hx rfl (hb hby d7_75) rfl rfl ?_
    exact kt
  obtain ⟨fs, hr, hrun, hended, hW, hsame⟩ := X16.leave (v := some (.ref a1)) (fun h => by rw [Bd.returns] at h; cases h)
  refine ⟨_, _, ?_, hrun, hended, _, _, rfl, ⟨rfl, N16, K2, Ex2, Fc2, Fn2, Fv2, Va2, by omega⟩, ⟨_, rfl⟩, hW, hsame.mono (by decide) (by decide)⟩
  show Steps p.tables e below (T16.setTop (mkF m 76 #[.val (.ref a1), .val (.int p2)] [(.ref a1)])) _
  jvm_step X16.here [X16.here.top, hx, (hb hby d7_76), X16.method', Bd.returns, Value.isRef, FieldType.isReference]
  first | (intro acts; rw [hr _ acts rfl rfl rfl]) | rw [hr _ _ rfl rfl rfl]
  exact Steps.refl _
theorem d6_0 : decode jdk_67_method_14_code 0 = .ok (.aload_n 0, 1) := by decide +kernel
theorem d6_1 : decode jdk_67_method_14_code 1 = .ok (.iload_n 1, 1) := by decide +kernel
theorem d6_2 : decode jdk_67_method_14_code 2 = .ok (.invokespecial 50, 3) := by decide +kernel
theorem d6_5 : decode jdk_67_method_14_code 5 = .ok (.pop, 1) := by decide +kernel
theorem d6_6 : decode jdk_67_method_14_code 6 = .ok (.aload_n 0, 1) := by decide +kernel
theorem d6_7 : decode jdk_67_method_14_code 7 = .ok (.areturn, 1) := by decide +kernel
theorem pn_3 : plainName "java/lang/StringBuilder" = true := by first | (simp [plainName, overriddenIn]; done) | decide +kernel
def Q_sb_appC (Z : State) (a1 : Addr) (p2 : Int32) (b : Addr) (cap : Nat) (n : Nat) (f : Nat → Int32) (cs : Int32) (h0 : Heap) (n0 : Nat) (v : Option Value) (h : Heap) (L : List Loc) : Prop := v = some (.ref a1) ∧ Fr n0 L ∧ Keep h0 h [a1, b] ∧ SBd Z h a1 b cap (n + 1) (fun x => if x = n then p2.toInt8.toInt32 else f x)
set_option maxRecDepth 65536 in
set_option maxHeartbeats 40000000 in
theorem sb_appC (l : Launch) (Z : State) (a0 : Array Value) (hw : ∀ d ∈ tables_1, d.before a0 Z = true) (ws : List Jvm.Cond) (a1 : Addr) (p2 : Int32) (b : Addr) (cap : Nat) (n : Nat) (f : Nat → Int32) (cs : Int32) (h0 : Heap) (n0 : Nat) (Z0 : n0 ≤ h0.size) (S0 : Sta Z Z.heap "java/lang/String" "COMPACT_STRINGS" "Z" (.int cs)) (hcs : ¬ cs = (0 : Int32)) (O : Old Z n0 h0) (F : SBd Z h0 a1 b cap n f) (hp : ¬ (255 : Int32) < p2) (hn : n + 1 ≤ cap) (g_a : n0 ≤ a1) (g_b : n0 ≤ b) :
    MetFree l (⟨"java/lang/StringBuilder", "append", "(C)Ljava/lang/StringBuilder;"⟩ : MethodName) (head1 (Jvm.Cond.code (⟨"java/lang/StringBuilder", "append", "(C)Ljava/lang/StringBuilder;"⟩ : MethodName) jdk_67_method_14_code 2 (some (.object "java/lang/StringBuilder")) :: ws) ({ frames := 2, cells := 0, slots := 0, locals := 27 } : Room)) (fun a U => a = #[(.ref a1), (.int p2)] ∧ Z.Warmed39 U.vm ∧ U.heap = h0) (fun _ _ _ _ _ => True) (fun _ U o U' => ∃ v L, o = .returned v ∧ Q_sb_appC Z a1 p2 b cap n f cs h0 n0 v U'.heap L ∧ FrameEnd U o U' L ({ frames := 2, cells := 0, slots := 0, locals := 27 } : Room).cells ({ frames := 2, cells := 0, slots := 0, locals := 27 } : Room).slots) := by
  refine MetFree.of_bodySF (plainFor_of_name pn_3) hisR ?_
  intro p e s m args below meth c s₁ Bd hml0 hP hK
  obtain ⟨rfl, hZ, hh⟩ := hP
  have hx := Bd.exec
  have hby := Bd.bytes
  have hml : c.maxLocals = 2 := hml0
  have hown : s.vm.findClass "java/lang/StringBuilder" = some m.cls := findClass_of_methodNamed Bd.named
  have hnm := (name_of_methodNamed Bd.named Bd.method).1
  have X0 : Stand p l e ({ frames := 2, cells := 0, slots := 0, locals := 27 } : Room) s m #[(.ref a1), (.int p2)] below meth c s₁ [] 0 0 := Stand.of_body Bd
  have e0 : s₁.heap = h0 := by rw [← hh, Bd.state]; rfl
  have N0 := Fr.nil n0
  have eF : entryFrame m #[(.ref a1), (.int p2)] 2 = mkF m 0 #[.val (.ref a1), .val (.int p2)] [] := by first | (simp [entryFrame, mkF, argsToLocals, Value.category]; done) | rfl
  show Ends p e below s ({ frames := 2, cells := 0, slots := 0, locals := 27 } : Room) (Q_sb_appC Z a1 p2 b cap n f cs h0 n0) (s₁.setTop (entryFrame m #[(.ref a1), (.int p2)] 2))
  rw [eF]
  refine Ends.of (F' := s₁.setTop (mkF m 2 #[.val (.ref a1), .val (.int p2)] [(.int p2), (.ref a1)])) (fun _ kt => ?_) ?_
  · show Steps p.tables e below (s₁.setTop (mkF m 0 #[.val (.ref a1), .val (.int p2)] [])) _
    refine XS.aloadN X0.here hx rfl (hb hby d6_0) rfl rfl ?_
    show Steps p.tables e below (s₁.setTop (mkF m 1 #[.val (.ref a1), .val (.int p2)] [(.ref a1)])) _
    refine XS.iloadN X0.here hx rfl (hb hby d6_1) rfl ?_
    exact kt
  obtain ⟨_, _, ⟨T17, L17, k17, n17⟩, -, X17, ⟨Lc17, hQ17, l17, y17, z17⟩, st17⟩ := superBack X0 hx hZ (y := (⟨"java/lang/AbstractStringBuilder", "append", "(C)Ljava/lang/AbstractStringBuilder;"⟩ : MethodName)) hown (hw _ (List.mem_of_getElem? (i := 42) rfl)) (own_same (y := (⟨"java/lang/AbstractStringBuilder", "append", "(C)Ljava/lang/AbstractStringBuilder;"⟩ : MethodName)) (z := (⟨"java/lang/AbstractStringBuilder", "ensureCapacityInternal", "(I)V"⟩ : MethodName)) rfl (by decide) (hw _ (List.mem_of_getElem? (i := 43) rfl)) (hw _ (List.mem_of_getElem? (i := 52) rfl))) (hw _ (List.mem_of_getElem? (i := 43) rfl)) (hw _ (List.mem_of_getElem? (i := 44) rfl)) (by decide) (backOf (W := 0) (asb_appC l Z a0 hw [] a1 p2 b cap n f cs h0 n0 Z0 S0 hcs O F hp hn g_a g_b) hZ (hw _ (List.mem_of_getElem? (i := 46) rfl)) (hw _ (List.mem_of_getElem? (i := 20) rfl)) (by decide) (by decide)) e0 (Ins.self F.1) (g := (mkF m 2 #[.val (.ref a1), .val (.int p2)] [(.int p2), (.ref a1)])) rfl (by rw [hml]; rfl) (hw _ (List.mem_of_getElem? (i := 46) rfl)) (argsL := [(.int p2)]) (rest := []) (lenOf pd_4 rfl) rfl (by show 2 * 0 + _ ≤ _; exact Nat.le_of_eq rfl) (hb hby d6_2) (fun _ _ => ⟨rfl, e0, (by decide : 0 + 0 ≤ _), (by decide : 0 + 0 ≤ _)⟩)
  dsimp only [Pt.U, Pt.locs, Pt.cells, Pt.slots] at X17 l17 y17 z17 st17 hQ17
  subst l17 y17 z17
  obtain ⟨rfl, N17q, K17, F17⟩ := hQ17
  have N17 := Fr.app N0 N17q
  refine Ends.st st17 ?_
  refine Ends.of (F' := T17.setTop (mkF m 7 #[.val (.ref a1), .val (.int p2)] [(.ref a1)])) (fun _ kt => ?_) ?_
  · show Steps p.tables e below (T17.setTop (mkF m 5 #[.val (.ref a1), .val (.int p2)] [(.ref a1)])) _
    refine XS.pop X17.here hx rfl (hb hby d6_5) rfl rfl ?_
    show Steps p.tables e below (T17.setTop (mkF m 6 #[.val (.ref a1), .val (.int p2)] [])) _
    refine XS.aloadN X17.here hx rfl (hb hby d6_6) rfl rfl ?_
    exact kt
  obtain ⟨fs, hr, hrun, hended, hW, hsame⟩ := X17.leave (v := some (.ref a1)) (fun h => by rw [Bd.returns] at h; cases h)
  refine ⟨_, _, ?_, hrun, hended, _, _, rfl, ⟨rfl, N17, K17, F17⟩, ⟨_, rfl⟩, hW, hsame.mono (by decide) (by decide)⟩
  show Steps p.tables e below (T17.setTop (mkF m 7 #[.val (.ref a1), .val (.int p2)] [(.ref a1)])) _
  jvm_step X17.here [X17.here.top, hx, (hb hby d6_7), X17.method', Bd.returns, Value.isRef, FieldType.isReference]
  first | (intro acts; rw [hr _ acts rfl rfl rfl]) | rw [hr _ _ rfl rfl rfl]
  exact Steps.refl _
theorem d36_0 : decode jdk_68_method_30_code 0 = .ok (.aload_n 0, 1) := by decide +kernel
theorem d36_1 : decode jdk_68_method_30_code 1 = .ok (.aload_n 0, 1) := by decide +kernel
theorem d36_2 : decode jdk_68_method_30_code 2 = .ok (.getfield 79, 3) := by decide +kernel
theorem d36_5 : decode jdk_68_method_30_code 5 = .ok (.iload_n 1, 1) := by decide +kernel
theorem d36_6 : decode jdk_68_method_30_code 6 = .ok (.ifCond .eq 7, 3) := by decide +kernel
theorem d36_9 : decode jdk_68_method_30_code 9 = .ok (.iconst 4, 1) := by decide +kernel
theorem d36_10 : decode jdk_68_method_30_code 10 = .ok (.goto 4, 3) := by decide +kernel
theorem d36_13 : decode jdk_68_method_30_code 13 = .ok (.iconst 5, 1) := by decide +kernel
theorem d36_14 : decode jdk_68_method_30_code 14 = .ok (.iadd, 1) := by decide +kernel
theorem d36_15 : decode jdk_68_method_30_code 15 = .ok (.invokevirtual 100, 3) := by decide +kernel
theorem d36_18 : decode jdk_68_method_30_code 18 = .ok (.aload_n 0, 1) := by decide +kernel
theorem d36_19 : decode jdk_68_method_30_code 19 = .ok (.getfield 79, 3) := by decide +kernel
theorem d36_22 : decode jdk_68_method_30_code 22 = .ok (.istore_n 2, 1) := by decide +kernel
theorem d36_23 : decode jdk_68_method_30_code 23 = .ok (.aload_n 0, 1) := by decide +kernel
theorem d36_24 : decode jdk_68_method_30_code 24 = .ok (.getfield 15, 3) := by decide +kernel
theorem d36_27 : decode jdk_68_method_30_code 27 = .ok (.astore_n 3, 1) := by decide +kernel
theorem d36_28 : decode jdk_68_method_30_code 28 = .ok (.aload_n 0, 1) := by decide +kernel
theorem d36_29 : decode jdk_68_method_30_code 29 = .ok (.invokevirtual 83, 3) := by decide +kernel
theorem d36_32 : decode jdk_68_method_30_code 32 = .ok (.ifCond .eq 85, 3) := by decide +kernel
theorem d36_35 : decode jdk_68_method_30_code 35 = .ok (.iload_n 1, 1) := by decide +kernel
theorem d36_36 : decode jdk_68_method_30_code 36 = .ok (.ifCond .eq 38, 3) := by decide +kernel
theorem d36_39 : decode jdk_68_method_30_code 39 = .ok (.aload_n 3, 1) := by decide +kernel
theorem d36_40 : decode jdk_68_method_30_code 40 = .ok (.iload_n 2, 1) := by decide +kernel
theorem d36_41 : decode jdk_68_method_30_code 41 = .ok (.iinc 2 1, 3) := by decide +kernel
theorem d36_44 : decode jdk_68_method_30_code 44 = .ok (.bipush 116, 2) := by decide +kernel
theorem d36_46 : decode jdk_68_method_30_code 46 = .ok (.bastore, 1) := by decide +kernel
theorem d36_47 : decode jdk_68_method_30_code 47 = .ok (.aload_n 3, 1) := by decide +kernel
theorem d36_48 : decode jdk_68_method_30_code 48 = .ok (.iload_n 2, 1) := by decide +kernel
theorem d36_49 : decode jdk_68_method_30_code 49 = .ok (.iinc 2 1, 3) := by decide +kernel
theorem d36_52 : decode jdk_68_method_30_code 52 = .ok (.bipush 114, 2) := by decide +kernel
theorem d36_54 : decode jdk_68_method_30_code 54 = .ok (.bastore, 1) := by decide +kernel
theorem d36_55 : decode jdk_68_method_30_code 55 = .ok (.aload_n 3, 1) := by decide +kernel
theorem d36_56 : decode jdk_68_method_30_code 56 = .ok (.iload_n 2, 1) := by decide +kernel
theorem d36_57 : decode jdk_68_method_30_code 57 = .ok (.iinc 2 1, 3) := by decide +kernel
theorem d36_60 : decode jdk_68_method_30_code 60 = .ok (.bipush 117, 2) := by decide +kernel
theorem d36_62 : decode jdk_68_method_30_code 62 = .ok (.bastore, 1) := by decide +kernel
theorem d36_63 : decode jdk_68_method_30_code 63 = .ok (.aload_n 3, 1) := by decide +kernel
theorem d36_64 : decode jdk_68_method_30_code 64 = .ok (.iload_n 2, 1) := by decide +kernel
theorem d36_65 : decode jdk_68_method_30_code 65 = .ok (.iinc 2 1, 3) := by decide +kernel
theorem d36_68 : decode jdk_68_method_30_code 68 = .ok (.bipush 101, 2) := by decide +kernel
theorem d36_70 : decode jdk_68_method_30_code 70 = .ok (.bastore, 1) := by decide +kernel
theorem d36_71 : decode jdk_68_method_30_code 71 = .ok (.goto 83, 3) := by decide +kernel
theorem d36_74 : decode jdk_68_method_30_code 74 = .ok (.aload_n 3, 1) := by decide +kernel
theorem d36_75 : decode jdk_68_method_30_code 75 = .ok (.iload_n 2, 1) := by decide +kernel
theorem d36_76 : decode jdk_68_method_30_code 76 = .ok (.iinc 2 1, 3) := by decide +kernel
theorem d36_79 : decode jdk_68_method_30_code 79 = .ok (.bipush 102, 2) := by decide +kernel
theorem d36_81 : decode jdk_68_method_30_code 81 = .ok (.bastore, 1) := by decide +kernel
theorem d36_82 : decode jdk_68_method_30_code 82 = .ok (.aload_n 3, 1) := by decide +kernel
theorem d36_83 : decode jdk_68_method_30_code 83 = .ok (.iload_n 2, 1) := by decide +kernel
theorem d36_84 : decode jdk_68_method_30_code 84 = .ok (.iinc 2 1, 3) := by decide +kernel
theorem d36_87 : decode jdk_68_method_30_code 87 = .ok (.bipush 97, 2) := by decide +kernel
theorem d36_89 : decode jdk_68_method_30_code 89 = .ok (.bastore, 1) := by decide +kernel
theorem d36_90 : decode jdk_68_method_30_code 90 = .ok (.aload_n 3, 1) := by decide +kernel
theorem d36_91 : decode jdk_68_method_30_code 91 = .ok (.iload_n 2, 1) := by decide +kernel
theorem d36_92 : decode jdk_68_method_30_code 92 = .ok (.iinc 2 1, 3) := by decide +kernel
theorem d36_95 : decode jdk_68_method_30_code 95 = .ok (.bipush 108, 2) := by decide +kernel
theorem d36_97 : decode jdk_68_method_30_code 97 = .ok (.bastore, 1) := by decide +kernel
theorem d36_98 : decode jdk_68_method_30_code 98 = .ok (.aload_n 3, 1) := by decide +kernel
theorem d36_99 : decode jdk_68_method_30_code 99 = .ok (.iload_n 2, 1) := by decide +kernel
theorem d36_100 : decode jdk_68_method_30_code 100 = .ok (.iinc 2 1, 3) := by decide +kernel
theorem d36_103 : decode jdk_68_method_30_code 103 = .ok (.bipush 115, 2) := by decide +kernel
theorem d36_105 : decode jdk_68_method_30_code 105 = .ok (.bastore, 1) := by decide +kernel
theorem d36_106 : decode jdk_68_method_30_code 106 = .ok (.aload_n 3, 1) := by decide +kernel
theorem d36_107 : decode jdk_68_method_30_code 107 = .ok (.iload_n 2, 1) := by decide +kernel
theorem d36_108 : decode jdk_68_method_30_code 108 = .ok (.iinc 2 1, 3) := by decide +kernel
theorem d36_111 : decode jdk_68_method_30_code 111 = .ok (.bipush 101, 2) := by decide +kernel
theorem d36_113 : decode jdk_68_method_30_code 113 = .ok (.bastore, 1) := by decide +kernel
theorem d36_114 : decode jdk_68_method_30_code 114 = .ok (.goto 40, 3) := by decide +kernel
theorem d36_117 : decode jdk_68_method_30_code 117 = .ok (.iload_n 1, 1) := by decide +kernel
theorem d36_118 : decode jdk_68_method_30_code 118 = .ok (.ifCond .eq 20, 3) := by decide +kernel
theorem d36_121 : decode jdk_68_method_30_code 121 = .ok (.aload_n 3, 1) := by decide +kernel
theorem d36_122 : decode jdk_68_method_30_code 122 = .ok (.iload_n 2, 1) := by decide +kernel
theorem d36_123 : decode jdk_68_method_30_code 123 = .ok (.bipush 116, 2) := by decide +kernel
theorem d36_125 : decode jdk_68_method_30_code 125 = .ok (.bipush 114, 2) := by decide +kernel
theorem d36_127 : decode jdk_68_method_30_code 127 = .ok (.bipush 117, 2) := by decide +kernel
theorem d36_129 : decode jdk_68_method_30_code 129 = .ok (.bipush 101, 2) := by decide +kernel
theorem d36_131 : decode jdk_68_method_30_code 131 = .ok (.invokestatic 226, 3) := by decide +kernel
theorem d36_134 : decode jdk_68_method_30_code 134 = .ok (.istore_n 2, 1) := by decide +kernel
theorem d36_135 : decode jdk_68_method_30_code 135 = .ok (.goto 19, 3) := by decide +kernel
theorem d36_138 : decode jdk_68_method_30_code 138 = .ok (.aload_n 3, 1) := by decide +kernel
theorem d36_139 : decode jdk_68_method_30_code 139 = .ok (.iload_n 2, 1) := by decide +kernel
theorem d36_140 : decode jdk_68_method_30_code 140 = .ok (.bipush 102, 2) := by decide +kernel
theorem d36_142 : decode jdk_68_method_30_code 142 = .ok (.bipush 97, 2) := by decide +kernel
theorem d36_144 : decode jdk_68_method_30_code 144 = .ok (.bipush 108, 2) := by decide +kernel
theorem d36_146 : decode jdk_68_method_30_code 146 = .ok (.bipush 115, 2) := by decide +kernel
theorem d36_148 : decode jdk_68_method_30_code 148 = .ok (.bipush 101, 2) := by decide +kernel
theorem d36_150 : decode jdk_68_method_30_code 150 = .ok (.invokestatic 242, 3) := by decide +kernel
theorem d36_153 : decode jdk_68_method_30_code 153 = .ok (.istore_n 2, 1) := by decide +kernel
theorem d36_154 : decode jdk_68_method_30_code 154 = .ok (.aload_n 0, 1) := by decide +kernel
theorem d36_155 : decode jdk_68_method_30_code 155 = .ok (.iload_n 2, 1) := by decide +kernel
theorem d36_156 : decode jdk_68_method_30_code 156 = .ok (.putfield 79, 3) := by decide +kernel
theorem d36_159 : decode jdk_68_method_30_code 159 = .ok (.aload_n 0, 1) := by decide +kernel
theorem d36_160 : decode jdk_68_method_30_code 160 = .ok (.areturn, 1) := by decide +kernel
def Q_asb_appZ1 (Z : State) (a1 : Addr) (b : Addr) (cap : Nat) (n : Nat) (f : Nat → Int32) (cs : Int32) (h0 : Heap) (n0 : Nat) (v : Option Value) (h : Heap) (L : List Loc) : Prop := v = some (.ref a1) ∧ Fr n0 L ∧ Keep h0 h [a1, b] ∧ SBd Z h a1 b cap (n + 4) (fun x => if x = n + 3 then (101 : Int32) else if x = n + 2 then (117 : Int32) else if x = n + 1 then (114 : Int32) else if x = n + 0 then (116 : Int32) else f x)
set_option maxRecDepth 65536 in
set_option maxHeartbeats 40000000 in
theorem asb_appZ1 (l : Launch) (Z : State) (a0 : Array Value) (hw : ∀ d ∈ tables_1, d.before a0 Z = true) (ws : List Jvm.Cond) (a1 : Addr) (b : Addr) (cap : Nat) (n : Nat) (f : Nat → Int32) (cs : Int32) (h0 : Heap) (n0 : Nat) (Z0 : n0 ≤ h0.size) (S0 : Sta Z Z.heap "java/lang/String" "COMPACT_STRINGS" "Z" (.int cs)) (hcs : ¬ cs = (0 : Int32)) (O : Old Z n0 h0) (F : SBd Z h0 a1 b cap n f) (hn : n + 4 ≤ cap) (g_a : n0 ≤ a1) (g_b : n0 ≤ b) :
    MetFree l (⟨"java/lang/AbstractStringBuilder", "append", "(Z)Ljava/lang/AbstractStringBuilder;"⟩ : MethodName) (head1 (Jvm.Cond.code (⟨"java/lang/AbstractStringBuilder", "append", "(Z)Ljava/lang/AbstractStringBuilder;"⟩ : MethodName) jdk_68_method_30_code 4 (some (.object "java/lang/AbstractStringBuilder")) :: ws) ({ frames := 1, cells := 0, slots := 0, locals := 14 } : Room)) (fun a U => a = #[(.ref a1), (.int (1 : Int32))] ∧ Z.Warmed39 U.vm ∧ U.heap = h0) (fun _ _ _ _ _ => True) (fun _ U o U' => ∃ v L, o = .returned v ∧ Q_asb_appZ1 Z a1 b cap n f cs h0 n0 v U'.heap L ∧ FrameEnd U o U' L ({ frames := 1, cells := 0, slots := 0, locals := 14 } : Room).cells ({ frames := 1, cells := 0, slots := 0, locals := 14 } : Room).slots) := by
  refine MetFree.of_bodySF (plainFor_of_name pn_2) hisR ?_
  intro p e s m args below meth c s₁ Bd hml0 hP hK
  obtain ⟨rfl, hZ, hh⟩ := hP
  have hx := Bd.exec
  have hby := Bd.bytes
  have hml : c.maxLocals = 4 := hml0
  have hown : s.vm.findClass "java/lang/AbstractStringBuilder" = some m.cls := findClass_of_methodNamed Bd.named
  have hnm := (name_of_methodNamed Bd.named Bd.method).1
  have X0 : Stand p l e ({ frames := 1, cells := 0, slots := 0, locals := 14 } : Room) s m #[(.ref a1), (.int (1 : Int32))] below meth c s₁ [] 0 0 := Stand.of_body Bd
  have e0 : s₁.heap = h0 := by rw [← hh, Bd.state]; rfl
  have N0 := Fr.nil n0
  have eF : entryFrame m #[(.ref a1), (.int (1 : Int32))] 4 = mkF m 0 #[.val (.ref a1), .val (.int (1 : Int32)), .unset, .unset] [] := by first | (simp [entryFrame, mkF, argsToLocals, Value.category]; done) | rfl
  show Ends p e below s ({ frames := 1, cells := 0, slots := 0, locals := 14 } : Room) (Q_asb_appZ1 Z a1 b cap n f cs h0 n0) (s₁.setTop (entryFrame m #[(.ref a1), (.int (1 : Int32))] 4))
  rw [eF]
  obtain ⟨Ex, Fc, Fn, Fv, Va, hcap⟩ := id F
  have hc1 := Va.1
  refine Ends.of (F' := s₁.setTop (mkF m 2 #[.val (.ref a1), .val (.int (1 : Int32)), .unset, .unset] [(.ref a1), (.ref a1)])) (fun _ kt => ?_) ?_
  · show Steps p.tables e below (s₁.setTop (mkF m 0 #[.val (.ref a1), .val (.int (1 : Int32)), .unset, .unset] [])) _
    refine XS.aloadN X0.here hx rfl (hb hby d36_0) rfl rfl ?_
    show Steps p.tables e below (s₁.setTop (mkF m 1 #[.val (.ref a1), .val (.int (1 : Int32)), .unset, .unset] [(.ref a1)])) _
    refine XS.aloadN X0.here hx rfl (hb hby d36_1) rfl rfl ?_
    exact kt
  obtain ⟨T18, X18, e18, st18⟩ := getF X0 hx hZ hown (host := "") (Or.inl (hw _ (List.mem_of_getElem? (i := 47) rfl))) Via.refl e0 Fn (g := (mkF m 2 #[.val (.ref a1), .val (.int (1 : Int32)), .unset, .unset] [(.ref a1), (.ref a1)])) rfl rfl (hb hby d36_2)
  refine Ends.of st18 ?_
  refine Ends.of (F' := T18.setTop (mkF m 15 #[.val (.ref a1), .val (.int (1 : Int32)), .unset, .unset] [(.int ((Int32.ofNat n) + (4 : Int32))), (.ref a1)])) (fun _ kt => ?_) ?_
  · show Steps p.tables e below (T18.setTop (mkF m 5 #[.val (.ref a1), .val (.int (1 : Int32)), .unset, .unset] [(.int (Int32.ofNat n)), (.ref a1)])) _
    refine XS.iloadN X18.here hx rfl (hb hby d36_5) rfl ?_
    show Steps p.tables e below (T18.setTop (mkF m 6 #[.val (.ref a1), .val (.int (1 : Int32)), .unset, .unset] [(.int (1 : Int32)), (.int (Int32.ofNat n)), (.ref a1)])) _
    refine XS.ifNo X18.here hx rfl (hb hby d36_6) rfl ((if0 _ _).trans (feq (by decide)).1) ?_
    show Steps p.tables e below (T18.setTop (mkF m 9 #[.val (.ref a1), .val (.int (1 : Int32)), .unset, .unset] [(.int (Int32.ofNat n)), (.ref a1)])) _
    refine XS.iconst X18.here hx rfl (hb hby d36_9) ?_
    show Steps p.tables e below (T18.setTop (mkF m 10 #[.val (.ref a1), .val (.int (1 : Int32)), .unset, .unset] [(.int (4 : Int32)), (.int (Int32.ofNat n)), (.ref a1)])) _
    refine XS.goto X18.here hx rfl (pc0 := 10) (pc' := 14) rfl (hb hby d36_10) (by decide) (by decide) ?_
    show Steps p.tables e below (T18.setTop (mkF m 14 #[.val (.ref a1), .val (.int (1 : Int32)), .unset, .unset] [(.int (4 : Int32)), (.int (Int32.ofNat n)), (.ref a1)])) _
    refine XS.iadd X18.here hx rfl (hb hby d36_14) rfl ?_
    exact kt
  rw [show Int32.ofNat n + (4 : Int32) = Int32.ofNat (n + 4) from own_add n 4]
  obtain ⟨cq19, kq19, q19a, q19b, q19c⟩ := isOf hZ e18 F.1
  obtain ⟨_, _, ⟨T19, L19, k19, n19⟩, -, X19, ⟨Lc19, hQ19, l19, y19, z19⟩, st19⟩ := X18.virtualBack hx (y := (⟨"java/lang/AbstractStringBuilder", "ensureCapacityInternal", "(I)V"⟩ : MethodName)) (z := (⟨"java/lang/AbstractStringBuilder", "ensureCapacityInternal", "(I)V"⟩ : MethodName)) hown (mvT hZ (hw _ (List.mem_of_getElem? (i := 49) rfl))) (mvT hZ (own_decl (hw _ (List.mem_of_getElem? (i := 50) rfl)) (hw _ (List.mem_of_getElem? (i := 53) rfl)))) (notFace_of_selects (args := #[]) (mvT hZ (hw _ (List.mem_of_getElem? (i := 52) rfl)))) (mvT hZ (hw _ (List.mem_of_getElem? (i := 52) rfl))) (mvT hZ (hw _ (List.mem_of_getElem? (i := 50) rfl))) (by decide) (backOf (W := 0) (asb_ens l Z a0 hw [] a1 b cap n f (n + 4) h0 n0 Z0 F (by omega)) hZ (hw _ (List.mem_of_getElem? (i := 53) rfl)) (hw _ (List.mem_of_getElem? (i := 20) rfl)) (by decide) (by decide)) q19a q19c (g := (mkF m 15 #[.val (.ref a1), .val (.int (1 : Int32)), .unset, .unset] [(.int (Int32.ofNat (n + 4))), (.ref a1)])) rfl (by rw [hml]; rfl) (Steps.refl _) (argsL := [(.int (Int32.ofNat (n + 4)))]) (rest := []) (lenOf pd_1 rfl) rfl (by show 2 * 0 + _ ≤ _; exact Nat.le_of_eq rfl) (hb hby d36_15) (fun _ _ => ⟨rfl, e18, (by decide : 0 + 0 ≤ _), (by decide : 0 + 0 ≤ _)⟩)
  dsimp only [Pt.U, Pt.locs, Pt.cells, Pt.slots] at X19 l19 y19 z19 st19 hQ19
  subst l19 y19 z19
  obtain ⟨rfl, N19q, e19⟩ := hQ19
  have N19 := Fr.app N0 N19q
  refine Ends.st st19 ?_
  refine Ends.of (F' := T19.setTop (mkF m 19 #[.val (.ref a1), .val (.int (1 : Int32)), .unset, .unset] [(.ref a1)])) (fun _ kt => ?_) ?_
  · show Steps p.tables e below (T19.setTop (mkF m 18 #[.val (.ref a1), .val (.int (1 : Int32)), .unset, .unset] [])) _
    refine XS.aloadN X19.here hx rfl (hb hby d36_18) rfl rfl ?_
    exact kt
  obtain ⟨T20, X20, e20, st20⟩ := getF X19 hx hZ hown (host := "") (Or.inl (hw _ (List.mem_of_getElem? (i := 47) rfl))) Via.refl e19 Fn (g := (mkF m 19 #[.val (.ref a1), .val (.int (1 : Int32)), .unset, .unset] [(.ref a1)])) rfl rfl (hb hby d36_19)
  refine Ends.of st20 ?_
  refine Ends.of (F' := T20.setTop (mkF m 24 #[.val (.ref a1), .val (.int (1 : Int32)), .val (.int (Int32.ofNat n)), .unset] [(.ref a1)])) (fun _ kt => ?_) ?_
  · show Steps p.tables e below (T20.setTop (mkF m 22 #[.val (.ref a1), .val (.int (1 : Int32)), .unset, .unset] [(.int (Int32.ofNat n))])) _
    refine XS.istoreN X20.here hx rfl (hb hby d36_22) rfl (l' := #[.val (.ref a1), .val (.int (1 : Int32)), .val (.int (Int32.ofNat n)), .unset]) rfl ?_
    show Steps p.tables e below (T20.setTop (mkF m 23 #[.val (.ref a1), .val (.int (1 : Int32)), .val (.int (Int32.ofNat n)), .unset] [])) _
    refine XS.aloadN X20.here hx rfl (hb hby d36_23) rfl rfl ?_
    exact kt
  obtain ⟨T21, X21, e21, st21⟩ := getF X20 hx hZ hown (host := "") (Or.inl (hw _ (List.mem_of_getElem? (i := 26) rfl))) Via.refl e20 Fv (g := (mkF m 24 #[.val (.ref a1), .val (.int (1 : Int32)), .val (.int (Int32.ofNat n)), .unset] [(.ref a1)])) rfl rfl (hb hby d36_24)
  refine Ends.of st21 ?_
  refine Ends.of (F' := T21.setTop (mkF m 29 #[.val (.ref a1), .val (.int (1 : Int32)), .val (.int (Int32.ofNat n)), .val (.ref b)] [(.ref a1)])) (fun _ kt => ?_) ?_
  · show Steps p.tables e below (T21.setTop (mkF m 27 #[.val (.ref a1), .val (.int (1 : Int32)), .val (.int (Int32.ofNat n)), .unset] [(.ref b)])) _
    refine XS.astoreN X21.here hx rfl (hb hby d36_27) rfl rfl (l' := #[.val (.ref a1), .val (.int (1 : Int32)), .val (.int (Int32.ofNat n)), .val (.ref b)]) rfl ?_
    show Steps p.tables e below (T21.setTop (mkF m 28 #[.val (.ref a1), .val (.int (1 : Int32)), .val (.int (Int32.ofNat n)), .val (.ref b)] [])) _
    refine XS.aloadN X21.here hx rfl (hb hby d36_28) rfl rfl ?_
    exact kt
  obtain ⟨cq22, kq22, q22a, q22b, q22c⟩ := isOf hZ e21 F.1
  obtain ⟨_, _, ⟨T22, L22, k22, n22⟩, -, X22, ⟨Lc22, hQ22, l22, y22, z22⟩, st22⟩ := X21.virtualBack hx (y := (⟨"java/lang/AbstractStringBuilder", "isLatin1", "()Z"⟩ : MethodName)) (z := (⟨"java/lang/AbstractStringBuilder", "isLatin1", "()Z"⟩ : MethodName)) hown (mvT hZ (hw _ (List.mem_of_getElem? (i := 54) rfl))) (mvT hZ (hw _ (List.mem_of_getElem? (i := 55) rfl))) (notFace_of_selects (args := #[]) (mvT hZ (hw _ (List.mem_of_getElem? (i := 57) rfl)))) (mvT hZ (hw _ (List.mem_of_getElem? (i := 57) rfl))) (mvT hZ (hw _ (List.mem_of_getElem? (i := 56) rfl))) (by decide) (backOf (W := 0) (asb_lat l Z a0 hw [] a1 cs h0 n0 Z0 S0 hcs O F.2.1) hZ (hw _ (List.mem_of_getElem? (i := 58) rfl)) (hw _ (List.mem_of_getElem? (i := 20) rfl)) (by decide) (by decide)) q22a q22c (g := (mkF m 29 #[.val (.ref a1), .val (.int (1 : Int32)), .val (.int (Int32.ofNat n)), .val (.ref b)] [(.ref a1)])) rfl (by rw [hml]; rfl) (Steps.refl _) (argsL := []) (rest := []) (lenOf pd_5 rfl) rfl (by show 2 * 0 + _ ≤ _; exact Nat.le_of_eq rfl) (hb hby d36_29) (fun _ _ => ⟨rfl, e21, (by decide : 0 + 0 ≤ _), (by decide : 0 + 0 ≤ _)⟩)
  dsimp only [Pt.U, Pt.locs, Pt.cells, Pt.slots] at X22 l22 y22 z22 st22 hQ22
  subst l22 y22 z22
  obtain ⟨rfl, N22q, e22⟩ := hQ22
  have N22 := Fr.app N19 N22q
  refine Ends.st st22 ?_
  obtain ⟨cb0, Ab0, -, -, -⟩ := Va.op
  have nab : a1 ≠ b := ne_arr Ex (hw _ (List.mem_of_getElem? (i := 11) rfl)) Ab0
  have K0 : Keep h0 h0 [a1, b] := Keep.refl _ _
  obtain ⟨cb1, Ab1, Sb1, -, put1⟩ := Va.op
  refine Ends.of (F' := T22.setTop (mkF m 46 #[.val (.ref a1), .val (.int (1 : Int32)), .val (.int ((Int32.ofNat n) + (1 : Int32))), .val (.ref b)] [(.int (116 : Int32)), (.int (Int32.ofNat n)), (.ref b)])) (fun _ kt => ?_) ?_
  · show Steps p.tables e below (T22.setTop (mkF m 32 #[.val (.ref a1), .val (.int (1 : Int32)), .val (.int (Int32.ofNat n)), .val (.ref b)] [(.int (1 : Int32))])) _
    refine XS.ifNo X22.here hx rfl (hb hby d36_32) rfl ((if0 _ _).trans (feq (by decide)).1) ?_
    show Steps p.tables e below (T22.setTop (mkF m 35 #[.val (.ref a1), .val (.int (1 : Int32)), .val (.int (Int32.ofNat n)), .val (.ref b)] [])) _
    refine XS.iloadN X22.here hx rfl (hb hby d36_35) rfl ?_
    show Steps p.tables e below (T22.setTop (mkF m 36 #[.val (.ref a1), .val (.int (1 : Int32)), .val (.int (Int32.ofNat n)), .val (.ref b)] [(.int (1 : Int32))])) _
    refine XS.ifNo X22.here hx rfl (hb hby d36_36) rfl ((if0 _ _).trans (feq (by decide)).1) ?_
    show Steps p.tables e below (T22.setTop (mkF m 39 #[.val (.ref a1), .val (.int (1 : Int32)), .val (.int (Int32.ofNat n)), .val (.ref b)] [])) _
    refine XS.aloadN X22.here hx rfl (hb hby d36_39) rfl rfl ?_
    show Steps p.tables e below (T22.setTop (mkF m 40 #[.val (.ref a1), .val (.int (1 : Int32)), .val (.int (Int32.ofNat n)), .val (.ref b)] [(.ref b)])) _
    refine XS.iloadN X22.here hx rfl (hb hby d36_40) rfl ?_
    show Steps p.tables e below (T22.setTop (mkF m 41 #[.val (.ref a1), .val (.int (1 : Int32)), .val (.int (Int32.ofNat n)), .val (.ref b)] [(.int (Int32.ofNat n)), (.ref b)])) _
    refine XS.iinc X22.here hx rfl (hb hby d36_41) rfl (l' := #[.val (.ref a1), .val (.int (1 : Int32)), .val (.int ((Int32.ofNat n) + (1 : Int32))), .val (.ref b)]) rfl ?_
    show Steps p.tables e below (T22.setTop (mkF m 44 #[.val (.ref a1), .val (.int (1 : Int32)), .val (.int ((Int32.ofNat n) + (1 : Int32))), .val (.ref b)] [(.int (Int32.ofNat n)), (.ref b)])) _
    refine XS.bipush X22.here hx rfl (hb hby d36_44) ?_
    exact kt
  rw [show Int32.ofNat n + (1 : Int32) = Int32.ofNat (n + 1) from own_add n 1]
  obtain ⟨T23, h23, X23, e23, W23, st23⟩ := stB X22 hx hZ e22 Ab1 (j := (Int32.ofNat n)) (own_hin (i := n + 0) Sb1 rfl (by omega) (by omega)) (g := (mkF m 46 #[.val (.ref a1), .val (.int (1 : Int32)), .val (.int (Int32.ofNat (n + 1))), .val (.ref b)] [(.int (116 : Int32)), (.int (Int32.ofNat n)), (.ref b)])) rfl rfl (hb hby d36_46)
  refine Ends.of st23 ?_
  have N23 := Fr.snoc X23 N22 g_b
  have V1 := put1 _ _ _ (n + 0) W23 (own_clamp (by omega)) (by omega) (by decide)
  have K1 : Keep h0 h23 [a1, b] := K0.wr W23 (Or.inl (List.mem_of_getElem? (i := 1) rfl))
  have Fc_1 := Fc.other W23 (Or.inl nab)
  have Fn_1 := Fn.other W23 (Or.inl nab)
  have Fv_1 := Fv.other W23 (Or.inl nab)
  have Ex_1 := Ex.wr W23
  obtain ⟨cb2, Ab2, Sb2, -, put2⟩ := V1.op
  refine Ends.of (F' := T23.setTop (mkF m 54 #[.val (.ref a1), .val (.int (1 : Int32)), .val (.int ((Int32.ofNat (n + 1)) + (1 : Int32))), .val (.ref b)] [(.int (114 : Int32)), (.int (Int32.ofNat (n + 1))), (.ref b)])) (fun _ kt => ?_) ?_
  · show Steps p.tables e below (T23.setTop (mkF m 47 #[.val (.ref a1), .val (.int (1 : Int32)), .val (.int (Int32.ofNat (n + 1))), .val (.ref b)] [])) _
    refine XS.aloadN X23.here hx rfl (hb hby d36_47) rfl rfl ?_
    show Steps p.tables e below (T23.setTop (mkF m 48 #[.val (.ref a1), .val (.int (1 : Int32)), .val (.int (Int32.ofNat (n + 1))), .val (.ref b)] [(.ref b)])) _
    refine XS.iloadN X23.here hx rfl (hb hby d36_48) rfl ?_
    show Steps p.tables e below (T23.setTop (mkF m 49 #[.val (.ref a1), .val (.int (1 : Int32)), .val (.int (Int32.ofNat (n + 1))), .val (.ref b)] [(.int (Int32.ofNat (n + 1))), (.ref b)])) _
    refine XS.iinc X23.here hx rfl (hb hby d36_49) rfl (l' := #[.val (.ref a1), .val (.int (1 : Int32)), .val (.int ((Int32.ofNat (n + 1)) + (1 : Int32))), .val (.ref b)]) rfl ?_
    show Steps p.tables e below (T23.setTop (mkF m 52 #[.val (.ref a1), .val (.int (1 : Int32)), .val (.int ((Int32.ofNat (n + 1)) + (1 : Int32))), .val (.ref b)] [(.int (Int32.ofNat (n + 1))), (.ref b)])) _
    refine XS.bipush X23.here hx rfl (hb hby d36_52) ?_
    exact kt
  rw [show Int32.ofNat (n + 1) + (1 : Int32) = Int32.ofNat (n + 2) from own_add (n + 1) 1]
  obtain ⟨T24, h24, X24, e24, W24, st24⟩ := stB X23 hx hZ e23 Ab2 (j := (Int32.ofNat (n + 1))) (own_hin (i := n + 1) Sb2 rfl (by omega) (by omega)) (g := (mkF m 54 #[.val (.ref a1), .val (.int (1 : Int32)), .val (.int (Int32.ofNat (n + 2))), .val (.ref b)] [(.int (114 : Int32)), (.int (Int32.ofNat (n + 1))), (.ref b)])) rfl rfl (hb hby d36_54)
  refine Ends.of st24 ?_
  have N24 := Fr.snoc X24 N23 g_b
  have V2 := put2 _ _ _ (n + 1) W24 (own_clamp (by omega)) (by omega) (by decide)
  have K2 : Keep h0 h24 [a1, b] := K1.wr W24 (Or.inl (List.mem_of_getElem? (i := 1) rfl))
  have Fc_2 := Fc_1.other W24 (Or.inl nab)
  have Fn_2 := Fn_1.other W24 (Or.inl nab)
  have Fv_2 := Fv_1.other W24 (Or.inl nab)
  have Ex_2 := Ex_1.wr W24
  obtain ⟨cb3, Ab3, Sb3, -, put3⟩ := V2.op
  refine Ends.of (F' := T24.setTop (mkF m 62 #[.val (.ref a1), .val (.int (1 : Int32)), .val (.int ((Int32.ofNat (n + 2)) + (1 : Int32))), .val (.ref b)] [(.int (117 : Int32)), (.int (Int32.ofNat (n + 2))), (.ref b)])) (fun _ kt => ?_) ?_
  · show Steps p.tables e below (T24.setTop (mkF m 55 #[.val (.ref a1), .val (.int (1 : Int32)), .val (.int (Int32.ofNat (n + 2))), .val (.ref b)] [])) _
    refine XS.aloadN X24.here hx rfl (hb hby d36_55) rfl rfl ?_
    show Steps p.tables e below (T24.setTop (mkF m 56 #[.val (.ref a1), .val (.int (1 : Int32)), .val (.int (Int32.ofNat (n + 2))), .val (.ref b)] [(.ref b)])) _
    refine XS.iloadN X24.here hx rfl (hb hby d36_56) rfl ?_
    show Steps p.tables e below (T24.setTop (mkF m 57 #[.val (.ref a1), .val (.int (1 : Int32)), .val (.int (Int32.ofNat (n + 2))), .val (.ref b)] [(.int (Int32.ofNat (n + 2))), (.ref b)])) _
    refine XS.iinc X24.here hx rfl (hb hby d36_57) rfl (l' := #[.val (.ref a1), .val (.int (1 : Int32)), .val (.int ((Int32.ofNat (n + 2)) + (1 : Int32))), .val (.ref b)]) rfl ?_
    show Steps p.tables e below (T24.setTop (mkF m 60 #[.val (.ref a1), .val (.int (1 : Int32)), .val (.int ((Int32.ofNat (n + 2)) + (1 : Int32))), .val (.ref b)] [(.int (Int32.ofNat (n + 2))), (.ref b)])) _
    refine XS.bipush X24.here hx rfl (hb hby d36_60) ?_
    exact kt
  rw [show Int32.ofNat (n + 2) + (1 : Int32) = Int32.ofNat (n + 3) from own_add (n + 2) 1]
  obtain ⟨T25, h25, X25, e25, W25, st25⟩ := stB X24 hx hZ e24 Ab3 (j := (Int32.ofNat (n + 2))) (own_hin (i := n + 2) Sb3 rfl (by omega) (by omega)) (g := (mkF m 62 #[.val (.ref a1), .val (.int (1 : Int32)), .val (.int (Int32.ofNat (n + 3))), .val (.ref b)] [(.int (117 : Int32)), (.int (Int32.ofNat (n + 2))), (.ref b)])) rfl rfl (hb hby d36_62)
  refine Ends.of st25 ?_
  have N25 := Fr.snoc X25 N24 g_b
  have V3 := put3 _ _ _ (n + 2) W25 (own_clamp (by omega)) (by omega) (by decide)
  have K3 : Keep h0 h25 [a1, b] := K2.wr W25 (Or.inl (List.mem_of_getElem? (i := 1) rfl))
  have Fc_3 := Fc_2.other W25 (Or.inl nab)
  have Fn_3 := Fn_2.other W25 (Or.inl nab)
  have Fv_3 := Fv_2.other W25 (Or.inl nab)
  have Ex_3 := Ex_2.wr W25
  obtain ⟨cb4, Ab4, Sb4, -, put4⟩ := V3.op
  refine Ends.of (F' := T25.setTop (mkF m 70 #[.val (.ref a1), .val (.int (1 : Int32)), .val (.int ((Int32.ofNat (n + 3)) + (1 : Int32))), .val (.ref b)] [(.int (101 : Int32)), (.int (Int32.ofNat (n + 3))), (.ref b)])) (fun _ kt => ?_) ?_
  · show Steps p.tables e below (T25.setTop (mkF m 63 #[.val (.ref a1), .val (.int (1 : Int32)), .val (.int (Int32.ofNat (n + 3))), .val (.ref b)] [])) _
    refine XS.aloadN X25.here hx rfl (hb hby d36_63) rfl rfl ?_
    show Steps p.tables e below (T25.setTop (mkF m 64 #[.val (.ref a1), .val (.int (1 : Int32)), .val (.int (Int32.ofNat (n + 3))), .val (.ref b)] [(.ref b)])) _
    refine XS.iloadN X25.here hx rfl (hb hby d36_64) rfl ?_
    show Steps p.tables e below (T25.setTop (mkF m 65 #[.val (.ref a1), .val (.int (1 : Int32)), .val (.int (Int32.ofNat (n + 3))), .val (.ref b)] [(.int (Int32.ofNat (n + 3))), (.ref b)])) _
    refine XS.iinc X25.here hx rfl (hb hby d36_65) rfl (l' := #[.val (.ref a1), .val (.int (1 : Int32)), .val (.int ((Int32.ofNat (n + 3)) + (1 : Int32))), .val (.ref b)]) rfl ?_
    show Steps p.tables e below (T25.setTop (mkF m 68 #[.val (.ref a1), .val (.int (1 : Int32)), .val (.int ((Int32.ofNat (n + 3)) + (1 : Int32))), .val (.ref b)] [(.int (Int32.ofNat (n + 3))), (.ref b)])) _
    refine XS.bipush X25.here hx rfl (hb hby d36_68) ?_
    exact kt
  rw [show Int32.ofNat (n + 3) + (1 : Int32) = Int32.ofNat (n + 4) from own_add (n + 3) 1]
  obtain ⟨T26, h26, X26, e26, W26, st26⟩ := stB X25 hx hZ e25 Ab4 (j := (Int32.ofNat (n + 3))) (own_hin (i := n + 3) Sb4 rfl (by omega) (by omega)) (g := (mkF m 70 #[.val (.ref a1), .val (.int (1 : Int32)), .val (.int (Int32.ofNat (n + 4))), .val (.ref b)] [(.int (101 : Int32)), (.int (Int32.ofNat (n + 3))), (.ref b)])) rfl rfl (hb hby d36_70)
  refine Ends.of st26 ?_
  have N26 := Fr.snoc X26 N25 g_b
  have V4 := put4 _ _ _ (n + 3) W26 (own_clamp (by omega)) (by omega) (by decide)
  have K4 : Keep h0 h26 [a1, b] := K3.wr W26 (Or.inl (List.mem_of_getElem? (i := 1) rfl))
  have Fc_4 := Fc_3.other W26 (Or.inl nab)
  have Fn_4 := Fn_3.other W26 (Or.inl nab)
  have Fv_4 := Fv_3.other W26 (Or.inl nab)
  have Ex_4 := Ex_3.wr W26
  refine Ends.of (F' := T26.setTop (mkF m 156 #[.val (.ref a1), .val (.int (1 : Int32)), .val (.int (Int32.ofNat (n + 4))), .val (.ref b)] [(.int (Int32.ofNat (n + 4))), (.ref a1)])) (fun _ kt => ?_) ?_
  · show Steps p.tables e below (T26.setTop (mkF m 71 #[.val (.ref a1), .val (.int (1 : Int32)), .val (.int (Int32.ofNat (n + 4))), .val (.ref b)] [])) _
    refine XS.goto X26.here hx rfl (pc0 := 71) (pc' := 154) rfl (hb hby d36_71) (by decide) (by decide) ?_
    show Steps p.tables e below (T26.setTop (mkF m 154 #[.val (.ref a1), .val (.int (1 : Int32)), .val (.int (Int32.ofNat (n + 4))), .val (.ref b)] [])) _
    refine XS.aloadN X26.here hx rfl (hb hby d36_154) rfl rfl ?_
    show Steps p.tables e below (T26.setTop (mkF m 155 #[.val (.ref a1), .val (.int (1 : Int32)), .val (.int (Int32.ofNat (n + 4))), .val (.ref b)] [(.ref a1)])) _
    refine XS.iloadN X26.here hx rfl (hb hby d36_155) rfl ?_
    exact kt
  obtain ⟨T27, h27, X27, e27, W27, st27⟩ := putF X26 hx hZ hown (host := "") (Or.inl (hw _ (List.mem_of_getElem? (i := 47) rfl))) Via.refl e26 Fn_4 Ex_4 (Or.inl (hw _ (List.mem_of_getElem? (i := 48) rfl))) (hw _ (List.mem_of_getElem? (i := 11) rfl)) (ty := .int) (by decide) rfl rfl (g := (mkF m 156 #[.val (.ref a1), .val (.int (1 : Int32)), .val (.int (Int32.ofNat (n + 4))), .val (.ref b)] [(.int (Int32.ofNat (n + 4))), (.ref a1)])) rfl rfl (hb hby d36_156)
  refine Ends.of st27 ?_
  have N27 := Fr.snoc X27 N26 g_a
  have Fc9 := Fc_4.other W27 (Or.inr (slot_ne (Or.inl (hw _ (List.mem_of_getElem? (i := 29) rfl))) (Or.inl (hw _ (List.mem_of_getElem? (i := 48) rfl))) (by decide) (t := .byte) (t' := .int) (by decide) (by decide)))
  have Fv9 := Fv_4.other W27 (Or.inr (slot_ne (Or.inl (hw _ (List.mem_of_getElem? (i := 27) rfl))) (Or.inl (hw _ (List.mem_of_getElem? (i := 48) rfl))) (by decide) (t := (.array .byte)) (t' := .int) (by decide) (by decide)))
  have Ex9 := Ex_4.wr W27
  have Fn9 := Fn_4.same W27
  have V9 := V4.other W27 (Ne.symm nab)
  have K9 : Keep h0 h27 [a1, b] := K4.wr W27 (Or.inl (List.mem_of_getElem? (i := 0) rfl))
  rw [← e27] at V9 Fc9 Fn9 Fv9 Ex9 K9
  refine Ends.of (F' := T27.setTop (mkF m 160 #[.val (.ref a1), .val (.int (1 : Int32)), .val (.int (Int32.ofNat (n + 4))), .val (.ref b)] [(.ref a1)])) (fun _ kt => ?_) ?_
  · show Steps p.tables e below (T27.setTop (mkF m 159 #[.val (.ref a1), .val (.int (1 : Int32)), .val (.int (Int32.ofNat (n + 4))), .val (.ref b)] [])) _
    refine XS.aloadN X27.here hx rfl (hb hby d36_159) rfl rfl ?_
    exact kt
  obtain ⟨fs, hr, hrun, hended, hW, hsame⟩ := X27.leave (v := some (.ref a1)) (fun h => by rw [Bd.returns] at h; cases h)
  refine ⟨_, _, ?_, hrun, hended, _, _, rfl, ⟨rfl, N27, K9, Ex9, Fc9, Fn9, Fv9, V9, by omega⟩, ⟨_, rfl⟩, hW, hsame.mono (by decide) (by decide)⟩
  show Steps p.tables e below (T27.setTop (mkF m 160 #[.val (.ref a1), .val (.int (1 : Int32)), .val (.int (Int32.ofNat (n + 4))), .val (.ref b)] [(.ref a1)])) _
  jvm_step X27.here [X27.here.top, hx, (hb hby d36_160), X27.method', Bd.returns, Value.isRef, FieldType.isReference]
  first | (intro acts; rw [hr _ acts rfl rfl rfl]) | rw [hr _ _ rfl rfl rfl]
  exact Steps.refl _
theorem d35_0 : decode jdk_67_method_13_code 0 = .ok (.aload_n 0, 1) := by decide +kernel
theorem d35_1 : decode jdk_67_method_13_code 1 = .ok (.iload_n 1, 1) := by decide +kernel
theorem d35_2 : decode jdk_67_method_13_code 2 = .ok (.invokespecial 47, 3) := by decide +kernel
theorem d35_5 : decode jdk_67_method_13_code 5 = .ok (.pop, 1) := by decide +kernel
theorem d35_6 : decode jdk_67_method_13_code 6 = .ok (.aload_n 0, 1) := by decide +kernel
theorem d35_7 : decode jdk_67_method_13_code 7 = .ok (.areturn, 1) := by decide +kernel
def Q_sb_appZ1 (Z : State) (a1 : Addr) (b : Addr) (cap : Nat) (n : Nat) (f : Nat → Int32) (cs : Int32) (h0 : Heap) (n0 : Nat) (v : Option Value) (h : Heap) (L : List Loc) : Prop := v = some (.ref a1) ∧ Fr n0 L ∧ Keep h0 h [a1, b] ∧ SBd Z h a1 b cap (n + 4) (fun x => if x = n + 3 then (101 : Int32) else if x = n + 2 then (117 : Int32) else if x = n + 1 then (114 : Int32) else if x = n + 0 then (116 : Int32) else f x)
set_option maxRecDepth 65536 in
set_option maxHeartbeats 40000000 in
theorem sb_appZ1 (l : Launch) (Z : State) (a0 : Array Value) (hw : ∀ d ∈ tables_1, d.before a0 Z = true) (ws : List Jvm.Cond) (a1 : Addr) (b : Addr) (cap : Nat) (n : Nat) (f : Nat → Int32) (cs : Int32) (h0 : Heap) (n0 : Nat) (Z0 : n0 ≤ h0.size) (S0 : Sta Z Z.heap "java/lang/String" "COMPACT_STRINGS" "Z" (.int cs)) (hcs : ¬ cs = (0 : Int32)) (O : Old Z n0 h0) (F : SBd Z h0 a1 b cap n f) (hn : n + 4 ≤ cap) (g_a : n0 ≤ a1) (g_b : n0 ≤ b) :
    MetFree l (⟨"java/lang/StringBuilder", "append", "(Z)Ljava/lang/StringBuilder;"⟩ : MethodName) (head1 (Jvm.Cond.code (⟨"java/lang/StringBuilder", "append", "(Z)Ljava/lang/StringBuilder;"⟩ : MethodName) jdk_67_method_13_code 2 (some (.object "java/lang/StringBuilder")) :: ws) ({ frames := 2, cells := 0, slots := 0, locals := 29 } : Room)) (fun a U => a = #[(.ref a1), (.int (1 : Int32))] ∧ Z.Warmed39 U.vm ∧ U.heap = h0) (fun _ _ _ _ _ => True) (fun _ U o U' => ∃ v L, o = .returned v ∧ Q_sb_appZ1 Z a1 b cap n f cs h0 n0 v U'.heap L ∧ FrameEnd U o U' L ({ frames := 2, cells := 0, slots := 0, locals := 29 } : Room).cells ({ frames := 2, cells := 0, slots := 0, locals := 29 } : Room).slots) := by
  refine MetFree.of_bodySF (plainFor_of_name pn_3) hisR ?_
  intro p e s m args below meth c s₁ Bd hml0 hP hK
  obtain ⟨rfl, hZ, hh⟩ := hP
  have hx := Bd.exec
  have hby := Bd.bytes
  have hml : c.maxLocals = 2 := hml0
  have hown : s.vm.findClass "java/lang/StringBuilder" = some m.cls := findClass_of_methodNamed Bd.named
  have hnm := (name_of_methodNamed Bd.named Bd.method).1
  have X0 : Stand p l e ({ frames := 2, cells := 0, slots := 0, locals := 29 } : Room) s m #[(.ref a1), (.int (1 : Int32))] below meth c s₁ [] 0 0 := Stand.of_body Bd
  have e0 : s₁.heap = h0 := by rw [← hh, Bd.state]; rfl
  have N0 := Fr.nil n0
  have eF : entryFrame m #[(.ref a1), (.int (1 : Int32))] 2 = mkF m 0 #[.val (.ref a1), .val (.int (1 : Int32))] [] := by first | (simp [entryFrame, mkF, argsToLocals, Value.category]; done) | rfl
  show Ends p e below s ({ frames := 2, cells := 0, slots := 0, locals := 29 } : Room) (Q_sb_appZ1 Z a1 b cap n f cs h0 n0) (s₁.setTop (entryFrame m #[(.ref a1), (.int (1 : Int32))] 2))
  rw [eF]
  refine Ends.of (F' := s₁.setTop (mkF m 2 #[.val (.ref a1), .val (.int (1 : Int32))] [(.int (1 : Int32)), (.ref a1)])) (fun _ kt => ?_) ?_
  · show Steps p.tables e below (s₁.setTop (mkF m 0 #[.val (.ref a1), .val (.int (1 : Int32))] [])) _
    refine XS.aloadN X0.here hx rfl (hb hby d35_0) rfl rfl ?_
    show Steps p.tables e below (s₁.setTop (mkF m 1 #[.val (.ref a1), .val (.int (1 : Int32))] [(.ref a1)])) _
    refine XS.iloadN X0.here hx rfl (hb hby d35_1) rfl ?_
    exact kt
  obtain ⟨_, _, ⟨T28, L28, k28, n28⟩, -, X28, ⟨Lc28, hQ28, l28, y28, z28⟩, st28⟩ := superBack X0 hx hZ (y := (⟨"java/lang/AbstractStringBuilder", "append", "(Z)Ljava/lang/AbstractStringBuilder;"⟩ : MethodName)) hown (hw _ (List.mem_of_getElem? (i := 189) rfl)) (own_same (y := (⟨"java/lang/AbstractStringBuilder", "append", "(Z)Ljava/lang/AbstractStringBuilder;"⟩ : MethodName)) (z := (⟨"java/lang/AbstractStringBuilder", "ensureCapacityInternal", "(I)V"⟩ : MethodName)) rfl (by decide) (hw _ (List.mem_of_getElem? (i := 190) rfl)) (hw _ (List.mem_of_getElem? (i := 52) rfl))) (hw _ (List.mem_of_getElem? (i := 190) rfl)) (hw _ (List.mem_of_getElem? (i := 44) rfl)) (by decide) (backOf (W := 0) (asb_appZ1 l Z a0 hw [] a1 b cap n f cs h0 n0 Z0 S0 hcs O F hn g_a g_b) hZ (hw _ (List.mem_of_getElem? (i := 192) rfl)) (hw _ (List.mem_of_getElem? (i := 20) rfl)) (by decide) (by decide)) e0 (Ins.self F.1) (g := (mkF m 2 #[.val (.ref a1), .val (.int (1 : Int32))] [(.int (1 : Int32)), (.ref a1)])) rfl (by rw [hml]; rfl) (hw _ (List.mem_of_getElem? (i := 192) rfl)) (argsL := [(.int (1 : Int32))]) (rest := []) (lenOf pd_25 rfl) rfl (by show 2 * 0 + _ ≤ _; exact Nat.le_of_eq rfl) (hb hby d35_2) (fun _ _ => ⟨rfl, e0, (by decide : 0 + 0 ≤ _), (by decide : 0 + 0 ≤ _)⟩)
  dsimp only [Pt.U, Pt.locs, Pt.cells, Pt.slots] at X28 l28 y28 z28 st28 hQ28
  subst l28 y28 z28
  obtain ⟨rfl, N28q, K28, F28⟩ := hQ28
  have N28 := Fr.app N0 N28q
  refine Ends.st st28 ?_
  refine Ends.of (F' := T28.setTop (mkF m 7 #[.val (.ref a1), .val (.int (1 : Int32))] [(.ref a1)])) (fun _ kt => ?_) ?_
  · show Steps p.tables e below (T28.setTop (mkF m 5 #[.val (.ref a1), .val (.int (1 : Int32))] [(.ref a1)])) _
    refine XS.pop X28.here hx rfl (hb hby d35_5) rfl rfl ?_
    show Steps p.tables e below (T28.setTop (mkF m 6 #[.val (.ref a1), .val (.int (1 : Int32))] [])) _
    refine XS.aloadN X28.here hx rfl (hb hby d35_6) rfl rfl ?_
    exact kt
  obtain ⟨fs, hr, hrun, hended, hW, hsame⟩ := X28.leave (v := some (.ref a1)) (fun h => by rw [Bd.returns] at h; cases h)
  refine ⟨_, _, ?_, hrun, hended, _, _, rfl, ⟨rfl, N28, K28, F28⟩, ⟨_, rfl⟩, hW, hsame.mono (by decide) (by decide)⟩
  show Steps p.tables e below (T28.setTop (mkF m 7 #[.val (.ref a1), .val (.int (1 : Int32))] [(.ref a1)])) _
  jvm_step X28.here [X28.here.top, hx, (hb hby d35_7), X28.method', Bd.returns, Value.isRef, FieldType.isReference]
  first | (intro acts; rw [hr _ acts rfl rfl rfl]) | rw [hr _ _ rfl rfl rfl]
  exact Steps.refl _
def Q_asb_appZ0 (Z : State) (a1 : Addr) (b : Addr) (cap : Nat) (n : Nat) (f : Nat → Int32) (cs : Int32) (h0 : Heap) (n0 : Nat) (v : Option Value) (h : Heap) (L : List Loc) : Prop := v = some (.ref a1) ∧ Fr n0 L ∧ Keep h0 h [a1, b] ∧ SBd Z h a1 b cap (n + 5) (fun x => if x = n + 4 then (101 : Int32) else if x = n + 3 then (115 : Int32) else if x = n + 2 then (108 : Int32) else if x = n + 1 then (97 : Int32) else if x = n + 0 then (102 : Int32) else f x)
set_option maxRecDepth 65536 in
set_option maxHeartbeats 40000000 in
theorem asb_appZ0 (l : Launch) (Z : State) (a0 : Array Value) (hw : ∀ d ∈ tables_1, d.before a0 Z = true) (ws : List Jvm.Cond) (a1 : Addr) (b : Addr) (cap : Nat) (n : Nat) (f : Nat → Int32) (cs : Int32) (h0 : Heap) (n0 : Nat) (Z0 : n0 ≤ h0.size) (S0 : Sta Z Z.heap "java/lang/String" "COMPACT_STRINGS" "Z" (.int cs)) (hcs : ¬ cs = (0 : Int32)) (O : Old Z n0 h0) (F : SBd Z h0 a1 b cap n f) (hn : n + 5 ≤ cap) (g_a : n0 ≤ a1) (g_b : n0 ≤ b) :
    MetFree l (⟨"java/lang/AbstractStringBuilder", "append", "(Z)Ljava/lang/AbstractStringBuilder;"⟩ : MethodName) (head1 (Jvm.Cond.code (⟨"java/lang/AbstractStringBuilder", "append", "(Z)Ljava/lang/AbstractStringBuilder;"⟩ : MethodName) jdk_68_method_30_code 4 (some (.object "java/lang/AbstractStringBuilder")) :: ws) ({ frames := 1, cells := 0, slots := 0, locals := 14 } : Room)) (fun a U => a = #[(.ref a1), (.int (0 : Int32))] ∧ Z.Warmed39 U.vm ∧ U.heap = h0) (fun _ _ _ _ _ => True) (fun _ U o U' => ∃ v L, o = .returned v ∧ Q_asb_appZ0 Z a1 b cap n f cs h0 n0 v U'.heap L ∧ FrameEnd U o U' L ({ frames := 1, cells := 0, slots := 0, locals := 14 } : Room).cells ({ frames := 1, cells := 0, slots := 0, locals := 14 } : Room).slots) := by
  refine MetFree.of_bodySF (plainFor_of_name pn_2) hisR ?_
  intro p e s m args below meth c s₁ Bd hml0 hP hK
  obtain ⟨rfl, hZ, hh⟩ := hP
  have hx := Bd.exec
  have hby := Bd.bytes
  have hml : c.maxLocals = 4 := hml0
  have hown : s.vm.findClass "java/lang/AbstractStringBuilder" = some m.cls := findClass_of_methodNamed Bd.named
  have hnm := (name_of_methodNamed Bd.named Bd.method).1
  have X0 : Stand p l e ({ frames := 1, cells := 0, slots := 0, locals := 14 } : Room) s m #[(.ref a1), (.int (0 : Int32))] below meth c s₁ [] 0 0 := Stand.of_body Bd
  have e0 : s₁.heap = h0 := by rw [← hh, Bd.state]; rfl
  have N0 := Fr.nil n0
  have eF : entryFrame m #[(.ref a1), (.int (0 : Int32))] 4 = mkF m 0 #[.val (.ref a1), .val (.int (0 : Int32)), .unset, .unset] [] := by first | (simp [entryFrame, mkF, argsToLocals, Value.category]; done) | rfl
  show Ends p e below s ({ frames := 1, cells := 0, slots := 0, locals := 14 } : Room) (Q_asb_appZ0 Z a1 b cap n f cs h0 n0) (s₁.setTop (entryFrame m #[(.ref a1), (.int (0 : Int32))] 4))
  rw [eF]
  obtain ⟨Ex, Fc, Fn, Fv, Va, hcap⟩ := id F
  have hc1 := Va.1
  refine Ends.of (F' := s₁.setTop (mkF m 2 #[.val (.ref a1), .val (.int (0 : Int32)), .unset, .unset] [(.ref a1), (.ref a1)])) (fun _ kt => ?_) ?_
  · show Steps p.tables e below (s₁.setTop (mkF m 0 #[.val (.ref a1), .val (.int (0 : Int32)), .unset, .unset] [])) _
    refine XS.aloadN X0.here hx rfl (hb hby d36_0) rfl rfl ?_
    show Steps p.tables e below (s₁.setTop (mkF m 1 #[.val (.ref a1), .val (.int (0 : Int32)), .unset, .unset] [(.ref a1)])) _
    refine XS.aloadN X0.here hx rfl (hb hby d36_1) rfl rfl ?_
    exact kt
  obtain ⟨T29, X29, e29, st29⟩ := getF X0 hx hZ hown (host := "") (Or.inl (hw _ (List.mem_of_getElem? (i := 47) rfl))) Via.refl e0 Fn (g := (mkF m 2 #[.val (.ref a1), .val (.int (0 : Int32)), .unset, .unset] [(.ref a1), (.ref a1)])) rfl rfl (hb hby d36_2)
  refine Ends.of st29 ?_
  refine Ends.of (F' := T29.setTop (mkF m 15 #[.val (.ref a1), .val (.int (0 : Int32)), .unset, .unset] [(.int ((Int32.ofNat n) + (5 : Int32))), (.ref a1)])) (fun _ kt => ?_) ?_
  · show Steps p.tables e below (T29.setTop (mkF m 5 #[.val (.ref a1), .val (.int (0 : Int32)), .unset, .unset] [(.int (Int32.ofNat n)), (.ref a1)])) _
    refine XS.iloadN X29.here hx rfl (hb hby d36_5) rfl ?_
    show Steps p.tables e below (T29.setTop (mkF m 6 #[.val (.ref a1), .val (.int (0 : Int32)), .unset, .unset] [(.int (0 : Int32)), (.int (Int32.ofNat n)), (.ref a1)])) _
    refine XS.ifYes X29.here hx rfl (pc0 := 6) (pc' := 13) rfl (hb hby d36_6) rfl ((if0 _ _).trans (teq rfl).1) (by decide) (by decide) ?_
    show Steps p.tables e below (T29.setTop (mkF m 13 #[.val (.ref a1), .val (.int (0 : Int32)), .unset, .unset] [(.int (Int32.ofNat n)), (.ref a1)])) _
    refine XS.iconst X29.here hx rfl (hb hby d36_13) ?_
    show Steps p.tables e below (T29.setTop (mkF m 14 #[.val (.ref a1), .val (.int (0 : Int32)), .unset, .unset] [(.int (5 : Int32)), (.int (Int32.ofNat n)), (.ref a1)])) _
    refine XS.iadd X29.here hx rfl (hb hby d36_14) rfl ?_
    exact kt
  rw [show Int32.ofNat n + (5 : Int32) = Int32.ofNat (n + 5) from own_add n 5]
  obtain ⟨cq30, kq30, q30a, q30b, q30c⟩ := isOf hZ e29 F.1
  obtain ⟨_, _, ⟨T30, L30, k30, n30⟩, -, X30, ⟨Lc30, hQ30, l30, y30, z30⟩, st30⟩ := X29.virtualBack hx (y := (⟨"java/lang/AbstractStringBuilder", "ensureCapacityInternal", "(I)V"⟩ : MethodName)) (z := (⟨"java/lang/AbstractStringBuilder", "ensureCapacityInternal", "(I)V"⟩ : MethodName)) hown (mvT hZ (hw _ (List.mem_of_getElem? (i := 49) rfl))) (mvT hZ (own_decl (hw _ (List.mem_of_getElem? (i := 50) rfl)) (hw _ (List.mem_of_getElem? (i := 53) rfl)))) (notFace_of_selects (args := #[]) (mvT hZ (hw _ (List.mem_of_getElem? (i := 52) rfl)))) (mvT hZ (hw _ (List.mem_of_getElem? (i := 52) rfl))) (mvT hZ (hw _ (List.mem_of_getElem? (i := 50) rfl))) (by decide) (backOf (W := 0) (asb_ens l Z a0 hw [] a1 b cap n f (n + 5) h0 n0 Z0 F (by omega)) hZ (hw _ (List.mem_of_getElem? (i := 53) rfl)) (hw _ (List.mem_of_getElem? (i := 20) rfl)) (by decide) (by decide)) q30a q30c (g := (mkF m 15 #[.val (.ref a1), .val (.int (0 : Int32)), .unset, .unset] [(.int (Int32.ofNat (n + 5))), (.ref a1)])) rfl (by rw [hml]; rfl) (Steps.refl _) (argsL := [(.int (Int32.ofNat (n + 5)))]) (rest := []) (lenOf pd_1 rfl) rfl (by show 2 * 0 + _ ≤ _; exact Nat.le_of_eq rfl) (hb hby d36_15) (fun _ _ => ⟨rfl, e29, (by decide : 0 + 0 ≤ _), (by decide : 0 + 0 ≤ _)⟩)
  dsimp only [Pt.U, Pt.locs, Pt.cells, Pt.slots] at X30 l30 y30 z30 st30 hQ30
  subst l30 y30 z30
  obtain ⟨rfl, N30q, e30⟩ := hQ30
  have N30 := Fr.app N0 N30q
  refine Ends.st st30 ?_
  refine Ends.of (F' := T30.setTop (mkF m 19 #[.val (.ref a1), .val (.int (0 : Int32)), .unset, .unset] [(.ref a1)])) (fun _ kt => ?_) ?_
  · show Steps p.tables e below (T30.setTop (mkF m 18 #[.val (.ref a1), .val (.int (0 : Int32)), .unset, .unset] [])) _
    refine XS.aloadN X30.here hx rfl (hb hby d36_18) rfl rfl ?_
    exact kt
  obtain ⟨T31, X31, e31, st31⟩ := getF X30 hx hZ hown (host := "") (Or.inl (hw _ (List.mem_of_getElem? (i := 47) rfl))) Via.refl e30 Fn (g := (mkF m 19 #[.val (.ref a1), .val (.int (0 : Int32)), .unset, .unset] [(.ref a1)])) rfl rfl (hb hby d36_19)
  refine Ends.of st31 ?_
  refine Ends.of (F' := T31.setTop (mkF m 24 #[.val (.ref a1), .val (.int (0 : Int32)), .val (.int (Int32.ofNat n)), .unset] [(.ref a1)])) (fun _ kt => ?_) ?_
  · show Steps p.tables e below (T31.setTop (mkF m 22 #[.val (.ref a1), .val (.int (0 : Int32)), .unset, .unset] [(.int (Int32.ofNat n))])) _
    refine XS.istoreN X31.here hx rfl (hb hby d36_22) rfl (l' := #[.val (.ref a1), .val (.int (0 : Int32)), .val (.int (Int32.ofNat n)), .unset]) rfl ?_
    show Steps p.tables e below (T31.setTop (mkF m 23 #[.val (.ref a1), .val (.int (0 : Int32)), .val (.int (Int32.ofNat n)), .unset] [])) _
    refine XS.aloadN X31.here hx rfl (hb hby d36_23) rfl rfl ?_
    exact kt
  obtain ⟨T32, X32, e32, st32⟩ := getF X31 hx hZ hown (host := "") (Or.inl (hw _ (List.mem_of_getElem? (i := 26) rfl))) Via.refl e31 Fv (g := (mkF m 24 #[.val (.ref a1), .val (.int (0 : Int32)), .val (.int (Int32.ofNat n)), .unset] [(.ref a1)])) rfl rfl (hb hby d36_24)
  refine Ends.of st32 ?_
  refine Ends.of (F' := T32.setTop (mkF m 29 #[.val (.ref a1), .val (.int (0 : Int32)), .val (.int (Int32.ofNat n)), .val (.ref b)] [(.ref a1)])) (fun _ kt => ?_) ?_
  · show Steps p.tables e below (T32.setTop (mkF m 27 #[.val (.ref a1), .val (.int (0 : Int32)), .val (.int (Int32.ofNat n)), .unset] [(.ref b)])) _
    refine XS.astoreN X32.here hx rfl (hb hby d36_27) rfl rfl (l' := #[.val (.ref a1), .val (.int (0 : Int32)), .val (.int (Int32.ofNat n)), .val (.ref b)]) rfl ?_
    show Steps p.tables e below (T32.setTop (mkF m 28 #[.val (.ref a1), .val (.int (0 : Int32)), .val (.int (Int32.ofNat n)), .val (.ref b)] [])) _
    refine XS.aloadN X32.here hx rfl (hb hby d36_28) rfl rfl ?_
    exact kt
  obtain ⟨cq33, kq33, q33a, q33b, q33c⟩ := isOf hZ e32 F.1
  obtain ⟨_, _, ⟨T33, L33, k33, n33⟩, -, X33, ⟨Lc33, hQ33, l33, y33, z33⟩, st33⟩ := X32.virtualBack hx (y := (⟨"java/lang/AbstractStringBuilder", "isLatin1", "()Z"⟩ : MethodName)) (z := (⟨"java/lang/AbstractStringBuilder", "isLatin1", "()Z"⟩ : MethodName)) hown (mvT hZ (hw _ (List.mem_of_getElem? (i := 54) rfl))) (mvT hZ (hw _ (List.mem_of_getElem? (i := 55) rfl))) (notFace_of_selects (args := #[]) (mvT hZ (hw _ (List.mem_of_getElem? (i := 57) rfl)))) (mvT hZ (hw _ (List.mem_of_getElem? (i := 57) rfl))) (mvT hZ (hw _ (List.mem_of_getElem? (i := 56) rfl))) (by decide) (backOf (W := 0) (asb_lat l Z a0 hw [] a1 cs h0 n0 Z0 S0 hcs O F.2.1) hZ (hw _ (List.mem_of_getElem? (i := 58) rfl)) (hw _ (List.mem_of_getElem? (i := 20) rfl)) (by decide) (by decide)) q33a q33c (g := (mkF m 29 #[.val (.ref a1), .val (.int (0 : Int32)), .val (.int (Int32.ofNat n)), .val (.ref b)] [(.ref a1)])) rfl (by rw [hml]; rfl) (Steps.refl _) (argsL := []) (rest := []) (lenOf pd_5 rfl) rfl (by show 2 * 0 + _ ≤ _; exact Nat.le_of_eq rfl) (hb hby d36_29) (fun _ _ => ⟨rfl, e32, (by decide : 0 + 0 ≤ _), (by decide : 0 + 0 ≤ _)⟩)
  dsimp only [Pt.U, Pt.locs, Pt.cells, Pt.slots] at X33 l33 y33 z33 st33 hQ33
  subst l33 y33 z33
  obtain ⟨rfl, N33q, e33⟩ := hQ33
  have N33 := Fr.app N30 N33q
  refine Ends.st st33 ?_
  obtain ⟨cb0, Ab0, -, -, -⟩ := Va.op
  have nab : a1 ≠ b := ne_arr Ex (hw _ (List.mem_of_getElem? (i := 11) rfl)) Ab0
  have K0 : Keep h0 h0 [a1, b] := Keep.refl _ _
  obtain ⟨cb1, Ab1, Sb1, -, put1⟩ := Va.op
  refine Ends.of (F' := T33.setTop (mkF m 81 #[.val (.ref a1), .val (.int (0 : Int32)), .val (.int ((Int32.ofNat n) + (1 : Int32))), .val (.ref b)] [(.int (102 : Int32)), (.int (Int32.ofNat n)), (.ref b)])) (fun _ kt => ?_) ?_
  · show Steps p.tables e below (T33.setTop (mkF m 32 #[.val (.ref a1), .val (.int (0 : Int32)), .val (.int (Int32.ofNat n)), .val (.ref b)] [(.int (1 : Int32))])) _
    refine XS.ifNo X33.here hx rfl (hb hby d36_32) rfl ((if0 _ _).trans (feq (by decide)).1) ?_
    show Steps p.tables e below (T33.setTop (mkF m 35 #[.val (.ref a1), .val (.int (0 : Int32)), .val (.int (Int32.ofNat n)), .val (.ref b)] [])) _
    refine XS.iloadN X33.here hx rfl (hb hby d36_35) rfl ?_
    show Steps p.tables e below (T33.setTop (mkF m 36 #[.val (.ref a1), .val (.int (0 : Int32)), .val (.int (Int32.ofNat n)), .val (.ref b)] [(.int (0 : Int32))])) _
    refine XS.ifYes X33.here hx rfl (pc0 := 36) (pc' := 74) rfl (hb hby d36_36) rfl ((if0 _ _).trans (teq rfl).1) (by decide) (by decide) ?_
    show Steps p.tables e below (T33.setTop (mkF m 74 #[.val (.ref a1), .val (.int (0 : Int32)), .val (.int (Int32.ofNat n)), .val (.ref b)] [])) _
    refine XS.aloadN X33.here hx rfl (hb hby d36_74) rfl rfl ?_
    show Steps p.tables e below (T33.setTop (mkF m 75 #[.val (.ref a1), .val (.int (0 : Int32)), .val (.int (Int32.ofNat n)), .val (.ref b)] [(.ref b)])) _
    refine XS.iloadN X33.here hx rfl (hb hby d36_75) rfl ?_
    show Steps p.tables e below (T33.setTop (mkF m 76 #[.val (.ref a1), .val (.int (0 : Int32)), .val (.int (Int32.ofNat n)), .val (.ref b)] [(.int (Int32.ofNat n)), (.ref b)])) _
    refine XS.iinc X33.here hx rfl (hb hby d36_76) rfl (l' := #[.val (.ref a1), .val (.int (0 : Int32)), .val (.int ((Int32.ofNat n) + (1 : Int32))), .val (.ref b)]) rfl ?_
    show Steps p.tables e below (T33.setTop (mkF m 79 #[.val (.ref a1), .val (.int (0 : Int32)), .val (.int ((Int32.ofNat n) + (1 : Int32))), .val (.ref b)] [(.int (Int32.ofNat n)), (.ref b)])) _
    refine XS.bipush X33.here hx rfl (hb hby d36_79) ?_
    exact kt
  rw [show Int32.ofNat n + (1 : Int32) = Int32.ofNat (n + 1) from own_add n 1]
  obtain ⟨T34, h34, X34, e34, W34, st34⟩ := stB X33 hx hZ e33 Ab1 (j := (Int32.ofNat n)) (own_hin (i := n + 0) Sb1 rfl (by omega) (by omega)) (g := (mkF m 81 #[.val (.ref a1), .val (.int (0 : Int32)), .val (.int (Int32.ofNat (n + 1))), .val (.ref b)] [(.int (102 : Int32)), (.int (Int32.ofNat n)), (.ref b)])) rfl rfl (hb hby d36_81)
  refine Ends.of st34 ?_
  have N34 := Fr.snoc X34 N33 g_b
  have V1 := put1 _ _ _ (n + 0) W34 (own_clamp (by omega)) (by omega) (by decide)
  have K1 : Keep h0 h34 [a1, b] := K0.wr W34 (Or.inl (List.mem_of_getElem? (i := 1) rfl))
  have Fc_1 := Fc.other W34 (Or.inl nab)
  have Fn_1 := Fn.other W34 (Or.inl nab)
  have Fv_1 := Fv.other W34 (Or.inl nab)
  have Ex_1 := Ex.wr W34
  obtain ⟨cb2, Ab2, Sb2, -, put2⟩ := V1.op
  refine Ends.of (F' := T34.setTop (mkF m 89 #[.val (.ref a1), .val (.int (0 : Int32)), .val (.int ((Int32.ofNat (n + 1)) + (1 : Int32))), .val (.ref b)] [(.int (97 : Int32)), (.int (Int32.ofNat (n + 1))), (.ref b)])) (fun _ kt => ?_) ?_
  · show Steps p.tables e below (T34.setTop (mkF m 82 #[.val (.ref a1), .val (.int (0 : Int32)), .val (.int (Int32.ofNat (n + 1))), .val (.ref b)] [])) _
    refine XS.aloadN X34.here hx rfl (hb hby d36_82) rfl rfl ?_
    show Steps p.tables e below (T34.setTop (mkF m 83 #[.val (.ref a1), .val (.int (0 : Int32)), .val (.int (Int32.ofNat (n + 1))), .val (.ref b)] [(.ref b)])) _
    refine XS.iloadN X34.here hx rfl (hb hby d36_83) rfl ?_
    show Steps p.tables e below (T34.setTop (mkF m 84 #[.val (.ref a1), .val (.int (0 : Int32)), .val (.int (Int32.ofNat (n + 1))), .val (.ref b)] [(.int (Int32.ofNat (n + 1))), (.ref b)])) _
    refine XS.iinc X34.here hx rfl (hb hby d36_84) rfl (l' := #[.val (.ref a1), .val (.int (0 : Int32)), .val (.int ((Int32.ofNat (n + 1)) + (1 : Int32))), .val (.ref b)]) rfl ?_
    show Steps p.tables e below (T34.setTop (mkF m 87 #[.val (.ref a1), .val (.int (0 : Int32)), .val (.int ((Int32.ofNat (n + 1)) + (1 : Int32))), .val (.ref b)] [(.int (Int32.ofNat (n + 1))), (.ref b)])) _
    refine XS.bipush X34.here hx rfl (hb hby d36_87) ?_
    exact kt
  rw [show Int32.ofNat (n + 1) + (1 : Int32) = Int32.ofNat (n + 2) from own_add (n + 1) 1]
  obtain ⟨T35, h35, X35, e35, W35, st35⟩ := stB X34 hx hZ e34 Ab2 (j := (Int32.ofNat (n + 1))) (own_hin (i := n + 1) Sb2 rfl (by omega) (by omega)) (g := (mkF m 89 #[.val (.ref a1), .val (.int (0 : Int32)), .val (.int (Int32.ofNat (n + 2))), .val (.ref b)] [(.int (97 : Int32)), (.int (Int32.ofNat (n + 1))), (.ref b)])) rfl rfl (hb hby d36_89)
  refine Ends.of st35 ?_
  have N35 := Fr.snoc X35 N34 g_b
  have V2 := put2 _ _ _ (n + 1) W35 (own_clamp (by omega)) (by omega) (by decide)
  have K2 : Keep h0 h35 [a1, b] := K1.wr W35 (Or.inl (List.mem_of_getElem? (i := 1) rfl))
  have Fc_2 := Fc_1.other W35 (Or.inl nab)
  have Fn_2 := Fn_1.other W35 (Or.inl nab)
  have Fv_2 := Fv_1.other W35 (Or.inl nab)
  have Ex_2 := Ex_1.wr W35
  obtain ⟨cb3, Ab3, Sb3, -, put3⟩ := V2.op
  refine Ends.of (F' := T35.setTop (mkF m 97 #[.val (.ref a1), .val (.int (0 : Int32)), .val (.int ((Int32.ofNat (n + 2)) + (1 : Int32))), .val (.ref b)] [(.int (108 : Int32)), (.int (Int32.ofNat (n + 2))), (.ref b)])) (fun _ kt => ?_) ?_
  · show Steps p.tables e below (T35.setTop (mkF m 90 #[.val (.ref a1), .val (.int (0 : Int32)), .val (.int (Int32.ofNat (n + 2))), .val (.ref b)] [])) _
    refine XS.aloadN X35.here hx rfl (hb hby d36_90) rfl rfl ?_
    show Steps p.tables e below (T35.setTop (mkF m 91 #[.val (.ref a1), .val (.int (0 : Int32)), .val (.int (Int32.ofNat (n + 2))), .val (.ref b)] [(.ref b)])) _
    refine XS.iloadN X35.here hx rfl (hb hby d36_91) rfl ?_
    show Steps p.tables e below (T35.setTop (mkF m 92 #[.val (.ref a1), .val (.int (0 : Int32)), .val (.int (Int32.ofNat (n + 2))), .val (.ref b)] [(.int (Int32.ofNat (n + 2))), (.ref b)])) _
    refine XS.iinc X35.here hx rfl (hb hby d36_92) rfl (l' := #[.val (.ref a1), .val (.int (0 : Int32)), .val (.int ((Int32.ofNat (n + 2)) + (1 : Int32))), .val (.ref b)]) rfl ?_
    show Steps p.tables e below (T35.setTop (mkF m 95 #[.val (.ref a1), .val (.int (0 : Int32)), .val (.int ((Int32.ofNat (n + 2)) + (1 : Int32))), .val (.ref b)] [(.int (Int32.ofNat (n + 2))), (.ref b)])) _
    refine XS.bipush X35.here hx rfl (hb hby d36_95) ?_
    exact kt
  rw [show Int32.ofNat (n + 2) + (1 : Int32) = Int32.ofNat (n + 3) from own_add (n + 2) 1]
  obtain ⟨T36, h36, X36, e36, W36, st36⟩ := stB X35 hx hZ e35 Ab3 (j := (Int32.ofNat (n + 2))) (own_hin (i := n + 2) Sb3 rfl (by omega) (by omega)) (g := (mkF m 97 #[.val (.ref a1), .val (.int (0 : Int32)), .val (.int (Int32.ofNat (n + 3))), .val (.ref b)] [(.int (108 : Int32)), (.int (Int32.ofNat (n + 2))), (.ref b)])) rfl rfl (hb hby d36_97)
  refine Ends.of st36 ?_
  have N36 := Fr.snoc X36 N35 g_b
  have V3 := put3 _ _ _ (n + 2) W36 (own_clamp (by omega)) (by omega) (by decide)
  have K3 : Keep h0 h36 [a1, b] := K2.wr W36 (Or.inl (List.mem_of_getElem? (i := 1) rfl))
  have Fc_3 := Fc_2.other W36 (Or.inl nab)
  have Fn_3 := Fn_2.other W36 (Or.inl nab)
  have Fv_3 := Fv_2.other W36 (Or.inl nab)
  have Ex_3 := Ex_2.wr W36
  obtain ⟨cb4, Ab4, Sb4, -, put4⟩ := V3.op
  refine Ends.of (F' := T36.setTop (mkF m 105 #[.val (.ref a1), .val (.int (0 : Int32)), .val (.int ((Int32.ofNat (n + 3)) + (1 : Int32))), .val (.ref b)] [(.int (115 : Int32)), (.int (Int32.ofNat (n + 3))), (.ref b)])) (fun _ kt => ?_) ?_
  · show Steps p.tables e below (T36.setTop (mkF m 98 #[.val (.ref a1), .val (.int (0 : Int32)), .val (.int (Int32.ofNat (n + 3))), .val (.ref b)] [])) _
    refine XS.aloadN X36.here hx rfl (hb hby d36_98) rfl rfl ?_
    show Steps p.tables e below (T36.setTop (mkF m 99 #[.val (.ref a1), .val (.int (0 : Int32)), .val (.int (Int32.ofNat (n + 3))), .val (.ref b)] [(.ref b)])) _
    refine XS.iloadN X36.here hx rfl (hb hby d36_99) rfl ?_
    show Steps p.tables e below (T36.setTop (mkF m 100 #[.val (.ref a1), .val (.int (0 : Int32)), .val (.int (Int32.ofNat (n + 3))), .val (.ref b)] [(.int (Int32.ofNat (n + 3))), (.ref b)])) _
    refine XS.iinc X36.here hx rfl (hb hby d36_100) rfl (l' := #[.val (.ref a1), .val (.int (0 : Int32)), .val (.int ((Int32.ofNat (n + 3)) + (1 : Int32))), .val (.ref b)]) rfl ?_
    show Steps p.tables e below (T36.setTop (mkF m 103 #[.val (.ref a1), .val (.int (0 : Int32)), .val (.int ((Int32.ofNat (n + 3)) + (1 : Int32))), .val (.ref b)] [(.int (Int32.ofNat (n + 3))), (.ref b)])) _
    refine XS.bipush X36.here hx rfl (hb hby d36_103) ?_
    exact kt
  rw [show Int32.ofNat (n + 3) + (1 : Int32) = Int32.ofNat (n + 4) from own_add (n + 3) 1]
  obtain ⟨T37, h37, X37, e37, W37, st37⟩ := stB X36 hx hZ e36 Ab4 (j := (Int32.ofNat (n + 3))) (own_hin (i := n + 3) Sb4 rfl (by omega) (by omega)) (g := (mkF m 105 #[.val (.ref a1), .val (.int (0 : Int32)), .val (.int (Int32.ofNat (n + 4))), .val (.ref b)] [(.int (115 : Int32)), (.int (Int32.ofNat (n + 3))), (.ref b)])) rfl rfl (hb hby d36_105)
  refine Ends.of st37 ?_
  have N37 := Fr.snoc X37 N36 g_b
  have V4 := put4 _ _ _ (n + 3) W37 (own_clamp (by omega)) (by omega) (by decide)
  have K4 : Keep h0 h37 [a1, b] := K3.wr W37 (Or.inl (List.mem_of_getElem? (i := 1) rfl))
  have Fc_4 := Fc_3.other W37 (Or.inl nab)
  have Fn_4 := Fn_3.other W37 (Or.inl nab)
  have Fv_4 := Fv_3.other W37 (Or.inl nab)
  have Ex_4 := Ex_3.wr W37
  obtain ⟨cb5, Ab5, Sb5, -, put5⟩ := V4.op
  refine Ends.of (F' := T37.setTop (mkF m 113 #[.val (.ref a1), .val (.int (0 : Int32)), .val (.int ((Int32.ofNat (n + 4)) + (1 : Int32))), .val (.ref b)] [(.int (101 : Int32)), (.int (Int32.ofNat (n + 4))), (.ref b)])) (fun _ kt => ?_) ?_
  · show Steps p.tables e below (T37.setTop (mkF m 106 #[.val (.ref a1), .val (.int (0 : Int32)), .val (.int (Int32.ofNat (n + 4))), .val (.ref b)] [])) _
    refine XS.aloadN X37.here hx rfl (hb hby d36_106) rfl rfl ?_
    show Steps p.tables e below (T37.setTop (mkF m 107 #[.val (.ref a1), .val (.int (0 : Int32)), .val (.int (Int32.ofNat (n + 4))), .val (.ref b)] [(.ref b)])) _
    refine XS.iloadN X37.here hx rfl (hb hby d36_107) rfl ?_
    show Steps p.tables e below (T37.setTop (mkF m 108 #[.val (.ref a1), .val (.int (0 : Int32)), .val (.int (Int32.ofNat (n + 4))), .val (.ref b)] [(.int (Int32.ofNat (n + 4))), (.ref b)])) _
    refine XS.iinc X37.here hx rfl (hb hby d36_108) rfl (l' := #[.val (.ref a1), .val (.int (0 : Int32)), .val (.int ((Int32.ofNat (n + 4)) + (1 : Int32))), .val (.ref b)]) rfl ?_
    show Steps p.tables e below (T37.setTop (mkF m 111 #[.val (.ref a1), .val (.int (0 : Int32)), .val (.int ((Int32.ofNat (n + 4)) + (1 : Int32))), .val (.ref b)] [(.int (Int32.ofNat (n + 4))), (.ref b)])) _
    refine XS.bipush X37.here hx rfl (hb hby d36_111) ?_
    exact kt
  rw [show Int32.ofNat (n + 4) + (1 : Int32) = Int32.ofNat (n + 5) from own_add (n + 4) 1]
  obtain ⟨T38, h38, X38, e38, W38, st38⟩ := stB X37 hx hZ e37 Ab5 (j := (Int32.ofNat (n + 4))) (own_hin (i := n + 4) Sb5 rfl (by omega) (by omega)) (g := (mkF m 113 #[.val (.ref a1), .val (.int (0 : Int32)), .val (.int (Int32.ofNat (n + 5))), .val (.ref b)] [(.int (101 : Int32)), (.int (Int32.ofNat (n + 4))), (.ref b)])) rfl rfl (hb hby d36_113)
  refine Ends.of st38 ?_
  have N38 := Fr.snoc X38 N37 g_b
  have V5 := put5 _ _ _ (n + 4) W38 (own_clamp (by omega)) (by omega) (by decide)
  have K5 : Keep h0 h38 [a1, b] := K4.wr W38 (Or.inl (List.mem_of_getElem? (i := 1) rfl))
  have Fc_5 := Fc_4.other W38 (Or.inl nab)
  have Fn_5 := Fn_4.other W38 (Or.inl nab)
  have Fv_5 := Fv_4.other W38 (Or.inl nab)
  have Ex_5 := Ex_4.wr W38
  refine Ends.of (F' := T38.setTop (mkF m 156 #[.val (.ref a1), .val (.int (0 : Int32)), .val (.int (Int32.ofNat (n + 5))), .val (.ref b)] [(.int (Int32.ofNat (n + 5))), (.ref a1)])) (fun _ kt => ?_) ?_
  · show Steps p.tables e below (T38.setTop (mkF m 114 #[.val (.ref a1), .val (.int (0 : Int32)), .val (.int (Int32.ofNat (n + 5))), .val (.ref b)] [])) _
    refine XS.goto X38.here hx rfl (pc0 := 114) (pc' := 154) rfl (hb hby d36_114) (by decide) (by decide) ?_
    show Steps p.tables e below (T38.setTop (mkF m 154 #[.val (.ref a1), .val (.int (0 : Int32)), .val (.int (Int32.ofNat (n + 5))), .val (.ref b)] [])) _
    refine XS.aloadN X38.here hx rfl (hb hby d36_154) rfl rfl ?_
    show Steps p.tables e below (T38.setTop (mkF m 155 #[.val (.ref a1), .val (.int (0 : Int32)), .val (.int (Int32.ofNat (n + 5))), .val (.ref b)] [(.ref a1)])) _
    refine XS.iloadN X38.here hx rfl (hb hby d36_155) rfl ?_
    exact kt
  obtain ⟨T39, h39, X39, e39, W39, st39⟩ := putF X38 hx hZ hown (host := "") (Or.inl (hw _ (List.mem_of_getElem? (i := 47) rfl))) Via.refl e38 Fn_5 Ex_5 (Or.inl (hw _ (List.mem_of_getElem? (i := 48) rfl))) (hw _ (List.mem_of_getElem? (i := 11) rfl)) (ty := .int) (by decide) rfl rfl (g := (mkF m 156 #[.val (.ref a1), .val (.int (0 : Int32)), .val (.int (Int32.ofNat (n + 5))), .val (.ref b)] [(.int (Int32.ofNat (n + 5))), (.ref a1)])) rfl rfl (hb hby d36_156)
  refine Ends.of st39 ?_
  have N39 := Fr.snoc X39 N38 g_a
  have Fc9 := Fc_5.other W39 (Or.inr (slot_ne (Or.inl (hw _ (List.mem_of_getElem? (i := 29) rfl))) (Or.inl (hw _ (List.mem_of_getElem? (i := 48) rfl))) (by decide) (t := .byte) (t' := .int) (by decide) (by decide)))
  have Fv9 := Fv_5.other W39 (Or.inr (slot_ne (Or.inl (hw _ (List.mem_of_getElem? (i := 27) rfl))) (Or.inl (hw _ (List.mem_of_getElem? (i := 48) rfl))) (by decide) (t := (.array .byte)) (t' := .int) (by decide) (by decide)))
  have Ex9 := Ex_5.wr W39
  have Fn9 := Fn_5.same W39
  have V9 := V5.other W39 (Ne.symm nab)
  have K9 : Keep h0 h39 [a1, b] := K5.wr W39 (Or.inl (List.mem_of_getElem? (i := 0) rfl))
  rw [← e39] at V9 Fc9 Fn9 Fv9 Ex9 K9
  refine Ends.of (F' := T39.setTop (mkF m 160 #[.val (.ref a1), .val (.int (0 : Int32)), .val (.int (Int32.ofNat (n + 5))), .val (.ref b)] [(.ref a1)])) (fun _ kt => ?_) ?_
  · show Steps p.tables e below (T39.setTop (mkF m 159 #[.val (.ref a1), .val (.int (0 : Int32)), .val (.int (Int32.ofNat (n + 5))), .val (.ref b)] [])) _
    refine XS.aloadN X39.here hx rfl (hb hby d36_159) rfl rfl ?_
    exact kt
  obtain ⟨fs, hr, hrun, hended, hW, hsame⟩ := X39.leave (v := some (.ref a1)) (fun h => by rw [Bd.returns] at h; cases h)
  refine ⟨_, _, ?_, hrun, hended, _, _, rfl, ⟨rfl, N39, K9, Ex9, Fc9, Fn9, Fv9, V9, by omega⟩, ⟨_, rfl⟩, hW, hsame.mono (by decide) (by decide)⟩
  show Steps p.tables e below (T39.setTop (mkF m 160 #[.val (.ref a1), .val (.int (0 : Int32)), .val (.int (Int32.ofNat (n + 5))), .val (.ref b)] [(.ref a1)])) _
  jvm_step X39.here [X39.here.top, hx, (hb hby d36_160), X39.method', Bd.returns, Value.isRef, FieldType.isReference]
  first | (intro acts; rw [hr _ acts rfl rfl rfl]) | rw [hr _ _ rfl rfl rfl]
  exact Steps.refl _
def Q_sb_appZ0 (Z : State) (a1 : Addr) (b : Addr) (cap : Nat) (n : Nat) (f : Nat → Int32) (cs : Int32) (h0 : Heap) (n0 : Nat) (v : Option Value) (h : Heap) (L : List Loc) : Prop := v = some (.ref a1) ∧ Fr n0 L ∧ Keep h0 h [a1, b] ∧ SBd Z h a1 b cap (n + 5) (fun x => if x = n + 4 then (101 : Int32) else if x = n + 3 then (115 : Int32) else if x = n + 2 then (108 : Int32) else if x = n + 1 then (97 : Int32) else if x = n + 0 then (102 : Int32) else f x)
set_option maxRecDepth 65536 in
set_option maxHeartbeats 40000000 in
theorem sb_appZ0 (l : Launch) (Z : State) (a0 : Array Value) (hw : ∀ d ∈ tables_1, d.before a0 Z = true) (ws : List Jvm.Cond) (a1 : Addr) (b : Addr) (cap : Nat) (n : Nat) (f : Nat → Int32) (cs : Int32) (h0 : Heap) (n0 : Nat) (Z0 : n0 ≤ h0.size) (S0 : Sta Z Z.heap "java/lang/String" "COMPACT_STRINGS" "Z" (.int cs)) (hcs : ¬ cs = (0 : Int32)) (O : Old Z n0 h0) (F : SBd Z h0 a1 b cap n f) (hn : n + 5 ≤ cap) (g_a : n0 ≤ a1) (g_b : n0 ≤ b) :
    MetFree l (⟨"java/lang/StringBuilder", "append", "(Z)Ljava/lang/StringBuilder;"⟩ : MethodName) (head1 (Jvm.Cond.code (⟨"java/lang/StringBuilder", "append", "(Z)Ljava/lang/StringBuilder;"⟩ : MethodName) jdk_67_method_13_code 2 (some (.object "java/lang/StringBuilder")) :: ws) ({ frames := 2, cells := 0, slots := 0, locals := 29 } : Room)) (fun a U => a = #[(.ref a1), (.int (0 : Int32))] ∧ Z.Warmed39 U.vm ∧ U.heap = h0) (fun _ _ _ _ _ => True) (fun _ U o U' => ∃ v L, o = .returned v ∧ Q_sb_appZ0 Z a1 b cap n f cs h0 n0 v U'.heap L ∧ FrameEnd U o U' L ({ frames := 2, cells := 0, slots := 0, locals := 29 } : Room).cells ({ frames := 2, cells := 0, slots := 0, locals := 29 } : Room).slots) := by
  refine MetFree.of_bodySF (plainFor_of_name pn_3) hisR ?_
  intro p e s m args below meth c s₁ Bd hml0 hP hK
  obtain ⟨rfl, hZ, hh⟩ := hP
  have hx := Bd.exec
  have hby := Bd.bytes
  have hml : c.maxLocals = 2 := hml0
  have hown : s.vm.findClass "java/lang/StringBuilder" = some m.cls := findClass_of_methodNamed Bd.named
  have hnm := (name_of_methodNamed Bd.named Bd.method).1
  have X0 : Stand p l e ({ frames := 2, cells := 0, slots := 0, locals := 29 } : Room) s m #[(.ref a1), (.int (0 : Int32))] below meth c s₁ [] 0 0 := Stand.of_body Bd
  have e0 : s₁.heap = h0 := by rw [← hh, Bd.state]; rfl
  have N0 := Fr.nil n0
  have eF : entryFrame m #[(.ref a1), (.int (0 : Int32))] 2 = mkF m 0 #[.val (.ref a1), .val (.int (0 : Int32))] [] := by first | (simp [entryFrame, mkF, argsToLocals, Value.category]; done) | rfl
  show Ends p e below s ({ frames := 2, cells := 0, slots := 0, locals := 29 } : Room) (Q_sb_appZ0 Z a1 b cap n f cs h0 n0) (s₁.setTop (entryFrame m #[(.ref a1), (.int (0 : Int32))] 2))
  rw [eF]
  refine Ends.of (F' := s₁.setTop (mkF m 2 #[.val (.ref a1), .val (.int (0 : Int32))] [(.int (0 : Int32)), (.ref a1)])) (fun _ kt => ?_) ?_
  · show Steps p.tables e below (s₁.setTop (mkF m 0 #[.val (.ref a1), .val (.int (0 : Int32))] [])) _
    refine XS.aloadN X0.here hx rfl (hb hby d35_0) rfl rfl ?_
    show Steps p.tables e below (s₁.setTop (mkF m 1 #[.val (.ref a1), .val (.int (0 : Int32))] [(.ref a1)])) _
    refine XS.iloadN X0.here hx rfl (hb hby d35_1) rfl ?_
    exact kt
  obtain ⟨_, _, ⟨T40, L40, k40, n40⟩, -, X40, ⟨Lc40, hQ40, l40, y40, z40⟩, st40⟩ := superBack X0 hx hZ (y := (⟨"java/lang/AbstractStringBuilder", "append", "(Z)Ljava/lang/AbstractStringBuilder;"⟩ : MethodName)) hown (hw _ (List.mem_of_getElem? (i := 189) rfl)) (own_same (y := (⟨"java/lang/AbstractStringBuilder", "append", "(Z)Ljava/lang/AbstractStringBuilder;"⟩ : MethodName)) (z := (⟨"java/lang/AbstractStringBuilder", "ensureCapacityInternal", "(I)V"⟩ : MethodName)) rfl (by decide) (hw _ (List.mem_of_getElem? (i := 190) rfl)) (hw _ (List.mem_of_getElem? (i := 52) rfl))) (hw _ (List.mem_of_getElem? (i := 190) rfl)) (hw _ (List.mem_of_getElem? (i := 44) rfl)) (by decide) (backOf (W := 0) (asb_appZ0 l Z a0 hw [] a1 b cap n f cs h0 n0 Z0 S0 hcs O F hn g_a g_b) hZ (hw _ (List.mem_of_getElem? (i := 192) rfl)) (hw _ (List.mem_of_getElem? (i := 20) rfl)) (by decide) (by decide)) e0 (Ins.self F.1) (g := (mkF m 2 #[.val (.ref a1), .val (.int (0 : Int32))] [(.int (0 : Int32)), (.ref a1)])) rfl (by rw [hml]; rfl) (hw _ (List.mem_of_getElem? (i := 192) rfl)) (argsL := [(.int (0 : Int32))]) (rest := []) (lenOf pd_25 rfl) rfl (by show 2 * 0 + _ ≤ _; exact Nat.le_of_eq rfl) (hb hby d35_2) (fun _ _ => ⟨rfl, e0, (by decide : 0 + 0 ≤ _), (by decide : 0 + 0 ≤ _)⟩)
  dsimp only [Pt.U, Pt.locs, Pt.cells, Pt.slots] at X40 l40 y40 z40 st40 hQ40
  subst l40 y40 z40
  obtain ⟨rfl, N40q, K40, F40⟩ := hQ40
  have N40 := Fr.app N0 N40q
  refine Ends.st st40 ?_
  refine Ends.of (F' := T40.setTop (mkF m 7 #[.val (.ref a1), .val (.int (0 : Int32))] [(.ref a1)])) (fun _ kt => ?_) ?_
  · show Steps p.tables e below (T40.setTop (mkF m 5 #[.val (.ref a1), .val (.int (0 : Int32))] [(.ref a1)])) _
    refine XS.pop X40.here hx rfl (hb hby d35_5) rfl rfl ?_
    show Steps p.tables e below (T40.setTop (mkF m 6 #[.val (.ref a1), .val (.int (0 : Int32))] [])) _
    refine XS.aloadN X40.here hx rfl (hb hby d35_6) rfl rfl ?_
    exact kt
  obtain ⟨fs, hr, hrun, hended, hW, hsame⟩ := X40.leave (v := some (.ref a1)) (fun h => by rw [Bd.returns] at h; cases h)
  refine ⟨_, _, ?_, hrun, hended, _, _, rfl, ⟨rfl, N40, K40, F40⟩, ⟨_, rfl⟩, hW, hsame.mono (by decide) (by decide)⟩
  show Steps p.tables e below (T40.setTop (mkF m 7 #[.val (.ref a1), .val (.int (0 : Int32))] [(.ref a1)])) _
  jvm_step X40.here [X40.here.top, hx, (hb hby d35_7), X40.method', Bd.returns, Value.isRef, FieldType.isReference]
  first | (intro acts; rw [hr _ acts rfl rfl rfl]) | rw [hr _ _ rfl rfl rfl]
  exact Steps.refl _
theorem d4_0 : decode jdk_68_method_2_code 0 = .ok (.aload_n 0, 1) := by decide +kernel
theorem d4_1 : decode jdk_68_method_2_code 1 = .ok (.invokespecial 3, 3) := by decide +kernel
theorem d4_4 : decode jdk_68_method_2_code 4 = .ok (.getstatic 18, 3) := by decide +kernel
theorem d4_7 : decode jdk_68_method_2_code 7 = .ok (.ifCond .eq 18, 3) := by decide +kernel
theorem d4_10 : decode jdk_68_method_2_code 10 = .ok (.aload_n 0, 1) := by decide +kernel
theorem d4_11 : decode jdk_68_method_2_code 11 = .ok (.iload_n 1, 1) := by decide +kernel
theorem d4_12 : decode jdk_68_method_2_code 12 = .ok (.newarray .byte, 2) := by decide +kernel
theorem d4_14 : decode jdk_68_method_2_code 14 = .ok (.putfield 15, 3) := by decide +kernel
theorem d4_17 : decode jdk_68_method_2_code 17 = .ok (.aload_n 0, 1) := by decide +kernel
theorem d4_18 : decode jdk_68_method_2_code 18 = .ok (.iconst 0, 1) := by decide +kernel
theorem d4_19 : decode jdk_68_method_2_code 19 = .ok (.putfield 22, 3) := by decide +kernel
theorem d4_22 : decode jdk_68_method_2_code 22 = .ok (.goto 16, 3) := by decide +kernel
theorem d4_25 : decode jdk_68_method_2_code 25 = .ok (.aload_n 0, 1) := by decide +kernel
theorem d4_26 : decode jdk_68_method_2_code 26 = .ok (.iload_n 1, 1) := by decide +kernel
theorem d4_27 : decode jdk_68_method_2_code 27 = .ok (.invokestatic 26, 3) := by decide +kernel
theorem d4_30 : decode jdk_68_method_2_code 30 = .ok (.putfield 15, 3) := by decide +kernel
theorem d4_33 : decode jdk_68_method_2_code 33 = .ok (.aload_n 0, 1) := by decide +kernel
theorem d4_34 : decode jdk_68_method_2_code 34 = .ok (.iconst 1, 1) := by decide +kernel
theorem d4_35 : decode jdk_68_method_2_code 35 = .ok (.putfield 22, 3) := by decide +kernel
theorem d4_38 : decode jdk_68_method_2_code 38 = .ok (.return_, 1) := by decide +kernel
def Q_asb_initI (Z : State) (a1 : Addr) (cs : Int32) (h0 : Heap) (n0 : Nat) (v : Option Value) (h : Heap) (L : List Loc) : Prop := v = none ∧ Fr n0 L ∧ Keep h0 h [a1] ∧ ∃ b : Addr, SBd Z h a1 b 256 0 (fun _ => 0) ∧ h0.size ≤ b
set_option maxRecDepth 65536 in
set_option maxHeartbeats 40000000 in
theorem asb_initI (l : Launch) (Z : State) (a0 : Array Value) (hw : ∀ d ∈ tables_1, d.before a0 Z = true) (ws : List Jvm.Cond) (a1 : Addr) (cs : Int32) (h0 : Heap) (n0 : Nat) (Z0 : n0 ≤ h0.size) (S0 : Sta Z Z.heap "java/lang/String" "COMPACT_STRINGS" "Z" (.int cs)) (hcs : ¬ cs = (0 : Int32)) (O : Old Z n0 h0) (E_a : Exa Z h0 a1 "java/lang/StringBuilder") (F_v : Fld Z h0 a1 "java/lang/AbstractStringBuilder" "value" "[B" .null) (F_c : Fld Z h0 a1 "java/lang/AbstractStringBuilder" "coder" "B" (.int (0 : Int32))) (F_n : Fld Z h0 a1 "java/lang/AbstractStringBuilder" "count" "I" (.int (0 : Int32))) (g_a : n0 ≤ a1) :
    MetFree l (⟨"java/lang/AbstractStringBuilder", "<init>", "(I)V"⟩ : MethodName) (head1 (Jvm.Cond.code (⟨"java/lang/AbstractStringBuilder", "<init>", "(I)V"⟩ : MethodName) jdk_68_method_2_code 2 none :: ws) ({ frames := 1, cells := 1, slots := 256, locals := 12 } : Room)) (fun a U => a = #[(.ref a1), (.int (256 : Int32))] ∧ Z.Warmed39 U.vm ∧ U.heap = h0) (fun _ _ _ _ _ => True) (fun _ U o U' => ∃ v L, o = .returned v ∧ Q_asb_initI Z a1 cs h0 n0 v U'.heap L ∧ FrameEnd U o U' L ({ frames := 1, cells := 1, slots := 256, locals := 12 } : Room).cells ({ frames := 1, cells := 1, slots := 256, locals := 12 } : Room).slots) := by
  refine MetFree.of_bodySF (plainFor_of_name pn_2) hisR ?_
  intro p e s m args below meth c s₁ Bd hml0 hP hK
  obtain ⟨rfl, hZ, hh⟩ := hP
  have hx := Bd.exec
  have hby := Bd.bytes
  have hml : c.maxLocals = 2 := hml0
  have hown : s.vm.findClass "java/lang/AbstractStringBuilder" = some m.cls := findClass_of_methodNamed Bd.named
  have hnm := (name_of_methodNamed Bd.named Bd.method).1
  have X0 : Stand p l e ({ frames := 1, cells := 1, slots := 256, locals := 12 } : Room) s m #[(.ref a1), (.int (256 : Int32))] below meth c s₁ [] 0 0 := Stand.of_body Bd
  have e0 : s₁.heap = h0 := by rw [← hh, Bd.state]; rfl
  have N0 := Fr.nil n0
  have eF : entryFrame m #[(.ref a1), (.int (256 : Int32))] 2 = mkF m 0 #[.val (.ref a1), .val (.int (256 : Int32))] [] := by first | (simp [entryFrame, mkF, argsToLocals, Value.category]; done) | rfl
  show Ends p e below s ({ frames := 1, cells := 1, slots := 256, locals := 12 } : Room) (Q_asb_initI Z a1 cs h0 n0) (s₁.setTop (entryFrame m #[(.ref a1), (.int (256 : Int32))] 2))
  rw [eF]
  refine Ends.of (F' := s₁.setTop (mkF m 1 #[.val (.ref a1), .val (.int (256 : Int32))] [(.ref a1)])) (fun _ kt => ?_) ?_
  · show Steps p.tables e below (s₁.setTop (mkF m 0 #[.val (.ref a1), .val (.int (256 : Int32))] [])) _
    refine XS.aloadN X0.here hx rfl (hb hby d4_0) rfl rfl ?_
    exact kt
  obtain ⟨T41, X41, e41, st41⟩ := initO X0 hx hZ hown (hw _ (List.mem_of_getElem? (i := 22) rfl)) (hw _ (List.mem_of_getElem? (i := 8) rfl)) (hw _ (List.mem_of_getElem? (i := 9) rfl)) e0 (g := (mkF m 1 #[.val (.ref a1), .val (.int (256 : Int32))] [(.ref a1)])) rfl (by rw [hml]; rfl) rfl (hb hby d4_1) (by decide) (W := 0) (by show 2 * 0 + _ ≤ _; exact Nat.le_of_eq rfl) (by decide)
  refine Ends.of st41 ?_
  obtain ⟨T42, X42, e42, st42⟩ := getS2 X41 hx hZ hown (host := "") (Or.inl (hw _ (List.mem_of_getElem? (i := 23) rfl))) Via.refl e41 (S0.ext O.2) (g := (mkF m 4 #[.val (.ref a1), .val (.int (256 : Int32))] [])) rfl (hb hby d4_4)
  refine Ends.of st42 ?_
  refine Ends.of (F' := T42.setTop (mkF m 12 #[.val (.ref a1), .val (.int (256 : Int32))] [(.int (256 : Int32)), (.ref a1)])) (fun _ kt => ?_) ?_
  · show Steps p.tables e below (T42.setTop (mkF m 7 #[.val (.ref a1), .val (.int (256 : Int32))] [(.int cs)])) _
    refine XS.ifNo X42.here hx rfl (hb hby d4_7) rfl ((if0 _ _).trans (feq hcs).1) ?_
    show Steps p.tables e below (T42.setTop (mkF m 10 #[.val (.ref a1), .val (.int (256 : Int32))] [])) _
    refine XS.aloadN X42.here hx rfl (hb hby d4_10) rfl rfl ?_
    show Steps p.tables e below (T42.setTop (mkF m 11 #[.val (.ref a1), .val (.int (256 : Int32))] [(.ref a1)])) _
    refine XS.iloadN X42.here hx rfl (hb hby d4_11) rfl ?_
    exact kt
  obtain ⟨T43, h43, k43, X43, e43, E43, A43, st43⟩ := newP X42 hx hZ (hw _ (List.mem_of_getElem? (i := 25) rfl)) e42 (g := (mkF m 12 #[.val (.ref a1), .val (.int (256 : Int32))] [(.int (256 : Int32)), (.ref a1)])) rfl (hb hby d4_12) rfl (by decide) (cap := 256) (by decide) (by decide) (by decide) (by decide)
  obtain ⟨b43, g43⟩ : ∃ z, z = h0.size := ⟨_, rfl⟩
  rw [← g43] at A43 st43
  refine Ends.of st43 ?_
  have V0 : Ary .byte Z h43 b43 256 (fun _ => 0) := Ary.new (n := 256) A43 (by omega) rfl
  have nab : b43 ≠ a1 := Ne.symm (Nat.ne_of_lt (Nat.lt_of_lt_of_le E_a.lt (Nat.le_of_eq g43.symm)))
  obtain ⟨T44, h44, X44, e44, W44, st44⟩ := putF X43 hx hZ hown (host := "") (Or.inl (hw _ (List.mem_of_getElem? (i := 26) rfl))) Via.refl e43 (F_v.ext E43) (E_a.ext E43) (Or.inl (hw _ (List.mem_of_getElem? (i := 27) rfl))) (hw _ (List.mem_of_getElem? (i := 11) rfl)) (ty := (.array .byte)) (by decide) rfl rfl (g := (mkF m 14 #[.val (.ref a1), .val (.int (256 : Int32))] [(.ref b43), (.ref a1)])) rfl rfl (hb hby d4_14)
  refine Ends.of st44 ?_
  have N44 := Fr.snoc X44 N0 g_a
  have F_v1 := (F_v.ext E43).same W44
  have F_c1 := (F_c.ext E43).other W44 (Or.inr (slot_ne (Or.inl (hw _ (List.mem_of_getElem? (i := 29) rfl))) (Or.inl (hw _ (List.mem_of_getElem? (i := 27) rfl))) (by decide) (t := .byte) (t' := (.array .byte)) (by decide) (by decide)))
  have F_n1 := (F_n.ext E43).other W44 (Or.inr (slot_ne (Or.inl (hw _ (List.mem_of_getElem? (i := 48) rfl))) (Or.inl (hw _ (List.mem_of_getElem? (i := 27) rfl))) (by decide) (t := .int) (t' := (.array .byte)) (by decide) (by decide)))
  have E_1 := (E_a.ext E43).wr W44
  have V1 := V0.other W44 nab
  have K1 : Keep h0 h44 [a1] := ((Keep.refl h0 [a1]).ext E43).wr W44 (Or.inl (List.mem_of_getElem? (i := 0) rfl))
  refine Ends.of (F' := T44.setTop (mkF m 19 #[.val (.ref a1), .val (.int (256 : Int32))] [(.int (0 : Int32)), (.ref a1)])) (fun _ kt => ?_) ?_
  · show Steps p.tables e below (T44.setTop (mkF m 17 #[.val (.ref a1), .val (.int (256 : Int32))] [])) _
    refine XS.aloadN X44.here hx rfl (hb hby d4_17) rfl rfl ?_
    show Steps p.tables e below (T44.setTop (mkF m 18 #[.val (.ref a1), .val (.int (256 : Int32))] [(.ref a1)])) _
    refine XS.iconst X44.here hx rfl (hb hby d4_18) ?_
    exact kt
  obtain ⟨T45, h45, X45, e45, W45, st45⟩ := putFN X44 hx hZ hown (hw _ (List.mem_of_getElem? (i := 28) rfl)) Via.refl e44 F_c1 E_1 (Or.inl (hw _ (List.mem_of_getElem? (i := 29) rfl))) (hw _ (List.mem_of_getElem? (i := 11) rfl)) (ty := .byte) (v' := (.int (0 : Int32))) (by decide) rfl rfl (g := (mkF m 19 #[.val (.ref a1), .val (.int (256 : Int32))] [(.int (0 : Int32)), (.ref a1)])) rfl rfl (hb hby d4_19)
  refine Ends.of st45 ?_
  have N45 := Fr.snoc X45 N44 g_a
  have F_c2 := F_c1.same W45
  have F_v2 := F_v1.other W45 (Or.inr (slot_ne (Or.inl (hw _ (List.mem_of_getElem? (i := 27) rfl))) (Or.inl (hw _ (List.mem_of_getElem? (i := 29) rfl))) (by decide) (t := (.array .byte)) (t' := .byte) (by decide) (by decide)))
  have F_n2 := F_n1.other W45 (Or.inr (slot_ne (Or.inl (hw _ (List.mem_of_getElem? (i := 48) rfl))) (Or.inl (hw _ (List.mem_of_getElem? (i := 29) rfl))) (by decide) (t := .int) (t' := .byte) (by decide) (by decide)))
  have E_2 := E_1.wr W45
  have V2 := V1.other W45 nab
  have K2 : Keep h0 h45 [a1] := K1.wr W45 (Or.inl (List.mem_of_getElem? (i := 0) rfl))
  rw [← e45] at F_c2 F_v2 F_n2 E_2 V2 K2
  refine Ends.of (F' := T45.setTop (mkF m 38 #[.val (.ref a1), .val (.int (256 : Int32))] [])) (fun _ kt => ?_) ?_
  · show Steps p.tables e below (T45.setTop (mkF m 22 #[.val (.ref a1), .val (.int (256 : Int32))] [])) _
    refine XS.goto X45.here hx rfl (pc0 := 22) (pc' := 38) rfl (hb hby d4_22) (by decide) (by decide) ?_
    exact kt
  obtain ⟨fs, hr, hrun, hended, hW, hsame⟩ := X45.leave (v := none) (fun _ => rfl)
  exact ⟨_, _, X45.returnOut hx Bd.returns (hb hby d4_38) hr, hrun, hended, _, _, rfl, ⟨rfl, N45, K2, b43, ⟨E_2, F_c2, F_n2, F_v2, V2, by omega⟩, Nat.le_of_eq g43.symm⟩, ⟨_, rfl⟩, hW, hsame.mono (by decide) (by decide)⟩
theorem d3_0 : decode jdk_67_method_2_code 0 = .ok (.aload_n 0, 1) := by decide +kernel
theorem d3_1 : decode jdk_67_method_2_code 1 = .ok (.iload_n 1, 1) := by decide +kernel
theorem d3_2 : decode jdk_67_method_2_code 2 = .ok (.invokespecial 1, 3) := by decide +kernel
theorem d3_5 : decode jdk_67_method_2_code 5 = .ok (.return_, 1) := by decide +kernel
def Q_sb_initI (Z : State) (a1 : Addr) (cs : Int32) (h0 : Heap) (n0 : Nat) (v : Option Value) (h : Heap) (L : List Loc) : Prop := v = none ∧ Fr n0 L ∧ Keep h0 h [a1] ∧ ∃ b : Addr, SBd Z h a1 b 256 0 (fun _ => 0) ∧ h0.size ≤ b
set_option maxRecDepth 65536 in
set_option maxHeartbeats 40000000 in
theorem sb_initI (l : Launch) (Z : State) (a0 : Array Value) (hw : ∀ d ∈ tables_1, d.before a0 Z = true) (ws : List Jvm.Cond) (a1 : Addr) (cs : Int32) (h0 : Heap) (n0 : Nat) (Z0 : n0 ≤ h0.size) (S0 : Sta Z Z.heap "java/lang/String" "COMPACT_STRINGS" "Z" (.int cs)) (hcs : ¬ cs = (0 : Int32)) (O : Old Z n0 h0) (E_a : Exa Z h0 a1 "java/lang/StringBuilder") (F_v : Fld Z h0 a1 "java/lang/AbstractStringBuilder" "value" "[B" .null) (F_c : Fld Z h0 a1 "java/lang/AbstractStringBuilder" "coder" "B" (.int (0 : Int32))) (F_n : Fld Z h0 a1 "java/lang/AbstractStringBuilder" "count" "I" (.int (0 : Int32))) (g_a : n0 ≤ a1) :
    MetFree l (⟨"java/lang/StringBuilder", "<init>", "(I)V"⟩ : MethodName) (head1 (Jvm.Cond.code (⟨"java/lang/StringBuilder", "<init>", "(I)V"⟩ : MethodName) jdk_67_method_2_code 2 none :: ws) ({ frames := 2, cells := 1, slots := 256, locals := 25 } : Room)) (fun a U => a = #[(.ref a1), (.int (256 : Int32))] ∧ Z.Warmed39 U.vm ∧ U.heap = h0) (fun _ _ _ _ _ => True) (fun _ U o U' => ∃ v L, o = .returned v ∧ Q_sb_initI Z a1 cs h0 n0 v U'.heap L ∧ FrameEnd U o U' L ({ frames := 2, cells := 1, slots := 256, locals := 25 } : Room).cells ({ frames := 2, cells := 1, slots := 256, locals := 25 } : Room).slots) := by
  refine MetFree.of_bodySF (plainFor_of_name pn_3) hisR ?_
  intro p e s m args below meth c s₁ Bd hml0 hP hK
  obtain ⟨rfl, hZ, hh⟩ := hP
  have hx := Bd.exec
  have hby := Bd.bytes
  have hml : c.maxLocals = 2 := hml0
  have hown : s.vm.findClass "java/lang/StringBuilder" = some m.cls := findClass_of_methodNamed Bd.named
  have hnm := (name_of_methodNamed Bd.named Bd.method).1
  have X0 : Stand p l e ({ frames := 2, cells := 1, slots := 256, locals := 25 } : Room) s m #[(.ref a1), (.int (256 : Int32))] below meth c s₁ [] 0 0 := Stand.of_body Bd
  have e0 : s₁.heap = h0 := by rw [← hh, Bd.state]; rfl
  have N0 := Fr.nil n0
  have eF : entryFrame m #[(.ref a1), (.int (256 : Int32))] 2 = mkF m 0 #[.val (.ref a1), .val (.int (256 : Int32))] [] := by first | (simp [entryFrame, mkF, argsToLocals, Value.category]; done) | rfl
  show Ends p e below s ({ frames := 2, cells := 1, slots := 256, locals := 25 } : Room) (Q_sb_initI Z a1 cs h0 n0) (s₁.setTop (entryFrame m #[(.ref a1), (.int (256 : Int32))] 2))
  rw [eF]
  refine Ends.of (F' := s₁.setTop (mkF m 2 #[.val (.ref a1), .val (.int (256 : Int32))] [(.int (256 : Int32)), (.ref a1)])) (fun _ kt => ?_) ?_
  · show Steps p.tables e below (s₁.setTop (mkF m 0 #[.val (.ref a1), .val (.int (256 : Int32))] [])) _
    refine XS.aloadN X0.here hx rfl (hb hby d3_0) rfl rfl ?_
    show Steps p.tables e below (s₁.setTop (mkF m 1 #[.val (.ref a1), .val (.int (256 : Int32))] [(.ref a1)])) _
    refine XS.iloadN X0.here hx rfl (hb hby d3_1) rfl ?_
    exact kt
  obtain ⟨_, _, ⟨T46, L46, k46, n46⟩, -, X46, ⟨Lc46, hQ46, l46, y46, z46⟩, st46⟩ := X0.specialBack hx (y := (⟨"java/lang/AbstractStringBuilder", "<init>", "(I)V"⟩ : MethodName)) rfl hown (mvT hZ (hw _ (List.mem_of_getElem? (i := 16) rfl))) (mvT hZ (hw _ (List.mem_of_getElem? (i := 17) rfl))) (mvT hZ (hw _ (List.mem_of_getElem? (i := 21) rfl))) (by decide) (backOf (W := 0) (asb_initI l Z a0 hw [] a1 cs h0 n0 Z0 S0 hcs O E_a F_v F_c F_n g_a) hZ (hw _ (List.mem_of_getElem? (i := 21) rfl)) (hw _ (List.mem_of_getElem? (i := 20) rfl)) (by decide) (by decide)) (g := (mkF m 2 #[.val (.ref a1), .val (.int (256 : Int32))] [(.int (256 : Int32)), (.ref a1)])) rfl (by rw [hml]; rfl) (Steps.refl _) (a := a1) (argsL := [(.int (256 : Int32))]) (rest := []) (lenOf pd_1 rfl) rfl (by show 2 * 0 + _ ≤ _; exact Nat.le_of_eq rfl) (hb hby d3_2) (fun _ _ => ⟨rfl, e0, (by decide : 0 + 1 ≤ _), (by decide : 0 + 256 ≤ _)⟩)
  dsimp only [Pt.U, Pt.locs, Pt.cells, Pt.slots] at X46 l46 y46 z46 st46 hQ46
  subst l46 y46 z46
  obtain ⟨rfl, N46q, K46, b46, F46, gb46⟩ := hQ46
  have N46 := Fr.app N0 N46q
  refine Ends.st st46 ?_
  obtain ⟨fs, hr, hrun, hended, hW, hsame⟩ := X46.leave (v := none) (fun _ => rfl)
  exact ⟨_, _, X46.returnOut hx Bd.returns (hb hby d3_5) hr, hrun, hended, _, _, rfl, ⟨rfl, N46, K46, b46, F46, gb46⟩, ⟨_, rfl⟩, hW, hsame.mono (by decide) (by decide)⟩
theorem d15_0 : decode jdk_68_method_64_code 0 = .ok (.aload_n 0, 1) := by decide +kernel
theorem d15_1 : decode jdk_68_method_64_code 1 = .ok (.getfield 15, 3) := by decide +kernel
theorem d15_4 : decode jdk_68_method_64_code 4 = .ok (.areturn, 1) := by decide +kernel
def Q_asb_val (Z : State) (a1 : Addr) (b : Addr) (h0 : Heap) (n0 : Nat) (v : Option Value) (h : Heap) (L : List Loc) : Prop := v = some (.ref b) ∧ Fr n0 L ∧ h = h0
set_option maxRecDepth 65536 in
set_option maxHeartbeats 40000000 in
theorem asb_val (l : Launch) (Z : State) (a0 : Array Value) (hw : ∀ d ∈ tables_1, d.before a0 Z = true) (ws : List Jvm.Cond) (a1 : Addr) (b : Addr) (h0 : Heap) (n0 : Nat) (Z0 : n0 ≤ h0.size) (F_v : Fld Z h0 a1 "java/lang/AbstractStringBuilder" "value" "[B" (.ref b)) :
    MetFree l (⟨"java/lang/AbstractStringBuilder", "getValue", "()[B"⟩ : MethodName) (head1 (Jvm.Cond.code (⟨"java/lang/AbstractStringBuilder", "getValue", "()[B"⟩ : MethodName) jdk_68_method_64_code 1 (some (.array .byte)) :: ws) ({ frames := 0, cells := 0, slots := 0, locals := 0 } : Room)) (fun a U => a = #[(.ref a1)] ∧ Z.Warmed39 U.vm ∧ U.heap = h0) (fun _ _ _ _ _ => True) (fun _ U o U' => ∃ v L, o = .returned v ∧ Q_asb_val Z a1 b h0 n0 v U'.heap L ∧ FrameEnd U o U' L ({ frames := 0, cells := 0, slots := 0, locals := 0 } : Room).cells ({ frames := 0, cells := 0, slots := 0, locals := 0 } : Room).slots) := by
  refine MetFree.of_bodySF (plainFor_of_name pn_2) hisR ?_
  intro p e s m args below meth c s₁ Bd hml0 hP hK
  obtain ⟨rfl, hZ, hh⟩ := hP
  have hx := Bd.exec
  have hby := Bd.bytes
  have hml : c.maxLocals = 1 := hml0
  have hown : s.vm.findClass "java/lang/AbstractStringBuilder" = some m.cls := findClass_of_methodNamed Bd.named
  have hnm := (name_of_methodNamed Bd.named Bd.method).1
  have X0 : Stand p l e ({ frames := 0, cells := 0, slots := 0, locals := 0 } : Room) s m #[(.ref a1)] below meth c s₁ [] 0 0 := Stand.of_body Bd
  have e0 : s₁.heap = h0 := by rw [← hh, Bd.state]; rfl
  have N0 := Fr.nil n0
  have eF : entryFrame m #[(.ref a1)] 1 = mkF m 0 #[.val (.ref a1)] [] := by first | (simp [entryFrame, mkF, argsToLocals, Value.category]; done) | rfl
  show Ends p e below s ({ frames := 0, cells := 0, slots := 0, locals := 0 } : Room) (Q_asb_val Z a1 b h0 n0) (s₁.setTop (entryFrame m #[(.ref a1)] 1))
  rw [eF]
  refine Ends.of (F' := s₁.setTop (mkF m 1 #[.val (.ref a1)] [(.ref a1)])) (fun _ kt => ?_) ?_
  · show Steps p.tables e below (s₁.setTop (mkF m 0 #[.val (.ref a1)] [])) _
    refine XS.aloadN X0.here hx rfl (hb hby d15_0) rfl rfl ?_
    exact kt
  obtain ⟨T47, X47, e47, st47⟩ := getF X0 hx hZ hown (host := "") (Or.inl (hw _ (List.mem_of_getElem? (i := 26) rfl))) Via.refl e0 F_v (g := (mkF m 1 #[.val (.ref a1)] [(.ref a1)])) rfl rfl (hb hby d15_1)
  refine Ends.of st47 ?_
  obtain ⟨fs, hr, hrun, hended, hW, hsame⟩ := X47.leave (v := some (.ref b)) (fun h => by rw [Bd.returns] at h; cases h)
  refine ⟨_, _, ?_, hrun, hended, _, _, rfl, ⟨rfl, N0, e47⟩, ⟨_, rfl⟩, hW, hsame.mono (by decide) (by decide)⟩
  show Steps p.tables e below (T47.setTop (mkF m 4 #[.val (.ref a1)] [(.ref b)])) _
  jvm_step X47.here [X47.here.top, hx, (hb hby d15_4), X47.method', Bd.returns, Value.isRef, FieldType.isReference]
  first | (intro acts; rw [hr _ acts rfl rfl rfl]) | rw [hr _ _ rfl rfl rfl]
  exact Steps.refl _
theorem d17_0 : decode jdk_68_method_6_code 0 = .ok (.aload_n 0, 1) := by decide +kernel
theorem d17_1 : decode jdk_68_method_6_code 1 = .ok (.getfield 79, 3) := by decide +kernel
theorem d17_4 : decode jdk_68_method_6_code 4 = .ok (.ireturn, 1) := by decide +kernel
def Q_asb_len (Z : State) (a1 : Addr) (n : Nat) (h0 : Heap) (n0 : Nat) (v : Option Value) (h : Heap) (L : List Loc) : Prop := v = some (.int (Int32.ofNat n)) ∧ Fr n0 L ∧ h = h0
set_option maxRecDepth 65536 in
set_option maxHeartbeats 40000000 in
theorem asb_len (l : Launch) (Z : State) (a0 : Array Value) (hw : ∀ d ∈ tables_1, d.before a0 Z = true) (ws : List Jvm.Cond) (a1 : Addr) (n : Nat) (h0 : Heap) (n0 : Nat) (Z0 : n0 ≤ h0.size) (F_n : Fld Z h0 a1 "java/lang/AbstractStringBuilder" "count" "I" (.int (Int32.ofNat n))) :
    MetFree l (⟨"java/lang/AbstractStringBuilder", "length", "()I"⟩ : MethodName) (head1 (Jvm.Cond.code (⟨"java/lang/AbstractStringBuilder", "length", "()I"⟩ : MethodName) jdk_68_method_6_code 1 (some .int) :: ws) ({ frames := 0, cells := 0, slots := 0, locals := 0 } : Room)) (fun a U => a = #[(.ref a1)] ∧ Z.Warmed39 U.vm ∧ U.heap = h0) (fun _ _ _ _ _ => True) (fun _ U o U' => ∃ v L, o = .returned v ∧ Q_asb_len Z a1 n h0 n0 v U'.heap L ∧ FrameEnd U o U' L ({ frames := 0, cells := 0, slots := 0, locals := 0 } : Room).cells ({ frames := 0, cells := 0, slots := 0, locals := 0 } : Room).slots) := by
  refine MetFree.of_bodySF (plainFor_of_name pn_2) hisR ?_
  intro p e s m args below meth c s₁ Bd hml0 hP hK
  obtain ⟨rfl, hZ, hh⟩ := hP
  have hx := Bd.exec
  have hby := Bd.bytes
  have hml : c.maxLocals = 1 := hml0
  have hown : s.vm.findClass "java/lang/AbstractStringBuilder" = some m.cls := findClass_of_methodNamed Bd.named
  have hnm := (name_of_methodNamed Bd.named Bd.method).1
  have X0 : Stand p l e ({ frames := 0, cells := 0, slots := 0, locals := 0 } : Room) s m #[(.ref a1)] below meth c s₁ [] 0 0 := Stand.of_body Bd
  have e0 : s₁.heap = h0 := by rw [← hh, Bd.state]; rfl
  have N0 := Fr.nil n0
  have eF : entryFrame m #[(.ref a1)] 1 = mkF m 0 #[.val (.ref a1)] [] := by first | (simp [entryFrame, mkF, argsToLocals, Value.category]; done) | rfl
  show Ends p e below s ({ frames := 0, cells := 0, slots := 0, locals := 0 } : Room) (Q_asb_len Z a1 n h0 n0) (s₁.setTop (entryFrame m #[(.ref a1)] 1))
  rw [eF]
  refine Ends.of (F' := s₁.setTop (mkF m 1 #[.val (.ref a1)] [(.ref a1)])) (fun _ kt => ?_) ?_
  · show Steps p.tables e below (s₁.setTop (mkF m 0 #[.val (.ref a1)] [])) _
    refine XS.aloadN X0.here hx rfl (hb hby d17_0) rfl rfl ?_
    exact kt
  obtain ⟨T48, X48, e48, st48⟩ := getF X0 hx hZ hown (host := "") (Or.inl (hw _ (List.mem_of_getElem? (i := 47) rfl))) Via.refl e0 F_n (g := (mkF m 1 #[.val (.ref a1)] [(.ref a1)])) rfl rfl (hb hby d17_1)
  refine Ends.of st48 ?_
  obtain ⟨fs, hr, hrun, hended, hW, hsame⟩ := X48.leave (v := some (.int (Int32.ofNat n))) (fun h => by rw [Bd.returns] at h; cases h)
  exact ⟨_, _, retI X48 hx Bd.returns (hb hby d17_4) hr, hrun, hended, _, _, rfl, ⟨rfl, N0, e48⟩, ⟨_, rfl⟩, hW, hsame.mono (by decide) (by decide)⟩
theorem d16_0 : decode jdk_67_method_93_code 0 = .ok (.aload_n 0, 1) := by decide +kernel
theorem d16_1 : decode jdk_67_method_93_code 1 = .ok (.invokespecial 343, 3) := by decide +kernel
theorem d16_4 : decode jdk_67_method_93_code 4 = .ok (.ireturn, 1) := by decide +kernel
def Q_sb_len (Z : State) (a1 : Addr) (n : Nat) (h0 : Heap) (n0 : Nat) (v : Option Value) (h : Heap) (L : List Loc) : Prop := v = some (.int (Int32.ofNat n)) ∧ Fr n0 L ∧ h = h0
set_option maxRecDepth 65536 in
set_option maxHeartbeats 40000000 in
theorem sb_len (l : Launch) (Z : State) (a0 : Array Value) (hw : ∀ d ∈ tables_1, d.before a0 Z = true) (ws : List Jvm.Cond) (a1 : Addr) (n : Nat) (h0 : Heap) (n0 : Nat) (Z0 : n0 ≤ h0.size) (F_n : Fld Z h0 a1 "java/lang/AbstractStringBuilder" "count" "I" (.int (Int32.ofNat n))) (E_a : Exa Z h0 a1 "java/lang/StringBuilder") :
    MetFree l (⟨"java/lang/StringBuilder", "length", "()I"⟩ : MethodName) (head1 (Jvm.Cond.code (⟨"java/lang/StringBuilder", "length", "()I"⟩ : MethodName) jdk_67_method_93_code 1 (some .int) :: ws) ({ frames := 1, cells := 0, slots := 0, locals := 12 } : Room)) (fun a U => a = #[(.ref a1)] ∧ Z.Warmed39 U.vm ∧ U.heap = h0) (fun _ _ _ _ _ => True) (fun _ U o U' => ∃ v L, o = .returned v ∧ Q_sb_len Z a1 n h0 n0 v U'.heap L ∧ FrameEnd U o U' L ({ frames := 1, cells := 0, slots := 0, locals := 12 } : Room).cells ({ frames := 1, cells := 0, slots := 0, locals := 12 } : Room).slots) := by
  refine MetFree.of_bodySF (plainFor_of_name pn_3) hisR ?_
  intro p e s m args below meth c s₁ Bd hml0 hP hK
  obtain ⟨rfl, hZ, hh⟩ := hP
  have hx := Bd.exec
  have hby := Bd.bytes
  have hml : c.maxLocals = 1 := hml0
  have hown : s.vm.findClass "java/lang/StringBuilder" = some m.cls := findClass_of_methodNamed Bd.named
  have hnm := (name_of_methodNamed Bd.named Bd.method).1
  have X0 : Stand p l e ({ frames := 1, cells := 0, slots := 0, locals := 12 } : Room) s m #[(.ref a1)] below meth c s₁ [] 0 0 := Stand.of_body Bd
  have e0 : s₁.heap = h0 := by rw [← hh, Bd.state]; rfl
  have N0 := Fr.nil n0
  have eF : entryFrame m #[(.ref a1)] 1 = mkF m 0 #[.val (.ref a1)] [] := by first | (simp [entryFrame, mkF, argsToLocals, Value.category]; done) | rfl
  show Ends p e below s ({ frames := 1, cells := 0, slots := 0, locals := 12 } : Room) (Q_sb_len Z a1 n h0 n0) (s₁.setTop (entryFrame m #[(.ref a1)] 1))
  rw [eF]
  refine Ends.of (F' := s₁.setTop (mkF m 1 #[.val (.ref a1)] [(.ref a1)])) (fun _ kt => ?_) ?_
  · show Steps p.tables e below (s₁.setTop (mkF m 0 #[.val (.ref a1)] [])) _
    refine XS.aloadN X0.here hx rfl (hb hby d16_0) rfl rfl ?_
    exact kt
  obtain ⟨_, _, ⟨T49, L49, k49, n49⟩, -, X49, ⟨Lc49, hQ49, l49, y49, z49⟩, st49⟩ := superBack X0 hx hZ (y := (⟨"java/lang/AbstractStringBuilder", "length", "()I"⟩ : MethodName)) hown (hw _ (List.mem_of_getElem? (i := 96) rfl)) (own_same (y := (⟨"java/lang/AbstractStringBuilder", "length", "()I"⟩ : MethodName)) (z := (⟨"java/lang/AbstractStringBuilder", "ensureCapacityInternal", "(I)V"⟩ : MethodName)) rfl (by decide) (hw _ (List.mem_of_getElem? (i := 92) rfl)) (hw _ (List.mem_of_getElem? (i := 52) rfl))) (hw _ (List.mem_of_getElem? (i := 92) rfl)) (hw _ (List.mem_of_getElem? (i := 44) rfl)) (by decide) (backOf (W := 0) (asb_len l Z a0 hw [] a1 n h0 n0 Z0 F_n) hZ (hw _ (List.mem_of_getElem? (i := 97) rfl)) (hw _ (List.mem_of_getElem? (i := 20) rfl)) (by decide) (by decide)) e0 (Ins.self E_a) (g := (mkF m 1 #[.val (.ref a1)] [(.ref a1)])) rfl (by rw [hml]; rfl) (hw _ (List.mem_of_getElem? (i := 97) rfl)) (argsL := []) (rest := []) (lenOf pd_11 rfl) rfl (by show 2 * 0 + _ ≤ _; exact Nat.le_of_eq rfl) (hb hby d16_1) (fun _ _ => ⟨rfl, e0, (by decide : 0 + 0 ≤ _), (by decide : 0 + 0 ≤ _)⟩)
  dsimp only [Pt.U, Pt.locs, Pt.cells, Pt.slots] at X49 l49 y49 z49 st49 hQ49
  subst l49 y49 z49
  obtain ⟨rfl, N49q, e49⟩ := hQ49
  have N49 := Fr.app N0 N49q
  refine Ends.st st49 ?_
  obtain ⟨fs, hr, hrun, hended, hW, hsame⟩ := X49.leave (v := some (.int (Int32.ofNat n))) (fun h => by rw [Bd.returns] at h; cases h)
  exact ⟨_, _, retI X49 hx Bd.returns (hb hby d16_4) hr, hrun, hended, _, _, rfl, ⟨rfl, N49, e49⟩, ⟨_, rfl⟩, hW, hsame.mono (by decide) (by decide)⟩
theorem d20_0 : decode jdk_65_method_131_code 0 = .ok (.iload_n 1, 1) := by decide +kernel
theorem d20_1 : decode jdk_65_method_131_code 1 = .ok (.iload_n 0, 1) := by decide +kernel
theorem d20_2 : decode jdk_65_method_131_code 2 = .ok (.if_icmp .ge 35, 3) := by decide +kernel
theorem d20_5 : decode jdk_65_method_131_code 5 = .ok (.new 43, 3) := by decide +kernel
theorem d20_8 : decode jdk_65_method_131_code 8 = .ok (.dup, 1) := by decide +kernel
theorem d20_9 : decode jdk_65_method_131_code 9 = .ok (.new 45, 3) := by decide +kernel
theorem d20_12 : decode jdk_65_method_131_code 12 = .ok (.dup, 1) := by decide +kernel
theorem d20_13 : decode jdk_65_method_131_code 13 = .ok (.invokespecial 47, 3) := by decide +kernel
theorem d20_16 : decode jdk_65_method_131_code 16 = .ok (.iload_n 0, 1) := by decide +kernel
theorem d20_17 : decode jdk_65_method_131_code 17 = .ok (.invokevirtual 54, 3) := by decide +kernel
theorem d20_20 : decode jdk_65_method_131_code 20 = .ok (.ldc_w 337, 3) := by decide +kernel
theorem d20_23 : decode jdk_65_method_131_code 23 = .ok (.invokevirtual 50, 3) := by decide +kernel
theorem d20_26 : decode jdk_65_method_131_code 26 = .ok (.iload_n 1, 1) := by decide +kernel
theorem d20_27 : decode jdk_65_method_131_code 27 = .ok (.invokevirtual 54, 3) := by decide +kernel
theorem d20_30 : decode jdk_65_method_131_code 30 = .ok (.invokevirtual 61, 3) := by decide +kernel
theorem d20_33 : decode jdk_65_method_131_code 33 = .ok (.invokespecial 65, 3) := by decide +kernel
theorem d20_36 : decode jdk_65_method_131_code 36 = .ok (.athrow, 1) := by decide +kernel
theorem d20_37 : decode jdk_65_method_131_code 37 = .ok (.return_, 1) := by decide +kernel
theorem pn_4 : plainName "java/util/Arrays" = true := by first | (simp [plainName, overriddenIn]; done) | decide +kernel
def Q_ar_chk (Z : State) (n : Nat) (h0 : Heap) (n0 : Nat) (v : Option Value) (h : Heap) (L : List Loc) : Prop := v = none ∧ Fr n0 L ∧ h = h0
set_option maxRecDepth 65536 in
set_option maxHeartbeats 40000000 in
theorem ar_chk (l : Launch) (Z : State) (a0 : Array Value) (hw : ∀ d ∈ tables_1, d.before a0 Z = true) (ws : List Jvm.Cond) (n : Nat) (h0 : Heap) (n0 : Nat) (Z0 : n0 ≤ h0.size) (hn : n ≤ 100000) :
    MetFree l (⟨"java/util/Arrays", "checkLength", "(II)V"⟩ : MethodName) (head1 (Jvm.Cond.code (⟨"java/util/Arrays", "checkLength", "(II)V"⟩ : MethodName) jdk_65_method_131_code 2 none :: ws) ({ frames := 0, cells := 0, slots := 0, locals := 0 } : Room)) (fun a U => a = #[(.int (0 : Int32)), (.int (Int32.ofNat n))] ∧ Z.Warmed39 U.vm ∧ U.heap = h0) (fun _ _ _ _ _ => True) (fun _ U o U' => ∃ v L, o = .returned v ∧ Q_ar_chk Z n h0 n0 v U'.heap L ∧ FrameEnd U o U' L ({ frames := 0, cells := 0, slots := 0, locals := 0 } : Room).cells ({ frames := 0, cells := 0, slots := 0, locals := 0 } : Room).slots) := by
  refine MetFree.of_bodySF (plainFor_of_name pn_4) hisR ?_
  intro p e s m args below meth c s₁ Bd hml0 hP hK
  obtain ⟨rfl, hZ, hh⟩ := hP
  have hx := Bd.exec
  have hby := Bd.bytes
  have hml : c.maxLocals = 2 := hml0
  have hown : s.vm.findClass "java/util/Arrays" = some m.cls := findClass_of_methodNamed Bd.named
  have hnm := (name_of_methodNamed Bd.named Bd.method).1
  have X0 : Stand p l e ({ frames := 0, cells := 0, slots := 0, locals := 0 } : Room) s m #[(.int (0 : Int32)), (.int (Int32.ofNat n))] below meth c s₁ [] 0 0 := Stand.of_body Bd
  have e0 : s₁.heap = h0 := by rw [← hh, Bd.state]; rfl
  have N0 := Fr.nil n0
  have eF : entryFrame m #[(.int (0 : Int32)), (.int (Int32.ofNat n))] 2 = mkF m 0 #[.val (.int (0 : Int32)), .val (.int (Int32.ofNat n))] [] := by first | (simp [entryFrame, mkF, argsToLocals, Value.category]; done) | rfl
  show Ends p e below s ({ frames := 0, cells := 0, slots := 0, locals := 0 } : Room) (Q_ar_chk Z n h0 n0) (s₁.setTop (entryFrame m #[(.int (0 : Int32)), (.int (Int32.ofNat n))] 2))
  rw [eF]
  refine Ends.of (F' := s₁.setTop (mkF m 37 #[.val (.int (0 : Int32)), .val (.int (Int32.ofNat n))] [])) (fun _ kt => ?_) ?_
  · show Steps p.tables e below (s₁.setTop (mkF m 0 #[.val (.int (0 : Int32)), .val (.int (Int32.ofNat n))] [])) _
    refine XS.iloadN X0.here hx rfl (hb hby d20_0) rfl ?_
    show Steps p.tables e below (s₁.setTop (mkF m 1 #[.val (.int (0 : Int32)), .val (.int (Int32.ofNat n))] [(.int (Int32.ofNat n))])) _
    refine XS.iloadN X0.here hx rfl (hb hby d20_1) rfl ?_
    show Steps p.tables e below (s₁.setTop (mkF m 2 #[.val (.int (0 : Int32)), .val (.int (Int32.ofNat n))] [(.int (0 : Int32)), (.int (Int32.ofNat n))])) _
    refine XS.icmpYes X0.here hx rfl (pc0 := 2) (pc' := 37) rfl (hb hby d20_2) rfl (flt (own_nn hn)).2.1 (by decide) (by decide) ?_
    exact kt
  obtain ⟨fs, hr, hrun, hended, hW, hsame⟩ := X0.leave (v := none) (fun _ => rfl)
  exact ⟨_, _, X0.returnOut hx Bd.returns (hb hby d20_37) hr, hrun, hended, _, _, rfl, ⟨rfl, N0, e0⟩, ⟨_, rfl⟩, hW, hsame.mono (by decide) (by decide)⟩
theorem d21_0 : decode jdk_29_method_69_code 0 = .ok (.iload_n 0, 1) := by decide +kernel
theorem d21_1 : decode jdk_29_method_69_code 1 = .ok (.iload_n 1, 1) := by decide +kernel
theorem d21_2 : decode jdk_29_method_69_code 2 = .ok (.if_icmp .gt 7, 3) := by decide +kernel
theorem d21_5 : decode jdk_29_method_69_code 5 = .ok (.iload_n 0, 1) := by decide +kernel
theorem d21_6 : decode jdk_29_method_69_code 6 = .ok (.goto 4, 3) := by decide +kernel
theorem d21_9 : decode jdk_29_method_69_code 9 = .ok (.iload_n 1, 1) := by decide +kernel
theorem d21_10 : decode jdk_29_method_69_code 10 = .ok (.ireturn, 1) := by decide +kernel
def Q_math_min (Z : State) (p1 : Int32) (p2 : Int32) (h0 : Heap) (n0 : Nat) (v : Option Value) (h : Heap) (L : List Loc) : Prop := v = some (.int (if p2 < p1 then p2 else p1)) ∧ Fr n0 L ∧ h = h0
set_option maxRecDepth 65536 in
set_option maxHeartbeats 40000000 in
theorem math_min (l : Launch) (Z : State) (a0 : Array Value) (hw : ∀ d ∈ tables_1, d.before a0 Z = true) (ws : List Jvm.Cond) (p1 : Int32) (p2 : Int32) (h0 : Heap) (n0 : Nat) (Z0 : n0 ≤ h0.size) :
    MetFree l (⟨"java/lang/Math", "min", "(II)I"⟩ : MethodName) (head1 (Jvm.Cond.code (⟨"java/lang/Math", "min", "(II)I"⟩ : MethodName) jdk_29_method_69_code 2 (some .int) :: ws) ({ frames := 0, cells := 0, slots := 0, locals := 0 } : Room)) (fun a U => a = #[(.int p1), (.int p2)] ∧ Z.Warmed39 U.vm ∧ U.heap = h0) (fun _ _ _ _ _ => True) (fun _ U o U' => ∃ v L, o = .returned v ∧ Q_math_min Z p1 p2 h0 n0 v U'.heap L ∧ FrameEnd U o U' L ({ frames := 0, cells := 0, slots := 0, locals := 0 } : Room).cells ({ frames := 0, cells := 0, slots := 0, locals := 0 } : Room).slots) := by
  refine MetFree.of_bodySF (Jvm.Free.JP.mathPlain rfl (by decide +kernel)) hisR ?_
  intro p e s m args below meth c s₁ Bd hml0 hP hK
  obtain ⟨rfl, hZ, hh⟩ := hP
  have hx := Bd.exec
  have hby := Bd.bytes
  have hml : c.maxLocals = 2 := hml0
  have hown : s.vm.findClass "java/lang/Math" = some m.cls := findClass_of_methodNamed Bd.named
  have hnm := (name_of_methodNamed Bd.named Bd.method).1
  have X0 : Stand p l e ({ frames := 0, cells := 0, slots := 0, locals := 0 } : Room) s m #[(.int p1), (.int p2)] below meth c s₁ [] 0 0 := Stand.of_body Bd
  have e0 : s₁.heap = h0 := by rw [← hh, Bd.state]; rfl
  have N0 := Fr.nil n0
  have eF : entryFrame m #[(.int p1), (.int p2)] 2 = mkF m 0 #[.val (.int p1), .val (.int p2)] [] := by first | (simp [entryFrame, mkF, argsToLocals, Value.category]; done) | rfl
  show Ends p e below s ({ frames := 0, cells := 0, slots := 0, locals := 0 } : Room) (Q_math_min Z p1 p2 h0 n0) (s₁.setTop (entryFrame m #[(.int p1), (.int p2)] 2))
  rw [eF]
  refine Ends.of (F' := s₁.setTop (mkF m 2 #[.val (.int p1), .val (.int p2)] [(.int p2), (.int p1)])) (fun _ kt => ?_) ?_
  · show Steps p.tables e below (s₁.setTop (mkF m 0 #[.val (.int p1), .val (.int p2)] [])) _
    refine XS.iloadN X0.here hx rfl (hb hby d21_0) rfl ?_
    show Steps p.tables e below (s₁.setTop (mkF m 1 #[.val (.int p1), .val (.int p2)] [(.int p1)])) _
    refine XS.iloadN X0.here hx rfl (hb hby d21_1) rfl ?_
    exact kt
  by_cases hc2 : p2 < p1
  · refine Ends.of (F' := s₁.setTop (mkF m 10 #[.val (.int p1), .val (.int p2)] [(.int p2)])) (fun _ kt => ?_) ?_
    · show Steps p.tables e below (s₁.setTop (mkF m 2 #[.val (.int p1), .val (.int p2)] [(.int p2), (.int p1)])) _
      refine XS.icmpYes X0.here hx rfl (pc0 := 2) (pc' := 9) rfl (hb hby d21_2) rfl (tlt hc2).2.2.1 (by decide) (by decide) ?_
      show Steps p.tables e below (s₁.setTop (mkF m 9 #[.val (.int p1), .val (.int p2)] [])) _
      refine XS.iloadN X0.here hx rfl (hb hby d21_9) rfl ?_
      exact kt
    obtain ⟨fs, hr, hrun, hended, hW, hsame⟩ := X0.leave (v := some (.int p2)) (fun h => by rw [Bd.returns] at h; cases h)
    exact ⟨_, _, retI X0 hx Bd.returns (hb hby d21_10) hr, hrun, hended, _, _, rfl, ⟨by rw [if_pos hc2], N0, e0⟩, ⟨_, rfl⟩, hW, hsame.mono (by decide) (by decide)⟩
  · refine Ends.of (F' := s₁.setTop (mkF m 10 #[.val (.int p1), .val (.int p2)] [(.int p1)])) (fun _ kt => ?_) ?_
    · show Steps p.tables e below (s₁.setTop (mkF m 2 #[.val (.int p1), .val (.int p2)] [(.int p2), (.int p1)])) _
      refine XS.icmpNo X0.here hx rfl (hb hby d21_2) rfl (flt hc2).2.2.1 ?_
      show Steps p.tables e below (s₁.setTop (mkF m 5 #[.val (.int p1), .val (.int p2)] [])) _
      refine XS.iloadN X0.here hx rfl (hb hby d21_5) rfl ?_
      show Steps p.tables e below (s₁.setTop (mkF m 6 #[.val (.int p1), .val (.int p2)] [(.int p1)])) _
      refine XS.goto X0.here hx rfl (pc0 := 6) (pc' := 10) rfl (hb hby d21_6) (by decide) (by decide) ?_
      exact kt
    obtain ⟨fs, hr, hrun, hended, hW, hsame⟩ := X0.leave (v := some (.int p1)) (fun h => by rw [Bd.returns] at h; cases h)
    exact ⟨_, _, retI X0 hx Bd.returns (hb hby d21_10) hr, hrun, hended, _, _, rfl, ⟨by rw [if_neg hc2], N0, e0⟩, ⟨_, rfl⟩, hW, hsame.mono (by decide) (by decide)⟩
theorem d19_0 : decode jdk_65_method_133_code 0 = .ok (.iload_n 1, 1) := by decide +kernel
theorem d19_1 : decode jdk_65_method_133_code 1 = .ok (.iload_n 2, 1) := by decide +kernel
theorem d19_2 : decode jdk_65_method_133_code 2 = .ok (.invokestatic 343, 3) := by decide +kernel
theorem d19_5 : decode jdk_65_method_133_code 5 = .ok (.iload_n 2, 1) := by decide +kernel
theorem d19_6 : decode jdk_65_method_133_code 6 = .ok (.iload_n 1, 1) := by decide +kernel
theorem d19_7 : decode jdk_65_method_133_code 7 = .ok (.isub, 1) := by decide +kernel
theorem d19_8 : decode jdk_65_method_133_code 8 = .ok (.istore_n 3, 1) := by decide +kernel
theorem d19_9 : decode jdk_65_method_133_code 9 = .ok (.iload_n 3, 1) := by decide +kernel
theorem d19_10 : decode jdk_65_method_133_code 10 = .ok (.newarray .byte, 2) := by decide +kernel
theorem d19_12 : decode jdk_65_method_133_code 12 = .ok (.astore 4, 2) := by decide +kernel
theorem d19_14 : decode jdk_65_method_133_code 14 = .ok (.aload_n 0, 1) := by decide +kernel
theorem d19_15 : decode jdk_65_method_133_code 15 = .ok (.iload_n 1, 1) := by decide +kernel
theorem d19_16 : decode jdk_65_method_133_code 16 = .ok (.aload 4, 2) := by decide +kernel
theorem d19_18 : decode jdk_65_method_133_code 18 = .ok (.iconst 0, 1) := by decide +kernel
theorem d19_19 : decode jdk_65_method_133_code 19 = .ok (.aload_n 0, 1) := by decide +kernel
theorem d19_20 : decode jdk_65_method_133_code 20 = .ok (.arraylength, 1) := by decide +kernel
theorem d19_21 : decode jdk_65_method_133_code 21 = .ok (.iload_n 1, 1) := by decide +kernel
theorem d19_22 : decode jdk_65_method_133_code 22 = .ok (.isub, 1) := by decide +kernel
theorem d19_23 : decode jdk_65_method_133_code 23 = .ok (.iload_n 3, 1) := by decide +kernel
theorem d19_24 : decode jdk_65_method_133_code 24 = .ok (.invokestatic 304, 3) := by decide +kernel
theorem d19_27 : decode jdk_65_method_133_code 27 = .ok (.invokestatic 150, 3) := by decide +kernel
theorem d19_30 : decode jdk_65_method_133_code 30 = .ok (.aload 4, 2) := by decide +kernel
theorem d19_32 : decode jdk_65_method_133_code 32 = .ok (.areturn, 1) := by decide +kernel
def Q_ar_cpb (Z : State) (a1 : Addr) (cap : Nat) (n : Nat) (f : Nat → Int32) (h0 : Heap) (n0 : Nat) (v : Option Value) (h : Heap) (L : List Loc) : Prop := v = some (.ref h0.size) ∧ Fr n0 L ∧ Keep h0 h [] ∧ Ary .byte Z h h0.size n f
set_option maxRecDepth 65536 in
set_option maxHeartbeats 40000000 in
theorem ar_cpb (l : Launch) (Z : State) (a0 : Array Value) (hw : ∀ d ∈ tables_1, d.before a0 Z = true) (ws : List Jvm.Cond) (a1 : Addr) (cap : Nat) (n : Nat) (f : Nat → Int32) (h0 : Heap) (n0 : Nat) (Z0 : n0 ≤ h0.size) (D : Ary .byte Z h0 a1 cap f) (hn : n < cap) (ht : n ≤ 16) :
    MetFree l (⟨"java/util/Arrays", "copyOfRangeByte", "([BII)[B"⟩ : MethodName) (head1 (Jvm.Cond.code (⟨"java/util/Arrays", "copyOfRangeByte", "([BII)[B"⟩ : MethodName) jdk_65_method_133_code 5 (some (.array .byte)) :: ws) ({ frames := 1, cells := 1, slots := 16, locals := 64 } : Room)) (fun a U => a = #[(.ref a1), (.int (0 : Int32)), (.int (Int32.ofNat n))] ∧ Z.Warmed39 U.vm ∧ U.heap = h0) (fun _ _ _ _ _ => True) (fun _ U o U' => ∃ v L, o = .returned v ∧ Q_ar_cpb Z a1 cap n f h0 n0 v U'.heap L ∧ FrameEnd U o U' L ({ frames := 1, cells := 1, slots := 16, locals := 64 } : Room).cells ({ frames := 1, cells := 1, slots := 16, locals := 64 } : Room).slots) := by
  refine MetFree.of_bodySF (plainFor_of_name pn_4) hisR ?_
  intro p e s m args below meth c s₁ Bd hml0 hP hK
  obtain ⟨rfl, hZ, hh⟩ := hP
  have hx := Bd.exec
  have hby := Bd.bytes
  have hml : c.maxLocals = 5 := hml0
  have hown : s.vm.findClass "java/util/Arrays" = some m.cls := findClass_of_methodNamed Bd.named
  have hnm := (name_of_methodNamed Bd.named Bd.method).1
  have X0 : Stand p l e ({ frames := 1, cells := 1, slots := 16, locals := 64 } : Room) s m #[(.ref a1), (.int (0 : Int32)), (.int (Int32.ofNat n))] below meth c s₁ [] 0 0 := Stand.of_body Bd
  have e0 : s₁.heap = h0 := by rw [← hh, Bd.state]; rfl
  have N0 := Fr.nil n0
  have eF : entryFrame m #[(.ref a1), (.int (0 : Int32)), (.int (Int32.ofNat n))] 5 = mkF m 0 #[.val (.ref a1), .val (.int (0 : Int32)), .val (.int (Int32.ofNat n)), .unset, .unset] [] := by first | (simp [entryFrame, mkF, argsToLocals, Value.category]; done) | rfl
  show Ends p e below s ({ frames := 1, cells := 1, slots := 16, locals := 64 } : Room) (Q_ar_cpb Z a1 cap n f h0 n0) (s₁.setTop (entryFrame m #[(.ref a1), (.int (0 : Int32)), (.int (Int32.ofNat n))] 5))
  rw [eF]
  have hc1 := D.1
  refine Ends.of (F' := s₁.setTop (mkF m 2 #[.val (.ref a1), .val (.int (0 : Int32)), .val (.int (Int32.ofNat n)), .unset, .unset] [(.int (Int32.ofNat n)), (.int (0 : Int32))])) (fun _ kt => ?_) ?_
  · show Steps p.tables e below (s₁.setTop (mkF m 0 #[.val (.ref a1), .val (.int (0 : Int32)), .val (.int (Int32.ofNat n)), .unset, .unset] [])) _
    refine XS.iloadN X0.here hx rfl (hb hby d19_0) rfl ?_
    show Steps p.tables e below (s₁.setTop (mkF m 1 #[.val (.ref a1), .val (.int (0 : Int32)), .val (.int (Int32.ofNat n)), .unset, .unset] [(.int (0 : Int32))])) _
    refine XS.iloadN X0.here hx rfl (hb hby d19_1) rfl ?_
    exact kt
  obtain ⟨_, _, ⟨T50, L50, k50, n50⟩, -, X50, ⟨Lc50, hQ50, l50, y50, z50⟩, st50⟩ := Jvm.LawKit.callS X0 hx (y := (⟨"java/util/Arrays", "checkLength", "(II)V"⟩ : MethodName)) hown (mvT hZ (hw _ (List.mem_of_getElem? (i := 108) rfl))) (mvT hZ (hw _ (List.mem_of_getElem? (i := 109) rfl))) (mvT hZ (hw _ (List.mem_of_getElem? (i := 103) rfl))) (mvT hZ (hw _ (List.mem_of_getElem? (i := 110) rfl))) (by decide) (backOf (W := 0) (ar_chk l Z a0 hw [] n h0 n0 Z0 (by omega)) hZ (hw _ (List.mem_of_getElem? (i := 110) rfl)) (hw _ (List.mem_of_getElem? (i := 103) rfl)) (by decide) (by decide)) (g := (mkF m 2 #[.val (.ref a1), .val (.int (0 : Int32)), .val (.int (Int32.ofNat n)), .unset, .unset] [(.int (Int32.ofNat n)), (.int (0 : Int32))])) rfl (by rw [hml]; rfl) (argsL := [(.int (0 : Int32)), (.int (Int32.ofNat n))]) (rest := []) (lenOf pd_13 rfl) rfl (by show 2 * 0 + _ ≤ _; exact Nat.le_of_eq rfl) (hb hby d19_2) (fun _ _ => ⟨rfl, e0, (by decide : 0 + 0 ≤ _), (by decide : 0 + 0 ≤ _)⟩)
  dsimp only [Pt.U, Pt.locs, Pt.cells, Pt.slots] at X50 l50 y50 z50 st50 hQ50
  subst l50 y50 z50
  obtain ⟨rfl, N50q, e50⟩ := hQ50
  have N50 := Fr.app N0 N50q
  refine Ends.of st50 ?_
  refine Ends.of (F' := T50.setTop (mkF m 8 #[.val (.ref a1), .val (.int (0 : Int32)), .val (.int (Int32.ofNat n)), .unset, .unset] [(.int ((Int32.ofNat n) - (0 : Int32)))])) (fun _ kt => ?_) ?_
  · show Steps p.tables e below (T50.setTop (mkF m 5 #[.val (.ref a1), .val (.int (0 : Int32)), .val (.int (Int32.ofNat n)), .unset, .unset] [])) _
    refine XS.iloadN X50.here hx rfl (hb hby d19_5) rfl ?_
    show Steps p.tables e below (T50.setTop (mkF m 6 #[.val (.ref a1), .val (.int (0 : Int32)), .val (.int (Int32.ofNat n)), .unset, .unset] [(.int (Int32.ofNat n))])) _
    refine XS.iloadN X50.here hx rfl (hb hby d19_6) rfl ?_
    show Steps p.tables e below (T50.setTop (mkF m 7 #[.val (.ref a1), .val (.int (0 : Int32)), .val (.int (Int32.ofNat n)), .unset, .unset] [(.int (0 : Int32)), (.int (Int32.ofNat n))])) _
    refine XS.isub X50.here hx rfl (hb hby d19_7) rfl ?_
    exact kt
  rw [Int32.sub_zero]
  refine Ends.of (F' := T50.setTop (mkF m 10 #[.val (.ref a1), .val (.int (0 : Int32)), .val (.int (Int32.ofNat n)), .val (.int (Int32.ofNat n)), .unset] [(.int (Int32.ofNat n))])) (fun _ kt => ?_) ?_
  · show Steps p.tables e below (T50.setTop (mkF m 8 #[.val (.ref a1), .val (.int (0 : Int32)), .val (.int (Int32.ofNat n)), .unset, .unset] [(.int (Int32.ofNat n))])) _
    refine XS.istoreN X50.here hx rfl (hb hby d19_8) rfl (l' := #[.val (.ref a1), .val (.int (0 : Int32)), .val (.int (Int32.ofNat n)), .val (.int (Int32.ofNat n)), .unset]) rfl ?_
    show Steps p.tables e below (T50.setTop (mkF m 9 #[.val (.ref a1), .val (.int (0 : Int32)), .val (.int (Int32.ofNat n)), .val (.int (Int32.ofNat n)), .unset] [])) _
    refine XS.iloadN X50.here hx rfl (hb hby d19_9) rfl ?_
    exact kt
  obtain ⟨T51, h51, k51, X51, e51, E51, A51, st51⟩ := newP X50 hx hZ (hw _ (List.mem_of_getElem? (i := 25) rfl)) e50 (g := (mkF m 10 #[.val (.ref a1), .val (.int (0 : Int32)), .val (.int (Int32.ofNat n)), .val (.int (Int32.ofNat n)), .unset] [(.int (Int32.ofNat n))])) rfl (hb hby d19_10) rfl (own_nn (by omega)) (cap := 16) (by rw [own_clamp (by omega)]; omega) (by decide) (by decide) (by decide)
  obtain ⟨b51, g51⟩ : ∃ z, z = h0.size := ⟨_, rfl⟩
  rw [← g51] at A51 st51
  refine Ends.of st51 ?_
  have V0 : Ary .byte Z h51 b51 n (fun _ => 0) := Ary.new A51 (by omega) rfl
  have gb : n0 ≤ b51 := Nat.le_trans Z0 (Nat.le_of_eq g51.symm)
  have Z1 : n0 ≤ h51.size := Nat.le_trans Z0 E51.1
  have D1 := D.ext E51
  obtain ⟨cd, Ad, Sd, -, -⟩ := D1.op
  refine Ends.of (F' := T51.setTop (mkF m 24 #[.val (.ref a1), .val (.int (0 : Int32)), .val (.int (Int32.ofNat n)), .val (.int (Int32.ofNat n)), .val (.ref b51)] [(.int (Int32.ofNat n)), (.int ((Int32.ofNat cap) - (0 : Int32))), (.int (0 : Int32)), (.ref b51), (.int (0 : Int32)), (.ref a1)])) (fun _ kt => ?_) ?_
  · show Steps p.tables e below (T51.setTop (mkF m 12 #[.val (.ref a1), .val (.int (0 : Int32)), .val (.int (Int32.ofNat n)), .val (.int (Int32.ofNat n)), .unset] [(.ref b51)])) _
    refine XS.astore X51.here hx rfl (hb hby d19_12) rfl rfl (l' := #[.val (.ref a1), .val (.int (0 : Int32)), .val (.int (Int32.ofNat n)), .val (.int (Int32.ofNat n)), .val (.ref b51)]) rfl ?_
    show Steps p.tables e below (T51.setTop (mkF m 14 #[.val (.ref a1), .val (.int (0 : Int32)), .val (.int (Int32.ofNat n)), .val (.int (Int32.ofNat n)), .val (.ref b51)] [])) _
    refine XS.aloadN X51.here hx rfl (hb hby d19_14) rfl rfl ?_
    show Steps p.tables e below (T51.setTop (mkF m 15 #[.val (.ref a1), .val (.int (0 : Int32)), .val (.int (Int32.ofNat n)), .val (.int (Int32.ofNat n)), .val (.ref b51)] [(.ref a1)])) _
    refine XS.iloadN X51.here hx rfl (hb hby d19_15) rfl ?_
    show Steps p.tables e below (T51.setTop (mkF m 16 #[.val (.ref a1), .val (.int (0 : Int32)), .val (.int (Int32.ofNat n)), .val (.int (Int32.ofNat n)), .val (.ref b51)] [(.int (0 : Int32)), (.ref a1)])) _
    refine XS.aload X51.here hx rfl (hb hby d19_16) rfl rfl ?_
    show Steps p.tables e below (T51.setTop (mkF m 18 #[.val (.ref a1), .val (.int (0 : Int32)), .val (.int (Int32.ofNat n)), .val (.int (Int32.ofNat n)), .val (.ref b51)] [(.ref b51), (.int (0 : Int32)), (.ref a1)])) _
    refine XS.iconst X51.here hx rfl (hb hby d19_18) ?_
    show Steps p.tables e below (T51.setTop (mkF m 19 #[.val (.ref a1), .val (.int (0 : Int32)), .val (.int (Int32.ofNat n)), .val (.int (Int32.ofNat n)), .val (.ref b51)] [(.int (0 : Int32)), (.ref b51), (.int (0 : Int32)), (.ref a1)])) _
    refine XS.aloadN X51.here hx rfl (hb hby d19_19) rfl rfl ?_
    show Steps p.tables e below (T51.setTop (mkF m 20 #[.val (.ref a1), .val (.int (0 : Int32)), .val (.int (Int32.ofNat n)), .val (.int (Int32.ofNat n)), .val (.ref b51)] [(.ref a1), (.int (0 : Int32)), (.ref b51), (.int (0 : Int32)), (.ref a1)])) _
    refine X51.arraylength hx (by rw [e51]; exact Ad.1) (State.isArrayOf_alike hZ.alike Ad.2.1) (g := (mkF m 20 #[.val (.ref a1), .val (.int (0 : Int32)), .val (.int (Int32.ofNat n)), .val (.int (Int32.ofNat n)), .val (.ref b51)] [(.ref a1), (.int (0 : Int32)), (.ref b51), (.int (0 : Int32)), (.ref a1)])) rfl rfl (hb hby d19_20) _ ?_
    rw [Sd]
    show Steps p.tables e below (T51.setTop (mkF m 21 #[.val (.ref a1), .val (.int (0 : Int32)), .val (.int (Int32.ofNat n)), .val (.int (Int32.ofNat n)), .val (.ref b51)] [(.int (Int32.ofNat cap)), (.int (0 : Int32)), (.ref b51), (.int (0 : Int32)), (.ref a1)])) _
    refine XS.iloadN X51.here hx rfl (hb hby d19_21) rfl ?_
    show Steps p.tables e below (T51.setTop (mkF m 22 #[.val (.ref a1), .val (.int (0 : Int32)), .val (.int (Int32.ofNat n)), .val (.int (Int32.ofNat n)), .val (.ref b51)] [(.int (0 : Int32)), (.int (Int32.ofNat cap)), (.int (0 : Int32)), (.ref b51), (.int (0 : Int32)), (.ref a1)])) _
    refine XS.isub X51.here hx rfl (hb hby d19_22) rfl ?_
    show Steps p.tables e below (T51.setTop (mkF m 23 #[.val (.ref a1), .val (.int (0 : Int32)), .val (.int (Int32.ofNat n)), .val (.int (Int32.ofNat n)), .val (.ref b51)] [(.int ((Int32.ofNat cap) - (0 : Int32))), (.int (0 : Int32)), (.ref b51), (.int (0 : Int32)), (.ref a1)])) _
    refine XS.iloadN X51.here hx rfl (hb hby d19_23) rfl ?_
    exact kt
  rw [Int32.sub_zero]
  obtain ⟨_, _, ⟨T52, L52, k52, n52⟩, -, X52, ⟨Lc52, hQ52, l52, y52, z52⟩, st52⟩ := Jvm.LawKit.callS X51 hx (y := (⟨"java/lang/Math", "min", "(II)I"⟩ : MethodName)) hown (mvT hZ (hw _ (List.mem_of_getElem? (i := 111) rfl))) (mvT hZ (hw _ (List.mem_of_getElem? (i := 112) rfl))) (mvT hZ (hw _ (List.mem_of_getElem? (i := 113) rfl))) (mvT hZ (hw _ (List.mem_of_getElem? (i := 114) rfl))) (by decide) (backOf (W := 4) (math_min l Z a0 hw [] (Int32.ofNat cap) (Int32.ofNat n) h51 n0 Z1) hZ (hw _ (List.mem_of_getElem? (i := 114) rfl)) (hw _ (List.mem_of_getElem? (i := 113) rfl)) (by decide) (by decide)) (g := (mkF m 24 #[.val (.ref a1), .val (.int (0 : Int32)), .val (.int (Int32.ofNat n)), .val (.int (Int32.ofNat n)), .val (.ref b51)] [(.int (Int32.ofNat n)), (.int (Int32.ofNat cap)), (.int (0 : Int32)), (.ref b51), (.int (0 : Int32)), (.ref a1)])) rfl (by rw [hml]; rfl) (argsL := [(.int (Int32.ofNat cap)), (.int (Int32.ofNat n))]) (rest := [(.int (0 : Int32)), (.ref b51), (.int (0 : Int32)), (.ref a1)]) (lenOf pd_14 rfl) rfl (by show 2 * 0 + _ ≤ _; exact Nat.le_of_eq rfl) (hb hby d19_24) (fun _ _ => ⟨rfl, e51, (by decide : 1 + 0 ≤ _), (by decide : 16 + 0 ≤ _)⟩)
  dsimp only [Pt.U, Pt.locs, Pt.cells, Pt.slots] at X52 l52 y52 z52 st52 hQ52
  subst l52 y52 z52
  obtain ⟨rfl, N52q, e52⟩ := hQ52
  have N52 := Fr.app N50 N52q
  refine Ends.of st52 ?_
  rw [if_pos ((own_ltN n cap (by omega) (by omega)).mpr hn)]
  obtain ⟨hA53, kA53, VA53⟩ := id D1
  obtain ⟨hB53, kB53, VB53⟩ := id V0
  obtain ⟨T53, h53, L53, X53, e53, N53, K53, V53, st53⟩ := cpA X52 hx hZ hown (hw _ (List.mem_of_getElem? (i := 115) rfl)) (hw _ (List.mem_of_getElem? (i := 118) rfl)) (hw _ (List.mem_of_getElem? (i := 116) rfl)) (hw _ (List.mem_of_getElem? (i := 117) rfl)) e52 (sp := Int32.ofNat 0) (dp := Int32.ofNat 0) (nn := Int32.ofNat n) VA53 VB53 (Or.inl ⟨rfl, rfl⟩) (own_nn (by omega)) (own_nn (by omega)) (own_nn (by omega)) (by have q1 := own_clamp (by omega : 0 ≤ 100000); have q2 := own_clamp (by omega : n ≤ 100000); have q3 := own_clamp (by omega : cap ≤ 100000); omega) (by have q1 := own_clamp (by omega : 0 ≤ 100000); have q2 := own_clamp (by omega : n ≤ 100000); have q3 := own_clamp (by omega : n ≤ 100000); omega) rfl (by rw [own_clamp (by omega : 0 ≤ 100000), own_clamp (by omega : n ≤ 100000)]; simp <;> omega) N52 gb (g := (mkF m 27 #[.val (.ref a1), .val (.int (0 : Int32)), .val (.int (Int32.ofNat n)), .val (.int (Int32.ofNat n)), .val (.ref b51)] [(.int (Int32.ofNat n)), (.int (0 : Int32)), (.ref b51), (.int (0 : Int32)), (.ref a1)])) rfl (by rw [hml]; rfl) rfl (hb hby d19_27) (by decide) (W := 0) (by show 2 * 0 + _ ≤ _; exact Nat.le_of_eq rfl) (by decide)
  have F53 := Ary.cpd V53 (by omega) (by omega : 0 + n ≤ cap) (by omega) (by omega)
  refine Ends.of st53 ?_
  have V1 := F53.congr (g := f) (fun i hi => by rw [if_pos (by omega)]; congr 1; omega)
  have K1 : Keep h0 h53 [] := ((Keep.refl h0 []).ext E51).trans K53 (allS (Or.inr (Nat.le_of_eq g51.symm)) all0)
  refine Ends.of (F' := T53.setTop (mkF m 32 #[.val (.ref a1), .val (.int (0 : Int32)), .val (.int (Int32.ofNat n)), .val (.int (Int32.ofNat n)), .val (.ref b51)] [(.ref b51)])) (fun _ kt => ?_) ?_
  · show Steps p.tables e below (T53.setTop (mkF m 30 #[.val (.ref a1), .val (.int (0 : Int32)), .val (.int (Int32.ofNat n)), .val (.int (Int32.ofNat n)), .val (.ref b51)] [])) _
    refine XS.aload X53.here hx rfl (hb hby d19_30) rfl rfl ?_
    exact kt
  rw [← e53] at V1 K1
  subst g51
  obtain ⟨fs, hr, hrun, hended, hW, hsame⟩ := X53.leave (v := some (.ref h0.size)) (fun h => by rw [Bd.returns] at h; cases h)
  refine ⟨_, _, ?_, hrun, hended, _, _, rfl, ⟨rfl, N53, K1, V1⟩, ⟨_, rfl⟩, hW, hsame.mono (by decide) (by decide)⟩
  show Steps p.tables e below (T53.setTop (mkF m 32 #[.val (.ref a1), .val (.int (0 : Int32)), .val (.int (Int32.ofNat n)), .val (.int (Int32.ofNat n)), .val (.ref h0.size)] [(.ref h0.size)])) _
  jvm_step X53.here [X53.here.top, hx, (hb hby d19_32), X53.method', Bd.returns, Value.isRef, FieldType.isReference]
  first | (intro acts; rw [hr _ acts rfl rfl rfl]) | rw [hr _ _ rfl rfl rfl]
  exact Steps.refl _
theorem d18_0 : decode jdk_65_method_132_code 0 = .ok (.iload_n 1, 1) := by decide +kernel
theorem d18_1 : decode jdk_65_method_132_code 1 = .ok (.ifCond .ne 9, 3) := by decide +kernel
theorem d18_4 : decode jdk_65_method_132_code 4 = .ok (.iload_n 2, 1) := by decide +kernel
theorem d18_5 : decode jdk_65_method_132_code 5 = .ok (.aload_n 0, 1) := by decide +kernel
theorem d18_6 : decode jdk_65_method_132_code 6 = .ok (.arraylength, 1) := by decide +kernel
theorem d18_7 : decode jdk_65_method_132_code 7 = .ok (.if_icmp .eq 10, 3) := by decide +kernel
theorem d18_10 : decode jdk_65_method_132_code 10 = .ok (.aload_n 0, 1) := by decide +kernel
theorem d18_11 : decode jdk_65_method_132_code 11 = .ok (.iload_n 1, 1) := by decide +kernel
theorem d18_12 : decode jdk_65_method_132_code 12 = .ok (.iload_n 2, 1) := by decide +kernel
theorem d18_13 : decode jdk_65_method_132_code 13 = .ok (.invokestatic 339, 3) := by decide +kernel
theorem d18_16 : decode jdk_65_method_132_code 16 = .ok (.areturn, 1) := by decide +kernel
theorem d18_17 : decode jdk_65_method_132_code 17 = .ok (.aload_n 0, 1) := by decide +kernel
theorem d18_18 : decode jdk_65_method_132_code 18 = .ok (.invokevirtual 310, 3) := by decide +kernel
theorem d18_21 : decode jdk_65_method_132_code 21 = .ok (.checkcast 311, 3) := by decide +kernel
theorem d18_24 : decode jdk_65_method_132_code 24 = .ok (.areturn, 1) := by decide +kernel
def Q_ar_cpr (Z : State) (a1 : Addr) (cap : Nat) (n : Nat) (f : Nat → Int32) (h0 : Heap) (n0 : Nat) (v : Option Value) (h : Heap) (L : List Loc) : Prop := v = some (.ref h0.size) ∧ Fr n0 L ∧ Keep h0 h [] ∧ Ary .byte Z h h0.size n f
set_option maxRecDepth 65536 in
set_option maxHeartbeats 40000000 in
theorem ar_cpr (l : Launch) (Z : State) (a0 : Array Value) (hw : ∀ d ∈ tables_1, d.before a0 Z = true) (ws : List Jvm.Cond) (a1 : Addr) (cap : Nat) (n : Nat) (f : Nat → Int32) (h0 : Heap) (n0 : Nat) (Z0 : n0 ≤ h0.size) (D : Ary .byte Z h0 a1 cap f) (hn : n < cap) (ht : n ≤ 16) :
    MetFree l (⟨"java/util/Arrays", "copyOfRange", "([BII)[B"⟩ : MethodName) (head1 (Jvm.Cond.code (⟨"java/util/Arrays", "copyOfRange", "([BII)[B"⟩ : MethodName) jdk_65_method_132_code 3 (some (.array .byte)) :: ws) ({ frames := 2, cells := 1, slots := 16, locals := 80 } : Room)) (fun a U => a = #[(.ref a1), (.int (0 : Int32)), (.int (Int32.ofNat n))] ∧ Z.Warmed39 U.vm ∧ U.heap = h0) (fun _ _ _ _ _ => True) (fun _ U o U' => ∃ v L, o = .returned v ∧ Q_ar_cpr Z a1 cap n f h0 n0 v U'.heap L ∧ FrameEnd U o U' L ({ frames := 2, cells := 1, slots := 16, locals := 80 } : Room).cells ({ frames := 2, cells := 1, slots := 16, locals := 80 } : Room).slots) := by
  refine MetFree.of_bodySF (plainFor_of_name pn_4) hisR ?_
  intro p e s m args below meth c s₁ Bd hml0 hP hK
  obtain ⟨rfl, hZ, hh⟩ := hP
  have hx := Bd.exec
  have hby := Bd.bytes
  have hml : c.maxLocals = 3 := hml0
  have hown : s.vm.findClass "java/util/Arrays" = some m.cls := findClass_of_methodNamed Bd.named
  have hnm := (name_of_methodNamed Bd.named Bd.method).1
  have X0 : Stand p l e ({ frames := 2, cells := 1, slots := 16, locals := 80 } : Room) s m #[(.ref a1), (.int (0 : Int32)), (.int (Int32.ofNat n))] below meth c s₁ [] 0 0 := Stand.of_body Bd
  have e0 : s₁.heap = h0 := by rw [← hh, Bd.state]; rfl
  have N0 := Fr.nil n0
  have eF : entryFrame m #[(.ref a1), (.int (0 : Int32)), (.int (Int32.ofNat n))] 3 = mkF m 0 #[.val (.ref a1), .val (.int (0 : Int32)), .val (.int (Int32.ofNat n))] [] := by first | (simp [entryFrame, mkF, argsToLocals, Value.category]; done) | rfl
  show Ends p e below s ({ frames := 2, cells := 1, slots := 16, locals := 80 } : Room) (Q_ar_cpr Z a1 cap n f h0 n0) (s₁.setTop (entryFrame m #[(.ref a1), (.int (0 : Int32)), (.int (Int32.ofNat n))] 3))
  rw [eF]
  have hc1 := D.1
  obtain ⟨cd, Ad, Sd, -, -⟩ := D.op
  refine Ends.of (F' := s₁.setTop (mkF m 13 #[.val (.ref a1), .val (.int (0 : Int32)), .val (.int (Int32.ofNat n))] [(.int (Int32.ofNat n)), (.int (0 : Int32)), (.ref a1)])) (fun _ kt => ?_) ?_
  · show Steps p.tables e below (s₁.setTop (mkF m 0 #[.val (.ref a1), .val (.int (0 : Int32)), .val (.int (Int32.ofNat n))] [])) _
    refine XS.iloadN X0.here hx rfl (hb hby d18_0) rfl ?_
    show Steps p.tables e below (s₁.setTop (mkF m 1 #[.val (.ref a1), .val (.int (0 : Int32)), .val (.int (Int32.ofNat n))] [(.int (0 : Int32))])) _
    refine XS.ifNo X0.here hx rfl (hb hby d18_1) rfl ((if0 _ _).trans (teq rfl).2) ?_
    show Steps p.tables e below (s₁.setTop (mkF m 4 #[.val (.ref a1), .val (.int (0 : Int32)), .val (.int (Int32.ofNat n))] [])) _
    refine XS.iloadN X0.here hx rfl (hb hby d18_4) rfl ?_
    show Steps p.tables e below (s₁.setTop (mkF m 5 #[.val (.ref a1), .val (.int (0 : Int32)), .val (.int (Int32.ofNat n))] [(.int (Int32.ofNat n))])) _
    refine XS.aloadN X0.here hx rfl (hb hby d18_5) rfl rfl ?_
    show Steps p.tables e below (s₁.setTop (mkF m 6 #[.val (.ref a1), .val (.int (0 : Int32)), .val (.int (Int32.ofNat n))] [(.ref a1), (.int (Int32.ofNat n))])) _
    refine X0.arraylength hx (by rw [e0]; exact Ad.1) (State.isArrayOf_alike hZ.alike Ad.2.1) (g := (mkF m 6 #[.val (.ref a1), .val (.int (0 : Int32)), .val (.int (Int32.ofNat n))] [(.ref a1), (.int (Int32.ofNat n))])) rfl rfl (hb hby d18_6) _ ?_
    rw [Sd]
    show Steps p.tables e below (s₁.setTop (mkF m 7 #[.val (.ref a1), .val (.int (0 : Int32)), .val (.int (Int32.ofNat n))] [(.int (Int32.ofNat cap)), (.int (Int32.ofNat n))])) _
    refine XS.icmpNo X0.here hx rfl (hb hby d18_7) rfl (feq (fun q => by have := (own_eqN n cap (by omega) (by omega)).mp q; omega)).1 ?_
    show Steps p.tables e below (s₁.setTop (mkF m 10 #[.val (.ref a1), .val (.int (0 : Int32)), .val (.int (Int32.ofNat n))] [])) _
    refine XS.aloadN X0.here hx rfl (hb hby d18_10) rfl rfl ?_
    show Steps p.tables e below (s₁.setTop (mkF m 11 #[.val (.ref a1), .val (.int (0 : Int32)), .val (.int (Int32.ofNat n))] [(.ref a1)])) _
    refine XS.iloadN X0.here hx rfl (hb hby d18_11) rfl ?_
    show Steps p.tables e below (s₁.setTop (mkF m 12 #[.val (.ref a1), .val (.int (0 : Int32)), .val (.int (Int32.ofNat n))] [(.int (0 : Int32)), (.ref a1)])) _
    refine XS.iloadN X0.here hx rfl (hb hby d18_12) rfl ?_
    exact kt
  obtain ⟨_, _, ⟨T54, L54, k54, n54⟩, -, X54, ⟨Lc54, hQ54, l54, y54, z54⟩, st54⟩ := Jvm.LawKit.callS X0 hx (y := (⟨"java/util/Arrays", "copyOfRangeByte", "([BII)[B"⟩ : MethodName)) hown (mvT hZ (hw _ (List.mem_of_getElem? (i := 105) rfl))) (mvT hZ (hw _ (List.mem_of_getElem? (i := 106) rfl))) (mvT hZ (hw _ (List.mem_of_getElem? (i := 103) rfl))) (mvT hZ (hw _ (List.mem_of_getElem? (i := 107) rfl))) (by decide) (backOf (W := 0) (ar_cpb l Z a0 hw [] a1 cap n f h0 n0 Z0 D hn ht) hZ (hw _ (List.mem_of_getElem? (i := 107) rfl)) (hw _ (List.mem_of_getElem? (i := 103) rfl)) (by decide) (by decide)) (g := (mkF m 13 #[.val (.ref a1), .val (.int (0 : Int32)), .val (.int (Int32.ofNat n))] [(.int (Int32.ofNat n)), (.int (0 : Int32)), (.ref a1)])) rfl (by rw [hml]; rfl) (argsL := [(.ref a1), (.int (0 : Int32)), (.int (Int32.ofNat n))]) (rest := []) (lenOf pd_12 rfl) rfl (by show 2 * 0 + _ ≤ _; exact Nat.le_of_eq rfl) (hb hby d18_13) (fun _ _ => ⟨rfl, e0, (by decide : 0 + 1 ≤ _), (by decide : 0 + 16 ≤ _)⟩)
  dsimp only [Pt.U, Pt.locs, Pt.cells, Pt.slots] at X54 l54 y54 z54 st54 hQ54
  subst l54 y54 z54
  obtain ⟨rfl, N54q, K54, V54⟩ := hQ54
  have N54 := Fr.app N0 N54q
  refine Ends.of st54 ?_
  obtain ⟨fs, hr, hrun, hended, hW, hsame⟩ := X54.leave (v := some (.ref h0.size)) (fun h => by rw [Bd.returns] at h; cases h)
  refine ⟨_, _, ?_, hrun, hended, _, _, rfl, ⟨rfl, N54, K54, V54⟩, ⟨_, rfl⟩, hW, hsame.mono (by decide) (by decide)⟩
  show Steps p.tables e below (T54.setTop (mkF m 16 #[.val (.ref a1), .val (.int (0 : Int32)), .val (.int (Int32.ofNat n))] [(.ref h0.size)])) _
  jvm_step X54.here [X54.here.top, hx, (hb hby d18_16), X54.method', Bd.returns, Value.isRef, FieldType.isReference]
  first | (intro acts; rw [hr _ acts rfl rfl rfl]) | rw [hr _ _ rfl rfl rfl]
  exact Steps.refl _
theorem d14_0 : decode jdk_42_method_150_code 0 = .ok (.aload_n 0, 1) := by decide +kernel
theorem d14_1 : decode jdk_42_method_150_code 1 = .ok (.invokespecial 1, 3) := by decide +kernel
theorem d14_4 : decode jdk_42_method_150_code 4 = .ok (.aload_n 1, 1) := by decide +kernel
theorem d14_5 : decode jdk_42_method_150_code 5 = .ok (.invokevirtual 552, 3) := by decide +kernel
theorem d14_8 : decode jdk_42_method_150_code 8 = .ok (.astore_n 3, 1) := by decide +kernel
theorem d14_9 : decode jdk_42_method_150_code 9 = .ok (.aload_n 1, 1) := by decide +kernel
theorem d14_10 : decode jdk_42_method_150_code 10 = .ok (.invokevirtual 549, 3) := by decide +kernel
theorem d14_13 : decode jdk_42_method_150_code 13 = .ok (.istore 4, 2) := by decide +kernel
theorem d14_15 : decode jdk_42_method_150_code 15 = .ok (.aload_n 1, 1) := by decide +kernel
theorem d14_16 : decode jdk_42_method_150_code 16 = .ok (.invokevirtual 1047, 3) := by decide +kernel
theorem d14_19 : decode jdk_42_method_150_code 19 = .ok (.ifCond .eq 22, 3) := by decide +kernel
theorem d14_22 : decode jdk_42_method_150_code 22 = .ok (.aload_n 0, 1) := by decide +kernel
theorem d14_23 : decode jdk_42_method_150_code 23 = .ok (.iconst 0, 1) := by decide +kernel
theorem d14_24 : decode jdk_42_method_150_code 24 = .ok (.putfield 15, 3) := by decide +kernel
theorem d14_27 : decode jdk_42_method_150_code 27 = .ok (.aload_n 0, 1) := by decide +kernel
theorem d14_28 : decode jdk_42_method_150_code 28 = .ok (.aload_n 3, 1) := by decide +kernel
theorem d14_29 : decode jdk_42_method_150_code 29 = .ok (.iconst 0, 1) := by decide +kernel
theorem d14_30 : decode jdk_42_method_150_code 30 = .ok (.iload 4, 2) := by decide +kernel
theorem d14_32 : decode jdk_42_method_150_code 32 = .ok (.invokestatic 54, 3) := by decide +kernel
theorem d14_35 : decode jdk_42_method_150_code 35 = .ok (.putfield 9, 3) := by decide +kernel
theorem d14_38 : decode jdk_42_method_150_code 38 = .ok (.goto 59, 3) := by decide +kernel
theorem d14_41 : decode jdk_42_method_150_code 41 = .ok (.getstatic 38, 3) := by decide +kernel
theorem d14_44 : decode jdk_42_method_150_code 44 = .ok (.ifCond .eq 35, 3) := by decide +kernel
theorem d14_47 : decode jdk_42_method_150_code 47 = .ok (.aload_n 1, 1) := by decide +kernel
theorem d14_48 : decode jdk_42_method_150_code 48 = .ok (.getfield 1048, 3) := by decide +kernel
theorem d14_51 : decode jdk_42_method_150_code 51 = .ok (.ifCond .eq 28, 3) := by decide +kernel
theorem d14_54 : decode jdk_42_method_150_code 54 = .ok (.aload_n 0, 1) := by decide +kernel
theorem d14_55 : decode jdk_42_method_150_code 55 = .ok (.aload_n 3, 1) := by decide +kernel
theorem d14_56 : decode jdk_42_method_150_code 56 = .ok (.iconst 0, 1) := by decide +kernel
theorem d14_57 : decode jdk_42_method_150_code 57 = .ok (.iload 4, 2) := by decide +kernel
theorem d14_59 : decode jdk_42_method_150_code 59 = .ok (.invokestatic 1051, 3) := by decide +kernel
theorem d14_62 : decode jdk_42_method_150_code 62 = .ok (.putfield 9, 3) := by decide +kernel
theorem d14_65 : decode jdk_42_method_150_code 65 = .ok (.aload_n 0, 1) := by decide +kernel
theorem d14_66 : decode jdk_42_method_150_code 66 = .ok (.aload_n 0, 1) := by decide +kernel
theorem d14_67 : decode jdk_42_method_150_code 67 = .ok (.getfield 9, 3) := by decide +kernel
theorem d14_70 : decode jdk_42_method_150_code 70 = .ok (.iload 4, 2) := by decide +kernel
theorem d14_72 : decode jdk_42_method_150_code 72 = .ok (.invokestatic 47, 3) := by decide +kernel
theorem d14_75 : decode jdk_42_method_150_code 75 = .ok (.putfield 15, 3) := by decide +kernel
theorem d14_78 : decode jdk_42_method_150_code 78 = .ok (.return_, 1) := by decide +kernel
theorem d14_79 : decode jdk_42_method_150_code 79 = .ok (.aload_n 0, 1) := by decide +kernel
theorem d14_80 : decode jdk_42_method_150_code 80 = .ok (.iconst 1, 1) := by decide +kernel
theorem d14_81 : decode jdk_42_method_150_code 81 = .ok (.putfield 15, 3) := by decide +kernel
theorem d14_84 : decode jdk_42_method_150_code 84 = .ok (.aload_n 0, 1) := by decide +kernel
theorem d14_85 : decode jdk_42_method_150_code 85 = .ok (.aload_n 3, 1) := by decide +kernel
theorem d14_86 : decode jdk_42_method_150_code 86 = .ok (.iconst 0, 1) := by decide +kernel
theorem d14_87 : decode jdk_42_method_150_code 87 = .ok (.iload 4, 2) := by decide +kernel
theorem d14_89 : decode jdk_42_method_150_code 89 = .ok (.iconst 1, 1) := by decide +kernel
theorem d14_90 : decode jdk_42_method_150_code 90 = .ok (.ishl, 1) := by decide +kernel
theorem d14_91 : decode jdk_42_method_150_code 91 = .ok (.invokestatic 54, 3) := by decide +kernel
theorem d14_94 : decode jdk_42_method_150_code 94 = .ok (.putfield 9, 3) := by decide +kernel
theorem d14_97 : decode jdk_42_method_150_code 97 = .ok (.return_, 1) := by decide +kernel
def Q_str_initASB (Z : State) (a1 : Addr) (a2 : Addr) (b : Addr) (cap : Nat) (n : Nat) (f : Nat → Int32) (cs : Int32) (h0 : Heap) (n0 : Nat) (v : Option Value) (h : Heap) (L : List Loc) : Prop := v = none ∧ Fr n0 L ∧ Keep h0 h [a1] ∧ ∃ d : Addr, Str Z h a1 d n f ∧ h0.size ≤ d
set_option maxRecDepth 65536 in
set_option maxHeartbeats 40000000 in
theorem str_initASB (l : Launch) (Z : State) (a0 : Array Value) (hw : ∀ d ∈ tables_1, d.before a0 Z = true) (ws : List Jvm.Cond) (a1 : Addr) (a2 : Addr) (b : Addr) (cap : Nat) (n : Nat) (f : Nat → Int32) (cs : Int32) (h0 : Heap) (n0 : Nat) (Z0 : n0 ≤ h0.size) (S0 : Sta Z Z.heap "java/lang/String" "COMPACT_STRINGS" "Z" (.int cs)) (hcs : ¬ cs = (0 : Int32)) (O : Old Z n0 h0) (E_a : Exa Z h0 a1 "java/lang/String") (F_v : Fld Z h0 a1 "java/lang/String" "value" "[B" .null) (F_c : Fld Z h0 a1 "java/lang/String" "coder" "B" (.int (0 : Int32))) (F : SBd Z h0 a2 b cap n f) (hn : n < cap) (ht : n ≤ 16) (g_a : n0 ≤ a1) :
    MetFree l (⟨"java/lang/String", "<init>", "(Ljava/lang/AbstractStringBuilder;Ljava/lang/Void;)V"⟩ : MethodName) (head1 (Jvm.Cond.code (⟨"java/lang/String", "<init>", "(Ljava/lang/AbstractStringBuilder;Ljava/lang/Void;)V"⟩ : MethodName) jdk_42_method_150_code 5 none :: ws) ({ frames := 3, cells := 1, slots := 16, locals := 95 } : Room)) (fun a U => a = #[(.ref a1), (.ref a2), .null] ∧ Z.Warmed39 U.vm ∧ U.heap = h0) (fun _ _ _ _ _ => True) (fun _ U o U' => ∃ v L, o = .returned v ∧ Q_str_initASB Z a1 a2 b cap n f cs h0 n0 v U'.heap L ∧ FrameEnd U o U' L ({ frames := 3, cells := 1, slots := 16, locals := 95 } : Room).cells ({ frames := 3, cells := 1, slots := 16, locals := 95 } : Room).slots) := by
  refine MetFree.of_bodySF (plainFor_of_name pn_0) hisR ?_
  intro p e s m args below meth c s₁ Bd hml0 hP hK
  obtain ⟨rfl, hZ, hh⟩ := hP
  have hx := Bd.exec
  have hby := Bd.bytes
  have hml : c.maxLocals = 5 := hml0
  have hown : s.vm.findClass "java/lang/String" = some m.cls := findClass_of_methodNamed Bd.named
  have hnm := (name_of_methodNamed Bd.named Bd.method).1
  have X0 : Stand p l e ({ frames := 3, cells := 1, slots := 16, locals := 95 } : Room) s m #[(.ref a1), (.ref a2), .null] below meth c s₁ [] 0 0 := Stand.of_body Bd
  have e0 : s₁.heap = h0 := by rw [← hh, Bd.state]; rfl
  have N0 := Fr.nil n0
  have eF : entryFrame m #[(.ref a1), (.ref a2), .null] 5 = mkF m 0 #[.val (.ref a1), .val (.ref a2), .val .null, .unset, .unset] [] := by first | (simp [entryFrame, mkF, argsToLocals, Value.category]; done) | rfl
  show Ends p e below s ({ frames := 3, cells := 1, slots := 16, locals := 95 } : Room) (Q_str_initASB Z a1 a2 b cap n f cs h0 n0) (s₁.setTop (entryFrame m #[(.ref a1), (.ref a2), .null] 5))
  rw [eF]
  obtain ⟨Ex, Fc, Fn, Fv, Va, hcap⟩ := id F
  refine Ends.of (F' := s₁.setTop (mkF m 1 #[.val (.ref a1), .val (.ref a2), .val .null, .unset, .unset] [(.ref a1)])) (fun _ kt => ?_) ?_
  · show Steps p.tables e below (s₁.setTop (mkF m 0 #[.val (.ref a1), .val (.ref a2), .val .null, .unset, .unset] [])) _
    refine XS.aloadN X0.here hx rfl (hb hby d14_0) rfl rfl ?_
    exact kt
  obtain ⟨T55, X55, e55, st55⟩ := initO X0 hx hZ hown (hw _ (List.mem_of_getElem? (i := 84) rfl)) (hw _ (List.mem_of_getElem? (i := 8) rfl)) (hw _ (List.mem_of_getElem? (i := 9) rfl)) e0 (g := (mkF m 1 #[.val (.ref a1), .val (.ref a2), .val .null, .unset, .unset] [(.ref a1)])) rfl (by rw [hml]; rfl) rfl (hb hby d14_1) (by decide) (W := 0) (by show 2 * 0 + _ ≤ _; exact Nat.le_of_eq rfl) (by decide)
  refine Ends.of st55 ?_
  refine Ends.of (F' := T55.setTop (mkF m 5 #[.val (.ref a1), .val (.ref a2), .val .null, .unset, .unset] [(.ref a2)])) (fun _ kt => ?_) ?_
  · show Steps p.tables e below (T55.setTop (mkF m 4 #[.val (.ref a1), .val (.ref a2), .val .null, .unset, .unset] [])) _
    refine XS.aloadN X55.here hx rfl (hb hby d14_4) rfl rfl ?_
    exact kt
  obtain ⟨cq56, kq56, q56a, q56b, q56c⟩ := isOf hZ e55 Ex
  obtain ⟨_, _, ⟨T56, L56, k56, n56⟩, -, X56, ⟨Lc56, hQ56, l56, y56, z56⟩, st56⟩ := X55.virtualBack hx (y := (⟨"java/lang/AbstractStringBuilder", "getValue", "()[B"⟩ : MethodName)) (z := (⟨"java/lang/AbstractStringBuilder", "getValue", "()[B"⟩ : MethodName)) hown (mvT hZ (hw _ (List.mem_of_getElem? (i := 85) rfl))) (mvT hZ (hw _ (List.mem_of_getElem? (i := 86) rfl))) (notFace_of_selects (args := #[]) (mvT hZ (hw _ (List.mem_of_getElem? (i := 88) rfl)))) (mvT hZ (hw _ (List.mem_of_getElem? (i := 88) rfl))) (mvT hZ (hw _ (List.mem_of_getElem? (i := 87) rfl))) (by decide) (backOf (W := 0) (asb_val l Z a0 hw [] a2 b h0 n0 Z0 Fv) hZ (hw _ (List.mem_of_getElem? (i := 89) rfl)) (hw _ (List.mem_of_getElem? (i := 20) rfl)) (by decide) (by decide)) q56a q56c (g := (mkF m 5 #[.val (.ref a1), .val (.ref a2), .val .null, .unset, .unset] [(.ref a2)])) rfl (by rw [hml]; rfl) (Steps.refl _) (argsL := []) (rest := []) (lenOf pd_10 rfl) rfl (by show 2 * 0 + _ ≤ _; exact Nat.le_of_eq rfl) (hb hby d14_5) (fun _ _ => ⟨rfl, e55, (by decide : 0 + 0 ≤ _), (by decide : 0 + 0 ≤ _)⟩)
  dsimp only [Pt.U, Pt.locs, Pt.cells, Pt.slots] at X56 l56 y56 z56 st56 hQ56
  subst l56 y56 z56
  obtain ⟨rfl, N56q, e56⟩ := hQ56
  have N56 := Fr.app N0 N56q
  refine Ends.st st56 ?_
  refine Ends.of (F' := T56.setTop (mkF m 10 #[.val (.ref a1), .val (.ref a2), .val .null, .val (.ref b), .unset] [(.ref a2)])) (fun _ kt => ?_) ?_
  · show Steps p.tables e below (T56.setTop (mkF m 8 #[.val (.ref a1), .val (.ref a2), .val .null, .unset, .unset] [(.ref b)])) _
    refine XS.astoreN X56.here hx rfl (hb hby d14_8) rfl rfl (l' := #[.val (.ref a1), .val (.ref a2), .val .null, .val (.ref b), .unset]) rfl ?_
    show Steps p.tables e below (T56.setTop (mkF m 9 #[.val (.ref a1), .val (.ref a2), .val .null, .val (.ref b), .unset] [])) _
    refine XS.aloadN X56.here hx rfl (hb hby d14_9) rfl rfl ?_
    exact kt
  obtain ⟨cq57, kq57, q57a, q57b, q57c⟩ := isOf hZ e56 Ex
  obtain ⟨_, _, ⟨T57, L57, k57, n57⟩, -, X57, ⟨Lc57, hQ57, l57, y57, z57⟩, st57⟩ := X56.virtualBack hx (y := (⟨"java/lang/AbstractStringBuilder", "length", "()I"⟩ : MethodName)) (z := (⟨"java/lang/StringBuilder", "length", "()I"⟩ : MethodName)) hown (mvT hZ (hw _ (List.mem_of_getElem? (i := 90) rfl))) (mvT hZ (hw _ (List.mem_of_getElem? (i := 91) rfl))) (own_nf (args := #[]) (z := (⟨"java/lang/AbstractStringBuilder", "ensureCapacityInternal", "(I)V"⟩ : MethodName)) rfl (mvT hZ (hw _ (List.mem_of_getElem? (i := 52) rfl)))) (mvT hZ (hw _ (List.mem_of_getElem? (i := 93) rfl))) (mvT hZ (hw _ (List.mem_of_getElem? (i := 94) rfl))) (by decide) (backOf (W := 0) (sb_len l Z a0 hw [] a2 n h0 n0 Z0 Fn Ex) hZ (hw _ (List.mem_of_getElem? (i := 95) rfl)) (hw _ (List.mem_of_getElem? (i := 12) rfl)) (by decide) (by decide)) q57a q57c (g := (mkF m 10 #[.val (.ref a1), .val (.ref a2), .val .null, .val (.ref b), .unset] [(.ref a2)])) rfl (by rw [hml]; rfl) (Steps.refl _) (argsL := []) (rest := []) (lenOf pd_11 rfl) rfl (by show 2 * 0 + _ ≤ _; exact Nat.le_of_eq rfl) (hb hby d14_10) (fun _ _ => ⟨rfl, e56, (by decide : 0 + 0 ≤ _), (by decide : 0 + 0 ≤ _)⟩)
  dsimp only [Pt.U, Pt.locs, Pt.cells, Pt.slots] at X57 l57 y57 z57 st57 hQ57
  subst l57 y57 z57
  obtain ⟨rfl, N57q, e57⟩ := hQ57
  have N57 := Fr.app N56 N57q
  refine Ends.st st57 ?_
  refine Ends.of (F' := T57.setTop (mkF m 16 #[.val (.ref a1), .val (.ref a2), .val .null, .val (.ref b), .val (.int (Int32.ofNat n))] [(.ref a2)])) (fun _ kt => ?_) ?_
  · show Steps p.tables e below (T57.setTop (mkF m 13 #[.val (.ref a1), .val (.ref a2), .val .null, .val (.ref b), .unset] [(.int (Int32.ofNat n))])) _
    refine XS.istore X57.here hx rfl (hb hby d14_13) rfl (l' := #[.val (.ref a1), .val (.ref a2), .val .null, .val (.ref b), .val (.int (Int32.ofNat n))]) rfl ?_
    show Steps p.tables e below (T57.setTop (mkF m 15 #[.val (.ref a1), .val (.ref a2), .val .null, .val (.ref b), .val (.int (Int32.ofNat n))] [])) _
    refine XS.aloadN X57.here hx rfl (hb hby d14_15) rfl rfl ?_
    exact kt
  obtain ⟨cq58, kq58, q58a, q58b, q58c⟩ := isOf hZ e57 F.1
  obtain ⟨_, _, ⟨T58, L58, k58, n58⟩, -, X58, ⟨Lc58, hQ58, l58, y58, z58⟩, st58⟩ := X57.virtualBack hx (y := (⟨"java/lang/AbstractStringBuilder", "isLatin1", "()Z"⟩ : MethodName)) (z := (⟨"java/lang/AbstractStringBuilder", "isLatin1", "()Z"⟩ : MethodName)) hown (mvT hZ (hw _ (List.mem_of_getElem? (i := 98) rfl))) (mvT hZ (hw _ (List.mem_of_getElem? (i := 55) rfl))) (notFace_of_selects (args := #[]) (mvT hZ (hw _ (List.mem_of_getElem? (i := 57) rfl)))) (mvT hZ (hw _ (List.mem_of_getElem? (i := 57) rfl))) (mvT hZ (hw _ (List.mem_of_getElem? (i := 56) rfl))) (by decide) (backOf (W := 0) (asb_lat l Z a0 hw [] a2 cs h0 n0 Z0 S0 hcs O F.2.1) hZ (hw _ (List.mem_of_getElem? (i := 58) rfl)) (hw _ (List.mem_of_getElem? (i := 20) rfl)) (by decide) (by decide)) q58a q58c (g := (mkF m 16 #[.val (.ref a1), .val (.ref a2), .val .null, .val (.ref b), .val (.int (Int32.ofNat n))] [(.ref a2)])) rfl (by rw [hml]; rfl) (Steps.refl _) (argsL := []) (rest := []) (lenOf pd_5 rfl) rfl (by show 2 * 0 + _ ≤ _; exact Nat.le_of_eq rfl) (hb hby d14_16) (fun _ _ => ⟨rfl, e57, (by decide : 0 + 0 ≤ _), (by decide : 0 + 0 ≤ _)⟩)
  dsimp only [Pt.U, Pt.locs, Pt.cells, Pt.slots] at X58 l58 y58 z58 st58 hQ58
  subst l58 y58 z58
  obtain ⟨rfl, N58q, e58⟩ := hQ58
  have N58 := Fr.app N57 N58q
  refine Ends.st st58 ?_
  obtain ⟨cb0, Ab0, -, -, -⟩ := Va.op
  have nab : a1 ≠ b := ne_arr E_a (hw _ (List.mem_of_getElem? (i := 76) rfl)) Ab0
  refine Ends.of (F' := T58.setTop (mkF m 24 #[.val (.ref a1), .val (.ref a2), .val .null, .val (.ref b), .val (.int (Int32.ofNat n))] [(.int (0 : Int32)), (.ref a1)])) (fun _ kt => ?_) ?_
  · show Steps p.tables e below (T58.setTop (mkF m 19 #[.val (.ref a1), .val (.ref a2), .val .null, .val (.ref b), .val (.int (Int32.ofNat n))] [(.int (1 : Int32))])) _
    refine XS.ifNo X58.here hx rfl (hb hby d14_19) rfl ((if0 _ _).trans (feq (by decide)).1) ?_
    show Steps p.tables e below (T58.setTop (mkF m 22 #[.val (.ref a1), .val (.ref a2), .val .null, .val (.ref b), .val (.int (Int32.ofNat n))] [])) _
    refine XS.aloadN X58.here hx rfl (hb hby d14_22) rfl rfl ?_
    show Steps p.tables e below (T58.setTop (mkF m 23 #[.val (.ref a1), .val (.ref a2), .val .null, .val (.ref b), .val (.int (Int32.ofNat n))] [(.ref a1)])) _
    refine XS.iconst X58.here hx rfl (hb hby d14_23) ?_
    exact kt
  obtain ⟨T59, h59, X59, e59, W59, st59⟩ := putFN X58 hx hZ hown (hw _ (List.mem_of_getElem? (i := 99) rfl)) Via.refl e58 F_c E_a (Or.inr ⟨(hw _ (List.mem_of_getElem? (i := 100) rfl)), rfl, hnm⟩) (hw _ (List.mem_of_getElem? (i := 76) rfl)) (ty := .byte) (v' := (.int (0 : Int32))) (by decide) rfl rfl (g := (mkF m 24 #[.val (.ref a1), .val (.ref a2), .val .null, .val (.ref b), .val (.int (Int32.ofNat n))] [(.int (0 : Int32)), (.ref a1)])) rfl rfl (hb hby d14_24)
  refine Ends.of st59 ?_
  have N59 := Fr.snoc X59 N58 g_a
  have F_c1 := F_c.same W59
  have F_v1 := F_v.other W59 (Or.inr (slot_ne (Or.inr (hw _ (List.mem_of_getElem? (i := 120) rfl))) (Or.inr (hw _ (List.mem_of_getElem? (i := 100) rfl))) (by decide) (t := (.array .byte)) (t' := .byte) (by decide) (by decide)))
  have E_1 := E_a.wr W59
  have Va1 := Va.other W59 (Ne.symm nab)
  have K1 : Keep h0 h59 [a1] := (Keep.refl _ _).wr W59 (Or.inl (List.mem_of_getElem? (i := 0) rfl))
  have Z1 : n0 ≤ h59.size := Nat.le_trans Z0 K1.1
  refine Ends.of (F' := T59.setTop (mkF m 32 #[.val (.ref a1), .val (.ref a2), .val .null, .val (.ref b), .val (.int (Int32.ofNat n))] [(.int (Int32.ofNat n)), (.int (0 : Int32)), (.ref b), (.ref a1)])) (fun _ kt => ?_) ?_
  · show Steps p.tables e below (T59.setTop (mkF m 27 #[.val (.ref a1), .val (.ref a2), .val .null, .val (.ref b), .val (.int (Int32.ofNat n))] [])) _
    refine XS.aloadN X59.here hx rfl (hb hby d14_27) rfl rfl ?_
    show Steps p.tables e below (T59.setTop (mkF m 28 #[.val (.ref a1), .val (.ref a2), .val .null, .val (.ref b), .val (.int (Int32.ofNat n))] [(.ref a1)])) _
    refine XS.aloadN X59.here hx rfl (hb hby d14_28) rfl rfl ?_
    show Steps p.tables e below (T59.setTop (mkF m 29 #[.val (.ref a1), .val (.ref a2), .val .null, .val (.ref b), .val (.int (Int32.ofNat n))] [(.ref b), (.ref a1)])) _
    refine XS.iconst X59.here hx rfl (hb hby d14_29) ?_
    show Steps p.tables e below (T59.setTop (mkF m 30 #[.val (.ref a1), .val (.ref a2), .val .null, .val (.ref b), .val (.int (Int32.ofNat n))] [(.int (0 : Int32)), (.ref b), (.ref a1)])) _
    refine XS.iload X59.here hx rfl (hb hby d14_30) rfl ?_
    exact kt
  obtain ⟨_, _, ⟨T60, L60, k60, n60⟩, -, X60, ⟨Lc60, hQ60, l60, y60, z60⟩, st60⟩ := Jvm.LawKit.callS X59 hx (y := (⟨"java/util/Arrays", "copyOfRange", "([BII)[B"⟩ : MethodName)) hown (mvT hZ (hw _ (List.mem_of_getElem? (i := 101) rfl))) (mvT hZ (hw _ (List.mem_of_getElem? (i := 102) rfl))) (mvT hZ (hw _ (List.mem_of_getElem? (i := 103) rfl))) (mvT hZ (hw _ (List.mem_of_getElem? (i := 104) rfl))) (by decide) (backOf (W := 1) (ar_cpr l Z a0 hw [] b cap n f h59 n0 Z1 Va1 hn ht) hZ (hw _ (List.mem_of_getElem? (i := 104) rfl)) (hw _ (List.mem_of_getElem? (i := 103) rfl)) (by decide) (by decide)) (g := (mkF m 32 #[.val (.ref a1), .val (.ref a2), .val .null, .val (.ref b), .val (.int (Int32.ofNat n))] [(.int (Int32.ofNat n)), (.int (0 : Int32)), (.ref b), (.ref a1)])) rfl (by rw [hml]; rfl) (argsL := [(.ref b), (.int (0 : Int32)), (.int (Int32.ofNat n))]) (rest := [(.ref a1)]) (lenOf pd_12 rfl) rfl (by show 2 * 0 + _ ≤ _; exact Nat.le_of_eq rfl) (hb hby d14_32) (fun _ _ => ⟨rfl, e59, (by decide : 0 + 1 ≤ _), (by decide : 0 + 16 ≤ _)⟩)
  dsimp only [Pt.U, Pt.locs, Pt.cells, Pt.slots] at X60 l60 y60 z60 st60 hQ60
  subst l60 y60 z60
  obtain ⟨rfl, N60q, K60, V60⟩ := hQ60
  have N60 := Fr.app N59 N60q
  refine Ends.of st60 ?_
  have E_2 := E_1.keep K60
  have F_v2 := F_v1.keep K60 nin0
  have F_c2 := F_c1.keep K60 nin0
  have nsz : h59.size ≠ a1 := Ne.symm (Nat.ne_of_lt E_1.lt)
  obtain ⟨T61, h61, X61, e61, W61, st61⟩ := putF X60 hx hZ hown (host := "") (Or.inl (hw _ (List.mem_of_getElem? (i := 119) rfl))) Via.refl rfl F_v2 E_2 (Or.inr ⟨(hw _ (List.mem_of_getElem? (i := 120) rfl)), rfl, hnm⟩) (hw _ (List.mem_of_getElem? (i := 76) rfl)) (ty := (.array .byte)) (by decide) rfl rfl (g := (mkF m 35 #[.val (.ref a1), .val (.ref a2), .val .null, .val (.ref b), .val (.int (Int32.ofNat n))] [(.ref h59.size), (.ref a1)])) rfl rfl (hb hby d14_35)
  refine Ends.of st61 ?_
  have N61 := Fr.snoc X61 N60 g_a
  have F_v3 := F_v2.same W61
  have F_c3 := F_c2.other W61 (Or.inr (slot_ne (Or.inr (hw _ (List.mem_of_getElem? (i := 100) rfl))) (Or.inr (hw _ (List.mem_of_getElem? (i := 120) rfl))) (by decide) (t := .byte) (t' := (.array .byte)) (by decide) (by decide)))
  have E_3 := E_2.wr W61
  have V3 := V60.other W61 nsz
  have K3 : Keep h0 h61 [a1] := (K1.trans K60 all0).wr W61 (Or.inl (List.mem_of_getElem? (i := 0) rfl))
  refine Ends.of (F' := T61.setTop (mkF m 97 #[.val (.ref a1), .val (.ref a2), .val .null, .val (.ref b), .val (.int (Int32.ofNat n))] [])) (fun _ kt => ?_) ?_
  · show Steps p.tables e below (T61.setTop (mkF m 38 #[.val (.ref a1), .val (.ref a2), .val .null, .val (.ref b), .val (.int (Int32.ofNat n))] [])) _
    refine XS.goto X61.here hx rfl (pc0 := 38) (pc' := 97) rfl (hb hby d14_38) (by decide) (by decide) ?_
    exact kt
  rw [← e61] at F_v3 F_c3 E_3 V3 K3
  obtain ⟨fs, hr, hrun, hended, hW, hsame⟩ := X61.leave (v := none) (fun _ => rfl)
  exact ⟨_, _, X61.returnOut hx Bd.returns (hb hby d14_97) hr, hrun, hended, _, _, rfl, ⟨rfl, N61, K3, _, ⟨E_3, F_c3, F_v3, V3⟩, K1.1⟩, ⟨_, rfl⟩, hW, hsame.mono (by decide) (by decide)⟩
theorem d13_0 : decode jdk_42_method_53_code 0 = .ok (.aload_n 0, 1) := by decide +kernel
theorem d13_1 : decode jdk_42_method_53_code 1 = .ok (.aload_n 1, 1) := by decide +kernel
theorem d13_2 : decode jdk_42_method_53_code 2 = .ok (.aconst_null, 1) := by decide +kernel
theorem d13_3 : decode jdk_42_method_53_code 3 = .ok (.invokespecial 489, 3) := by decide +kernel
theorem d13_6 : decode jdk_42_method_53_code 6 = .ok (.return_, 1) := by decide +kernel
def Q_str_initSB (Z : State) (a1 : Addr) (a2 : Addr) (b : Addr) (cap : Nat) (n : Nat) (f : Nat → Int32) (cs : Int32) (h0 : Heap) (n0 : Nat) (v : Option Value) (h : Heap) (L : List Loc) : Prop := v = none ∧ Fr n0 L ∧ Keep h0 h [a1] ∧ ∃ d : Addr, Str Z h a1 d n f ∧ h0.size ≤ d
set_option maxRecDepth 65536 in
set_option maxHeartbeats 40000000 in
theorem str_initSB (l : Launch) (Z : State) (a0 : Array Value) (hw : ∀ d ∈ tables_1, d.before a0 Z = true) (ws : List Jvm.Cond) (a1 : Addr) (a2 : Addr) (b : Addr) (cap : Nat) (n : Nat) (f : Nat → Int32) (cs : Int32) (h0 : Heap) (n0 : Nat) (Z0 : n0 ≤ h0.size) (S0 : Sta Z Z.heap "java/lang/String" "COMPACT_STRINGS" "Z" (.int cs)) (hcs : ¬ cs = (0 : Int32)) (O : Old Z n0 h0) (E_a : Exa Z h0 a1 "java/lang/String") (F_v : Fld Z h0 a1 "java/lang/String" "value" "[B" .null) (F_c : Fld Z h0 a1 "java/lang/String" "coder" "B" (.int (0 : Int32))) (F : SBd Z h0 a2 b cap n f) (hn : n < cap) (ht : n ≤ 16) (g_a : n0 ≤ a1) :
    MetFree l (⟨"java/lang/String", "<init>", "(Ljava/lang/StringBuilder;)V"⟩ : MethodName) (head1 (Jvm.Cond.code (⟨"java/lang/String", "<init>", "(Ljava/lang/StringBuilder;)V"⟩ : MethodName) jdk_42_method_53_code 2 none :: ws) ({ frames := 4, cells := 1, slots := 16, locals := 111 } : Room)) (fun a U => a = #[(.ref a1), (.ref a2)] ∧ Z.Warmed39 U.vm ∧ U.heap = h0) (fun _ _ _ _ _ => True) (fun _ U o U' => ∃ v L, o = .returned v ∧ Q_str_initSB Z a1 a2 b cap n f cs h0 n0 v U'.heap L ∧ FrameEnd U o U' L ({ frames := 4, cells := 1, slots := 16, locals := 111 } : Room).cells ({ frames := 4, cells := 1, slots := 16, locals := 111 } : Room).slots) := by
  refine MetFree.of_bodySF (plainFor_of_name pn_0) hisR ?_
  intro p e s m args below meth c s₁ Bd hml0 hP hK
  obtain ⟨rfl, hZ, hh⟩ := hP
  have hx := Bd.exec
  have hby := Bd.bytes
  have hml : c.maxLocals = 2 := hml0
  have hown : s.vm.findClass "java/lang/String" = some m.cls := findClass_of_methodNamed Bd.named
  have hnm := (name_of_methodNamed Bd.named Bd.method).1
  have X0 : Stand p l e ({ frames := 4, cells := 1, slots := 16, locals := 111 } : Room) s m #[(.ref a1), (.ref a2)] below meth c s₁ [] 0 0 := Stand.of_body Bd
  have e0 : s₁.heap = h0 := by rw [← hh, Bd.state]; rfl
  have N0 := Fr.nil n0
  have eF : entryFrame m #[(.ref a1), (.ref a2)] 2 = mkF m 0 #[.val (.ref a1), .val (.ref a2)] [] := by first | (simp [entryFrame, mkF, argsToLocals, Value.category]; done) | rfl
  show Ends p e below s ({ frames := 4, cells := 1, slots := 16, locals := 111 } : Room) (Q_str_initSB Z a1 a2 b cap n f cs h0 n0) (s₁.setTop (entryFrame m #[(.ref a1), (.ref a2)] 2))
  rw [eF]
  refine Ends.of (F' := s₁.setTop (mkF m 3 #[.val (.ref a1), .val (.ref a2)] [.null, (.ref a2), (.ref a1)])) (fun _ kt => ?_) ?_
  · show Steps p.tables e below (s₁.setTop (mkF m 0 #[.val (.ref a1), .val (.ref a2)] [])) _
    refine XS.aloadN X0.here hx rfl (hb hby d13_0) rfl rfl ?_
    show Steps p.tables e below (s₁.setTop (mkF m 1 #[.val (.ref a1), .val (.ref a2)] [(.ref a1)])) _
    refine XS.aloadN X0.here hx rfl (hb hby d13_1) rfl rfl ?_
    show Steps p.tables e below (s₁.setTop (mkF m 2 #[.val (.ref a1), .val (.ref a2)] [(.ref a2), (.ref a1)])) _
    refine XS.aconstNull X0.here hx rfl (hb hby d13_2) ?_
    exact kt
  obtain ⟨_, _, ⟨T62, L62, k62, n62⟩, -, X62, ⟨Lc62, hQ62, l62, y62, z62⟩, st62⟩ := X0.specialBack hx (y := (⟨"java/lang/String", "<init>", "(Ljava/lang/AbstractStringBuilder;Ljava/lang/Void;)V"⟩ : MethodName)) rfl hown (mvT hZ (hw _ (List.mem_of_getElem? (i := 81) rfl))) (mvT hZ (hw _ (List.mem_of_getElem? (i := 82) rfl))) (mvT hZ (hw _ (List.mem_of_getElem? (i := 83) rfl))) (by decide) (backOf (W := 0) (str_initASB l Z a0 hw [] a1 a2 b cap n f cs h0 n0 Z0 S0 hcs O E_a F_v F_c F hn ht g_a) hZ (hw _ (List.mem_of_getElem? (i := 83) rfl)) (hw _ (List.mem_of_getElem? (i := 24) rfl)) (by decide) (by decide)) (g := (mkF m 3 #[.val (.ref a1), .val (.ref a2)] [.null, (.ref a2), (.ref a1)])) rfl (by rw [hml]; rfl) (Steps.refl _) (a := a1) (argsL := [(.ref a2), .null]) (rest := []) (lenOf pd_9 rfl) rfl (by show 2 * 0 + _ ≤ _; exact Nat.le_of_eq rfl) (hb hby d13_3) (fun _ _ => ⟨rfl, e0, (by decide : 0 + 1 ≤ _), (by decide : 0 + 16 ≤ _)⟩)
  dsimp only [Pt.U, Pt.locs, Pt.cells, Pt.slots] at X62 l62 y62 z62 st62 hQ62
  subst l62 y62 z62
  obtain ⟨rfl, N62q, K62, d62, St62, gd62⟩ := hQ62
  have N62 := Fr.app N0 N62q
  refine Ends.st st62 ?_
  obtain ⟨fs, hr, hrun, hended, hW, hsame⟩ := X62.leave (v := none) (fun _ => rfl)
  exact ⟨_, _, X62.returnOut hx Bd.returns (hb hby d13_6) hr, hrun, hended, _, _, rfl, ⟨rfl, N62, K62, d62, St62, gd62⟩, ⟨_, rfl⟩, hW, hsame.mono (by decide) (by decide)⟩
theorem d12_0 : decode jdk_67_method_42_code 0 = .ok (.new 18, 3) := by decide +kernel
theorem d12_3 : decode jdk_67_method_42_code 3 = .ok (.dup, 1) := by decide +kernel
theorem d12_4 : decode jdk_67_method_42_code 4 = .ok (.aload_n 0, 1) := by decide +kernel
theorem d12_5 : decode jdk_67_method_42_code 5 = .ok (.invokespecial 137, 3) := by decide +kernel
theorem d12_8 : decode jdk_67_method_42_code 8 = .ok (.areturn, 1) := by decide +kernel
def Q_sb_str (Z : State) (a1 : Addr) (b : Addr) (cap : Nat) (n : Nat) (f : Nat → Int32) (cs : Int32) (h0 : Heap) (n0 : Nat) (v : Option Value) (h : Heap) (L : List Loc) : Prop := ∃ d : Addr, v = some (.ref h0.size) ∧ Fr n0 L ∧ Keep h0 h [] ∧ Str Z h h0.size d n f ∧ h0.size < d
set_option maxRecDepth 65536 in
set_option maxHeartbeats 40000000 in
theorem sb_str (l : Launch) (Z : State) (a0 : Array Value) (hw : ∀ d ∈ tables_1, d.before a0 Z = true) (ws : List Jvm.Cond) (a1 : Addr) (b : Addr) (cap : Nat) (n : Nat) (f : Nat → Int32) (cs : Int32) (h0 : Heap) (n0 : Nat) (Z0 : n0 ≤ h0.size) (S0 : Sta Z Z.heap "java/lang/String" "COMPACT_STRINGS" "Z" (.int cs)) (hcs : ¬ cs = (0 : Int32)) (O : Old Z n0 h0) (F : SBd Z h0 a1 b cap n f) (hn : n < cap) (ht : n ≤ 16) :
    MetFree l (⟨"java/lang/StringBuilder", "toString", "()Ljava/lang/String;"⟩ : MethodName) (head1 (Jvm.Cond.code (⟨"java/lang/StringBuilder", "toString", "()Ljava/lang/String;"⟩ : MethodName) jdk_67_method_42_code 1 (some (.object "java/lang/String")) :: ws) ({ frames := 5, cells := 2, slots := 20, locals := 125 } : Room)) (fun a U => a = #[(.ref a1)] ∧ Z.Warmed39 U.vm ∧ U.heap = h0) (fun _ _ _ _ _ => True) (fun _ U o U' => ∃ v L, o = .returned v ∧ Q_sb_str Z a1 b cap n f cs h0 n0 v U'.heap L ∧ FrameEnd U o U' L ({ frames := 5, cells := 2, slots := 20, locals := 125 } : Room).cells ({ frames := 5, cells := 2, slots := 20, locals := 125 } : Room).slots) := by
  refine MetFree.of_bodySF (plainFor_of_name pn_3) hisR ?_
  intro p e s m args below meth c s₁ Bd hml0 hP hK
  obtain ⟨rfl, hZ, hh⟩ := hP
  have hx := Bd.exec
  have hby := Bd.bytes
  have hml : c.maxLocals = 1 := hml0
  have hown : s.vm.findClass "java/lang/StringBuilder" = some m.cls := findClass_of_methodNamed Bd.named
  have hnm := (name_of_methodNamed Bd.named Bd.method).1
  have X0 : Stand p l e ({ frames := 5, cells := 2, slots := 20, locals := 125 } : Room) s m #[(.ref a1)] below meth c s₁ [] 0 0 := Stand.of_body Bd
  have e0 : s₁.heap = h0 := by rw [← hh, Bd.state]; rfl
  have N0 := Fr.nil n0
  have eF : entryFrame m #[(.ref a1)] 1 = mkF m 0 #[.val (.ref a1)] [] := by first | (simp [entryFrame, mkF, argsToLocals, Value.category]; done) | rfl
  show Ends p e below s ({ frames := 5, cells := 2, slots := 20, locals := 125 } : Room) (Q_sb_str Z a1 b cap n f cs h0 n0) (s₁.setTop (entryFrame m #[(.ref a1)] 1))
  rw [eF]
  obtain ⟨T63, h63, X63, e63, E63, A63, D63, -, st63⟩ := newO X0 hx hZ hown (hw _ (List.mem_of_getElem? (i := 75) rfl)) (hw _ (List.mem_of_getElem? (i := 76) rfl)) (hw _ (List.mem_of_getElem? (i := 24) rfl)) e0 (g := (mkF m 0 #[.val (.ref a1)] [])) rfl (hb hby d12_0) (by decide) (by decide)
  obtain ⟨b63, g63⟩ : ∃ z, z = h0.size := ⟨_, rfl⟩
  rw [← g63] at A63 D63 st63
  have F_coder_b63 : Fld Z h63 b63 "java/lang/String" "coder" "B" (.int (0 : Int32)) := D63 (Or.inr (hw _ (List.mem_of_getElem? (i := 100) rfl))) (ty := .byte) (by decide)
  have F_value_b63 : Fld Z h63 b63 "java/lang/String" "value" "[B" .null := D63 (Or.inr (hw _ (List.mem_of_getElem? (i := 120) rfl))) (ty := (.array .byte)) (by decide)
  refine Ends.of st63 ?_
  have Z1 : n0 ≤ h63.size := Nat.le_trans Z0 E63.1
  have gb : n0 ≤ b63 := Nat.le_trans Z0 (Nat.le_of_eq g63.symm)
  refine Ends.of (F' := T63.setTop (mkF m 5 #[.val (.ref a1)] [(.ref a1), (.ref b63), (.ref b63)])) (fun _ kt => ?_) ?_
  · show Steps p.tables e below (T63.setTop (mkF m 3 #[.val (.ref a1)] [(.ref b63)])) _
    refine XS.dup X63.here hx rfl (hb hby d12_3) rfl rfl ?_
    show Steps p.tables e below (T63.setTop (mkF m 4 #[.val (.ref a1)] [(.ref b63), (.ref b63)])) _
    refine XS.aloadN X63.here hx rfl (hb hby d12_4) rfl rfl ?_
    exact kt
  obtain ⟨_, _, ⟨T64, L64, k64, n64⟩, -, X64, ⟨Lc64, hQ64, l64, y64, z64⟩, st64⟩ := X63.specialBack hx (y := (⟨"java/lang/String", "<init>", "(Ljava/lang/StringBuilder;)V"⟩ : MethodName)) rfl hown (mvT hZ (hw _ (List.mem_of_getElem? (i := 77) rfl))) (mvT hZ (hw _ (List.mem_of_getElem? (i := 78) rfl))) (mvT hZ (hw _ (List.mem_of_getElem? (i := 80) rfl))) (by decide) (backOf (W := 1) (str_initSB l Z a0 hw [] b63 a1 b cap n f cs h63 n0 Z1 S0 hcs (O.ext E63) A63 F_value_b63 F_coder_b63 (F.ext E63) hn ht gb) hZ (hw _ (List.mem_of_getElem? (i := 80) rfl)) (hw _ (List.mem_of_getElem? (i := 24) rfl)) (by decide) (by decide)) (g := (mkF m 5 #[.val (.ref a1)] [(.ref a1), (.ref b63), (.ref b63)])) rfl (by rw [hml]; rfl) (Steps.refl _) (a := b63) (argsL := [(.ref a1)]) (rest := [(.ref b63)]) (lenOf pd_8 rfl) rfl (by show 2 * 0 + _ ≤ _; exact Nat.le_of_eq rfl) (hb hby d12_5) (fun _ _ => ⟨rfl, e63, (by decide : 1 + 1 ≤ _), (by decide : 4 + 16 ≤ _)⟩)
  dsimp only [Pt.U, Pt.locs, Pt.cells, Pt.slots] at X64 l64 y64 z64 st64 hQ64
  subst l64 y64 z64
  obtain ⟨rfl, N64q, K64, d64, St64, gd64⟩ := hQ64
  have N64 := Fr.app N0 N64q
  refine Ends.st st64 ?_
  have K9 : Keep h0 T64.heap [] := ((Keep.refl h0 []).ext E63).trans K64 (allS (Or.inr (Nat.le_of_eq g63.symm)) all0)
  have gl := A63.lt
  subst g63
  obtain ⟨fs, hr, hrun, hended, hW, hsame⟩ := X64.leave (v := some (.ref h0.size)) (fun h => by rw [Bd.returns] at h; cases h)
  refine ⟨_, _, ?_, hrun, hended, _, _, rfl, ⟨d64, rfl, N64, K9, St64, Nat.lt_of_lt_of_le gl gd64⟩, ⟨_, rfl⟩, hW, hsame.mono (by decide) (by decide)⟩
  show Steps p.tables e below (T64.setTop (mkF m 8 #[.val (.ref a1)] [(.ref h0.size)])) _
  jvm_step X64.here [X64.here.top, hx, (hb hby d12_8), X64.method', Bd.returns, Value.isRef, FieldType.isReference]
  first | (intro acts; rw [hr _ acts rfl rfl rfl]) | rw [hr _ _ rfl rfl rfl]
  exact Steps.refl _
theorem d23_0 : decode jdk_43_method_13_code 0 = .ok (.aload_n 0, 1) := by decide +kernel
theorem d23_1 : decode jdk_43_method_13_code 1 = .ok (.arraylength, 1) := by decide +kernel
theorem d23_2 : decode jdk_43_method_13_code 2 = .ok (.aload_n 1, 1) := by decide +kernel
theorem d23_3 : decode jdk_43_method_13_code 3 = .ok (.arraylength, 1) := by decide +kernel
theorem d23_4 : decode jdk_43_method_13_code 4 = .ok (.if_icmp .ne 30, 3) := by decide +kernel
theorem d23_7 : decode jdk_43_method_13_code 7 = .ok (.iconst 0, 1) := by decide +kernel
theorem d23_8 : decode jdk_43_method_13_code 8 = .ok (.istore_n 2, 1) := by decide +kernel
theorem d23_9 : decode jdk_43_method_13_code 9 = .ok (.iload_n 2, 1) := by decide +kernel
theorem d23_10 : decode jdk_43_method_13_code 10 = .ok (.aload_n 0, 1) := by decide +kernel
theorem d23_11 : decode jdk_43_method_13_code 11 = .ok (.arraylength, 1) := by decide +kernel
theorem d23_12 : decode jdk_43_method_13_code 12 = .ok (.if_icmp .ge 20, 3) := by decide +kernel
theorem d23_15 : decode jdk_43_method_13_code 15 = .ok (.aload_n 0, 1) := by decide +kernel
theorem d23_16 : decode jdk_43_method_13_code 16 = .ok (.iload_n 2, 1) := by decide +kernel
theorem d23_17 : decode jdk_43_method_13_code 17 = .ok (.baload, 1) := by decide +kernel
theorem d23_18 : decode jdk_43_method_13_code 18 = .ok (.aload_n 1, 1) := by decide +kernel
theorem d23_19 : decode jdk_43_method_13_code 19 = .ok (.iload_n 2, 1) := by decide +kernel
theorem d23_20 : decode jdk_43_method_13_code 20 = .ok (.baload, 1) := by decide +kernel
theorem d23_21 : decode jdk_43_method_13_code 21 = .ok (.if_icmp .eq 5, 3) := by decide +kernel
theorem d23_24 : decode jdk_43_method_13_code 24 = .ok (.iconst 0, 1) := by decide +kernel
theorem d23_25 : decode jdk_43_method_13_code 25 = .ok (.ireturn, 1) := by decide +kernel
theorem d23_26 : decode jdk_43_method_13_code 26 = .ok (.iinc 2 1, 3) := by decide +kernel
theorem d23_29 : decode jdk_43_method_13_code 29 = .ok (.goto (-20), 3) := by decide +kernel
theorem d23_32 : decode jdk_43_method_13_code 32 = .ok (.iconst 1, 1) := by decide +kernel
theorem d23_33 : decode jdk_43_method_13_code 33 = .ok (.ireturn, 1) := by decide +kernel
theorem d23_34 : decode jdk_43_method_13_code 34 = .ok (.iconst 0, 1) := by decide +kernel
theorem d23_35 : decode jdk_43_method_13_code 35 = .ok (.ireturn, 1) := by decide +kernel
def Q_lat_equals (Z : State) (a1 : Addr) (a2 : Addr) (n : Nat) (k : Nat) (f : Nat → Int32) (g : Nat → Int32) (h0 : Heap) (n0 : Nat) (v : Option Value) (h : Heap) (L : List Loc) : Prop := v = some (.int (if (n = k ∧ ∀ i, i < n → f i = g i) then (1 : Int32) else (0 : Int32))) ∧ Fr n0 L ∧ h = h0
set_option maxRecDepth 65536 in
set_option maxHeartbeats 40000000 in
theorem lat_equals (l : Launch) (Z : State) (a0 : Array Value) (hw : ∀ d ∈ tables_1, d.before a0 Z = true) (ws : List Jvm.Cond) (a1 : Addr) (a2 : Addr) (n : Nat) (k : Nat) (f : Nat → Int32) (g : Nat → Int32) (h0 : Heap) (n0 : Nat) (Z0 : n0 ≤ h0.size) (D1 : Ary .byte Z h0 a1 n f) (D2 : Ary .byte Z h0 a2 k g) :
    MetFree l (⟨"java/lang/StringLatin1", "equals", "([B[B)Z"⟩ : MethodName) (head1 (Jvm.Cond.code (⟨"java/lang/StringLatin1", "equals", "([B[B)Z"⟩ : MethodName) jdk_43_method_13_code 3 (some .boolean) :: ws) ({ frames := 0, cells := 0, slots := 0, locals := 0 } : Room)) (fun a U => a = #[(.ref a1), (.ref a2)] ∧ Z.Warmed39 U.vm ∧ U.heap = h0) (fun _ _ _ _ _ => True) (fun _ U o U' => ∃ v L, o = .returned v ∧ Q_lat_equals Z a1 a2 n k f g h0 n0 v U'.heap L ∧ FrameEnd U o U' L ({ frames := 0, cells := 0, slots := 0, locals := 0 } : Room).cells ({ frames := 0, cells := 0, slots := 0, locals := 0 } : Room).slots) := by
  refine MetFree.of_bodySF (plainFor_of_name pn_1) hisR ?_
  intro p e s m args below meth c s₁ Bd hml0 hP hK
  obtain ⟨rfl, hZ, hh⟩ := hP
  have hx := Bd.exec
  have hby := Bd.bytes
  have hml : c.maxLocals = 3 := hml0
  have hown : s.vm.findClass "java/lang/StringLatin1" = some m.cls := findClass_of_methodNamed Bd.named
  have hnm := (name_of_methodNamed Bd.named Bd.method).1
  have X0 : Stand p l e ({ frames := 0, cells := 0, slots := 0, locals := 0 } : Room) s m #[(.ref a1), (.ref a2)] below meth c s₁ [] 0 0 := Stand.of_body Bd
  have e0 : s₁.heap = h0 := by rw [← hh, Bd.state]; rfl
  have N0 := Fr.nil n0
  have eF : entryFrame m #[(.ref a1), (.ref a2)] 3 = mkF m 0 #[.val (.ref a1), .val (.ref a2), .unset] [] := by first | (simp [entryFrame, mkF, argsToLocals, Value.category]; done) | rfl
  show Ends p e below s ({ frames := 0, cells := 0, slots := 0, locals := 0 } : Room) (Q_lat_equals Z a1 a2 n k f g h0 n0) (s₁.setTop (entryFrame m #[(.ref a1), (.ref a2)] 3))
  rw [eF]
  have hn : n ≤ 100000 := D1.1
  have hk : k ≤ 100000 := D2.1
  obtain ⟨c1, A1, S1, H1, -⟩ := D1.op
  obtain ⟨c2, A2, S2, H2, -⟩ := D2.op
  have loop : ∀ (d i : Nat), i + d = n → n = k → (∀ j, j < i → f j = g j) → Ends p e below s ({ frames := 0, cells := 0, slots := 0, locals := 0 } : Room) (Q_lat_equals Z a1 a2 n k f g h0 n0) (s₁.setTop (mkF m 9 #[.val (.ref a1), .val (.ref a2), .val (.int (Int32.ofNat i))] [])) := by
    intro d
    induction d with
    | zero =>
      intro i hi hnk hall
      refine Ends.of (F' := s₁.setTop (mkF m 33 #[.val (.ref a1), .val (.ref a2), .val (.int (Int32.ofNat i))] [(.int (1 : Int32))])) (fun _ kt => ?_) ?_
      · show Steps p.tables e below (s₁.setTop (mkF m 9 #[.val (.ref a1), .val (.ref a2), .val (.int (Int32.ofNat i))] [])) _
        refine XS.iloadN X0.here hx rfl (hb hby d23_9) rfl ?_
        show Steps p.tables e below (s₁.setTop (mkF m 10 #[.val (.ref a1), .val (.ref a2), .val (.int (Int32.ofNat i))] [(.int (Int32.ofNat i))])) _
        refine XS.aloadN X0.here hx rfl (hb hby d23_10) rfl rfl ?_
        show Steps p.tables e below (s₁.setTop (mkF m 11 #[.val (.ref a1), .val (.ref a2), .val (.int (Int32.ofNat i))] [(.ref a1), (.int (Int32.ofNat i))])) _
        refine X0.arraylength hx (by rw [e0]; exact A1.1) (State.isArrayOf_alike hZ.alike A1.2.1) (g := (mkF m 11 #[.val (.ref a1), .val (.ref a2), .val (.int (Int32.ofNat i))] [(.ref a1), (.int (Int32.ofNat i))])) rfl rfl (hb hby d23_11) _ ?_
        rw [S1]
        show Steps p.tables e below (s₁.setTop (mkF m 12 #[.val (.ref a1), .val (.ref a2), .val (.int (Int32.ofNat i))] [(.int (Int32.ofNat n)), (.int (Int32.ofNat i))])) _
        refine XS.icmpYes X0.here hx rfl (pc0 := 12) (pc' := 32) rfl (hb hby d23_12) rfl (flt (mt (own_ltN i n (by omega) (by omega)).mp (by omega))).2.1 (by decide) (by decide) ?_
        show Steps p.tables e below (s₁.setTop (mkF m 32 #[.val (.ref a1), .val (.ref a2), .val (.int (Int32.ofNat i))] [])) _
        refine XS.iconst X0.here hx rfl (hb hby d23_32) ?_
        exact kt
      obtain ⟨fs, hr, hrun, hended, hW, hsame⟩ := X0.leave (v := some (.int (1 : Int32))) (fun h => by rw [Bd.returns] at h; cases h)
      exact ⟨_, _, retN X0 hx (t := .boolean) Bd.returns (by simp) (hb hby d23_33) hr, hrun, hended, _, _, rfl, ⟨by rw [if_pos ⟨hnk, fun j hj => hall j (by omega)⟩], N0, e0⟩, ⟨_, rfl⟩, hW, hsame.mono (by decide) (by decide)⟩
    | succ d ih =>
      intro i hi hnk hall
      refine Ends.of (F' := s₁.setTop (mkF m 21 #[.val (.ref a1), .val (.ref a2), .val (.int (Int32.ofNat i))] [(.int (g i)), (.int (f i))])) (fun _ kt => ?_) ?_
      · show Steps p.tables e below (s₁.setTop (mkF m 9 #[.val (.ref a1), .val (.ref a2), .val (.int (Int32.ofNat i))] [])) _
        refine XS.iloadN X0.here hx rfl (hb hby d23_9) rfl ?_
        show Steps p.tables e below (s₁.setTop (mkF m 10 #[.val (.ref a1), .val (.ref a2), .val (.int (Int32.ofNat i))] [(.int (Int32.ofNat i))])) _
        refine XS.aloadN X0.here hx rfl (hb hby d23_10) rfl rfl ?_
        show Steps p.tables e below (s₁.setTop (mkF m 11 #[.val (.ref a1), .val (.ref a2), .val (.int (Int32.ofNat i))] [(.ref a1), (.int (Int32.ofNat i))])) _
        refine X0.arraylength hx (by rw [e0]; exact A1.1) (State.isArrayOf_alike hZ.alike A1.2.1) (g := (mkF m 11 #[.val (.ref a1), .val (.ref a2), .val (.int (Int32.ofNat i))] [(.ref a1), (.int (Int32.ofNat i))])) rfl rfl (hb hby d23_11) _ ?_
        rw [S1]
        show Steps p.tables e below (s₁.setTop (mkF m 12 #[.val (.ref a1), .val (.ref a2), .val (.int (Int32.ofNat i))] [(.int (Int32.ofNat n)), (.int (Int32.ofNat i))])) _
        refine XS.icmpNo X0.here hx rfl (hb hby d23_12) rfl (tlt ((own_ltN i n (by omega) (by omega)).mpr (by omega))).2.1 ?_
        show Steps p.tables e below (s₁.setTop (mkF m 15 #[.val (.ref a1), .val (.ref a2), .val (.int (Int32.ofNat i))] [])) _
        refine XS.aloadN X0.here hx rfl (hb hby d23_15) rfl rfl ?_
        show Steps p.tables e below (s₁.setTop (mkF m 16 #[.val (.ref a1), .val (.ref a2), .val (.int (Int32.ofNat i))] [(.ref a1)])) _
        refine XS.iloadN X0.here hx rfl (hb hby d23_16) rfl ?_
        show Steps p.tables e below (s₁.setTop (mkF m 17 #[.val (.ref a1), .val (.ref a2), .val (.int (Int32.ofNat i))] [(.int (Int32.ofNat i)), (.ref a1)])) _
        refine X0.baloadBytes hx (j := (Int32.ofNat i)) (v := (.int (f i))) (by rw [e0]; exact A1.1) (State.isArrayOf_alike hZ.alike A1.2.1) A1.2.2 (own_hin S1 rfl (by omega) (by omega)) (own_hat H1 rfl (by omega) (by omega)) (g := (mkF m 17 #[.val (.ref a1), .val (.ref a2), .val (.int (Int32.ofNat i))] [(.int (Int32.ofNat i)), (.ref a1)])) rfl rfl (hb hby d23_17) _ ?_
        show Steps p.tables e below (s₁.setTop (mkF m 18 #[.val (.ref a1), .val (.ref a2), .val (.int (Int32.ofNat i))] [(.int (f i))])) _
        refine XS.aloadN X0.here hx rfl (hb hby d23_18) rfl rfl ?_
        show Steps p.tables e below (s₁.setTop (mkF m 19 #[.val (.ref a1), .val (.ref a2), .val (.int (Int32.ofNat i))] [(.ref a2), (.int (f i))])) _
        refine XS.iloadN X0.here hx rfl (hb hby d23_19) rfl ?_
        show Steps p.tables e below (s₁.setTop (mkF m 20 #[.val (.ref a1), .val (.ref a2), .val (.int (Int32.ofNat i))] [(.int (Int32.ofNat i)), (.ref a2), (.int (f i))])) _
        refine X0.baloadBytes hx (j := (Int32.ofNat i)) (v := (.int (g i))) (by rw [e0]; exact A2.1) (State.isArrayOf_alike hZ.alike A2.2.1) A2.2.2 (own_hin S2 rfl (by omega) (by omega)) (own_hat H2 rfl (by omega) (by omega)) (g := (mkF m 20 #[.val (.ref a1), .val (.ref a2), .val (.int (Int32.ofNat i))] [(.int (Int32.ofNat i)), (.ref a2), (.int (f i))])) rfl rfl (hb hby d23_20) _ ?_
        exact kt
      by_cases heq : (f i) = (g i)
      · refine Ends.of (F' := s₁.setTop (mkF m 9 #[.val (.ref a1), .val (.ref a2), .val (.int ((Int32.ofNat i) + (1 : Int32)))] [])) (fun _ kt => ?_) ?_
        · show Steps p.tables e below (s₁.setTop (mkF m 21 #[.val (.ref a1), .val (.ref a2), .val (.int (Int32.ofNat i))] [(.int (g i)), (.int (f i))])) _
          refine XS.icmpYes X0.here hx rfl (pc0 := 21) (pc' := 26) rfl (hb hby d23_21) rfl (teq heq).1 (by decide) (by decide) ?_
          show Steps p.tables e below (s₁.setTop (mkF m 26 #[.val (.ref a1), .val (.ref a2), .val (.int (Int32.ofNat i))] [])) _
          refine XS.iinc X0.here hx rfl (hb hby d23_26) rfl (l' := #[.val (.ref a1), .val (.ref a2), .val (.int ((Int32.ofNat i) + (1 : Int32)))]) rfl ?_
          show Steps p.tables e below (s₁.setTop (mkF m 29 #[.val (.ref a1), .val (.ref a2), .val (.int ((Int32.ofNat i) + (1 : Int32)))] [])) _
          refine XS.goto X0.here hx rfl (pc0 := 29) (pc' := 9) rfl (hb hby d23_29) (by decide) (by decide) ?_
          exact kt
        rw [show Int32.ofNat i + (1 : Int32) = Int32.ofNat (i + 1) from own_add i 1]
        refine ih (i + 1) (by omega) hnk (fun j hj => ?_)
        by_cases hji : j = i
        · rw [hji]; exact heq
        · exact hall j (by omega)
      · refine Ends.of (F' := s₁.setTop (mkF m 25 #[.val (.ref a1), .val (.ref a2), .val (.int (Int32.ofNat i))] [(.int (0 : Int32))])) (fun _ kt => ?_) ?_
        · show Steps p.tables e below (s₁.setTop (mkF m 21 #[.val (.ref a1), .val (.ref a2), .val (.int (Int32.ofNat i))] [(.int (g i)), (.int (f i))])) _
          refine XS.icmpNo X0.here hx rfl (hb hby d23_21) rfl (feq heq).1 ?_
          show Steps p.tables e below (s₁.setTop (mkF m 24 #[.val (.ref a1), .val (.ref a2), .val (.int (Int32.ofNat i))] [])) _
          refine XS.iconst X0.here hx rfl (hb hby d23_24) ?_
          exact kt
        obtain ⟨fs, hr, hrun, hended, hW, hsame⟩ := X0.leave (v := some (.int (0 : Int32))) (fun h => by rw [Bd.returns] at h; cases h)
        exact ⟨_, _, retN X0 hx (t := .boolean) Bd.returns (by simp) (hb hby d23_25) hr, hrun, hended, _, _, rfl, ⟨by rw [if_neg (fun q => heq (q.2 i (by omega)))], N0, e0⟩, ⟨_, rfl⟩, hW, hsame.mono (by decide) (by decide)⟩
  refine Ends.of (F' := s₁.setTop (mkF m 4 #[.val (.ref a1), .val (.ref a2), .unset] [(.int (Int32.ofNat k)), (.int (Int32.ofNat n))])) (fun _ kt => ?_) ?_
  · show Steps p.tables e below (s₁.setTop (mkF m 0 #[.val (.ref a1), .val (.ref a2), .unset] [])) _
    refine XS.aloadN X0.here hx rfl (hb hby d23_0) rfl rfl ?_
    show Steps p.tables e below (s₁.setTop (mkF m 1 #[.val (.ref a1), .val (.ref a2), .unset] [(.ref a1)])) _
    refine X0.arraylength hx (by rw [e0]; exact A1.1) (State.isArrayOf_alike hZ.alike A1.2.1) (g := (mkF m 1 #[.val (.ref a1), .val (.ref a2), .unset] [(.ref a1)])) rfl rfl (hb hby d23_1) _ ?_
    rw [S1]
    show Steps p.tables e below (s₁.setTop (mkF m 2 #[.val (.ref a1), .val (.ref a2), .unset] [(.int (Int32.ofNat n))])) _
    refine XS.aloadN X0.here hx rfl (hb hby d23_2) rfl rfl ?_
    show Steps p.tables e below (s₁.setTop (mkF m 3 #[.val (.ref a1), .val (.ref a2), .unset] [(.ref a2), (.int (Int32.ofNat n))])) _
    refine X0.arraylength hx (by rw [e0]; exact A2.1) (State.isArrayOf_alike hZ.alike A2.2.1) (g := (mkF m 3 #[.val (.ref a1), .val (.ref a2), .unset] [(.ref a2), (.int (Int32.ofNat n))])) rfl rfl (hb hby d23_3) _ ?_
    rw [S2]
    exact kt
  by_cases hnk : n = k
  · refine Ends.of (F' := s₁.setTop (mkF m 9 #[.val (.ref a1), .val (.ref a2), .val (.int (0 : Int32))] [])) (fun _ kt => ?_) ?_
    · show Steps p.tables e below (s₁.setTop (mkF m 4 #[.val (.ref a1), .val (.ref a2), .unset] [(.int (Int32.ofNat k)), (.int (Int32.ofNat n))])) _
      refine XS.icmpNo X0.here hx rfl (hb hby d23_4) rfl (teq ((own_eqN n k hn hk).mpr hnk)).2 ?_
      show Steps p.tables e below (s₁.setTop (mkF m 7 #[.val (.ref a1), .val (.ref a2), .unset] [])) _
      refine XS.iconst X0.here hx rfl (hb hby d23_7) ?_
      show Steps p.tables e below (s₁.setTop (mkF m 8 #[.val (.ref a1), .val (.ref a2), .unset] [(.int (0 : Int32))])) _
      refine XS.istoreN X0.here hx rfl (hb hby d23_8) rfl (l' := #[.val (.ref a1), .val (.ref a2), .val (.int (0 : Int32))]) rfl ?_
      exact kt
    exact loop n 0 (by omega) hnk (fun j hj => absurd hj (Nat.not_lt_zero j))
  · refine Ends.of (F' := s₁.setTop (mkF m 35 #[.val (.ref a1), .val (.ref a2), .unset] [(.int (0 : Int32))])) (fun _ kt => ?_) ?_
    · show Steps p.tables e below (s₁.setTop (mkF m 4 #[.val (.ref a1), .val (.ref a2), .unset] [(.int (Int32.ofNat k)), (.int (Int32.ofNat n))])) _
      refine XS.icmpYes X0.here hx rfl (pc0 := 4) (pc' := 34) rfl (hb hby d23_4) rfl (feq (mt (own_eqN n k hn hk).mp hnk)).2 (by decide) (by decide) ?_
      show Steps p.tables e below (s₁.setTop (mkF m 34 #[.val (.ref a1), .val (.ref a2), .unset] [])) _
      refine XS.iconst X0.here hx rfl (hb hby d23_34) ?_
      exact kt
    obtain ⟨fs, hr, hrun, hended, hW, hsame⟩ := X0.leave (v := some (.int (0 : Int32))) (fun h => by rw [Bd.returns] at h; cases h)
    exact ⟨_, _, retN X0 hx (t := .boolean) Bd.returns (by simp) (hb hby d23_35) hr, hrun, hended, _, _, rfl, ⟨by rw [if_neg (fun q => hnk q.1)], N0, e0⟩, ⟨_, rfl⟩, hW, hsame.mono (by decide) (by decide)⟩
theorem d22_0 : decode jdk_42_method_66_code 0 = .ok (.aload_n 0, 1) := by decide +kernel
theorem d22_1 : decode jdk_42_method_66_code 1 = .ok (.aload_n 1, 1) := by decide +kernel
theorem d22_2 : decode jdk_42_method_66_code 2 = .ok (.if_acmp .ne 5, 3) := by decide +kernel
theorem d22_5 : decode jdk_42_method_66_code 5 = .ok (.iconst 1, 1) := by decide +kernel
theorem d22_6 : decode jdk_42_method_66_code 6 = .ok (.ireturn, 1) := by decide +kernel
theorem d22_7 : decode jdk_42_method_66_code 7 = .ok (.aload_n 1, 1) := by decide +kernel
theorem d22_8 : decode jdk_42_method_66_code 8 = .ok (.instanceof 10, 3) := by decide +kernel
theorem d22_11 : decode jdk_42_method_66_code 11 = .ok (.ifCond .eq 43, 3) := by decide +kernel
theorem d22_14 : decode jdk_42_method_66_code 14 = .ok (.aload_n 1, 1) := by decide +kernel
theorem d22_15 : decode jdk_42_method_66_code 15 = .ok (.checkcast 10, 3) := by decide +kernel
theorem d22_18 : decode jdk_42_method_66_code 18 = .ok (.astore_n 2, 1) := by decide +kernel
theorem d22_19 : decode jdk_42_method_66_code 19 = .ok (.getstatic 38, 3) := by decide +kernel
theorem d22_22 : decode jdk_42_method_66_code 22 = .ok (.ifCond .eq 14, 3) := by decide +kernel
theorem d22_25 : decode jdk_42_method_66_code 25 = .ok (.aload_n 0, 1) := by decide +kernel
theorem d22_26 : decode jdk_42_method_66_code 26 = .ok (.getfield 15, 3) := by decide +kernel
theorem d22_29 : decode jdk_42_method_66_code 29 = .ok (.aload_n 2, 1) := by decide +kernel
theorem d22_30 : decode jdk_42_method_66_code 30 = .ok (.getfield 15, 3) := by decide +kernel
theorem d22_33 : decode jdk_42_method_66_code 33 = .ok (.if_icmp .ne 21, 3) := by decide +kernel
theorem d22_36 : decode jdk_42_method_66_code 36 = .ok (.aload_n 0, 1) := by decide +kernel
theorem d22_37 : decode jdk_42_method_66_code 37 = .ok (.getfield 9, 3) := by decide +kernel
theorem d22_40 : decode jdk_42_method_66_code 40 = .ok (.aload_n 2, 1) := by decide +kernel
theorem d22_41 : decode jdk_42_method_66_code 41 = .ok (.getfield 9, 3) := by decide +kernel
theorem d22_44 : decode jdk_42_method_66_code 44 = .ok (.invokestatic 541, 3) := by decide +kernel
theorem d22_47 : decode jdk_42_method_66_code 47 = .ok (.ifCond .eq 7, 3) := by decide +kernel
theorem d22_50 : decode jdk_42_method_66_code 50 = .ok (.iconst 1, 1) := by decide +kernel
theorem d22_51 : decode jdk_42_method_66_code 51 = .ok (.goto 4, 3) := by decide +kernel
theorem d22_54 : decode jdk_42_method_66_code 54 = .ok (.iconst 0, 1) := by decide +kernel
theorem d22_55 : decode jdk_42_method_66_code 55 = .ok (.ireturn, 1) := by decide +kernel
def Q_str_equals (Z : State) (a1 : Addr) (a2 : Addr) (b1 : Addr) (b2 : Addr) (n : Nat) (k : Nat) (f : Nat → Int32) (g : Nat → Int32) (cs : Int32) (h0 : Heap) (n0 : Nat) (v : Option Value) (h : Heap) (L : List Loc) : Prop := v = some (.int (if (n = k ∧ ∀ i, i < n → f i = g i) then (1 : Int32) else (0 : Int32))) ∧ Fr n0 L ∧ h = h0
set_option maxRecDepth 65536 in
set_option maxHeartbeats 40000000 in
theorem str_equals (l : Launch) (Z : State) (a0 : Array Value) (hw : ∀ d ∈ tables_1, d.before a0 Z = true) (ws : List Jvm.Cond) (a1 : Addr) (a2 : Addr) (b1 : Addr) (b2 : Addr) (n : Nat) (k : Nat) (f : Nat → Int32) (g : Nat → Int32) (cs : Int32) (h0 : Heap) (n0 : Nat) (Z0 : n0 ≤ h0.size) (S0 : Sta Z Z.heap "java/lang/String" "COMPACT_STRINGS" "Z" (.int cs)) (hcs : ¬ cs = (0 : Int32)) (O : Old Z n0 h0) (St1 : Str Z h0 a1 b1 n f) (St2 : Str Z h0 a2 b2 k g) (ne : ¬ a1 = a2) :
    MetFree l (⟨"java/lang/String", "equals", "(Ljava/lang/Object;)Z"⟩ : MethodName) (head1 (Jvm.Cond.code (⟨"java/lang/String", "equals", "(Ljava/lang/Object;)Z"⟩ : MethodName) jdk_42_method_66_code 3 (some .boolean) :: ws) ({ frames := 1, cells := 0, slots := 0, locals := 14 } : Room)) (fun a U => a = #[(.ref a1), (.ref a2)] ∧ Z.Warmed39 U.vm ∧ U.heap = h0) (fun _ _ _ _ _ => True) (fun _ U o U' => ∃ v L, o = .returned v ∧ Q_str_equals Z a1 a2 b1 b2 n k f g cs h0 n0 v U'.heap L ∧ FrameEnd U o U' L ({ frames := 1, cells := 0, slots := 0, locals := 14 } : Room).cells ({ frames := 1, cells := 0, slots := 0, locals := 14 } : Room).slots) := by
  refine MetFree.of_bodySF (plainFor_of_name pn_0) hisR ?_
  intro p e s m args below meth c s₁ Bd hml0 hP hK
  obtain ⟨rfl, hZ, hh⟩ := hP
  have hx := Bd.exec
  have hby := Bd.bytes
  have hml : c.maxLocals = 3 := hml0
  have hown : s.vm.findClass "java/lang/String" = some m.cls := findClass_of_methodNamed Bd.named
  have hnm := (name_of_methodNamed Bd.named Bd.method).1
  have X0 : Stand p l e ({ frames := 1, cells := 0, slots := 0, locals := 14 } : Room) s m #[(.ref a1), (.ref a2)] below meth c s₁ [] 0 0 := Stand.of_body Bd
  have e0 : s₁.heap = h0 := by rw [← hh, Bd.state]; rfl
  have N0 := Fr.nil n0
  have eF : entryFrame m #[(.ref a1), (.ref a2)] 3 = mkF m 0 #[.val (.ref a1), .val (.ref a2), .unset] [] := by first | (simp [entryFrame, mkF, argsToLocals, Value.category]; done) | rfl
  show Ends p e below s ({ frames := 1, cells := 0, slots := 0, locals := 14 } : Room) (Q_str_equals Z a1 a2 b1 b2 n k f g cs h0 n0) (s₁.setTop (entryFrame m #[(.ref a1), (.ref a2)] 3))
  rw [eF]
  refine Ends.of (F' := s₁.setTop (mkF m 8 #[.val (.ref a1), .val (.ref a2), .unset] [(.ref a2)])) (fun _ kt => ?_) ?_
  · show Steps p.tables e below (s₁.setTop (mkF m 0 #[.val (.ref a1), .val (.ref a2), .unset] [])) _
    refine XS.aloadN X0.here hx rfl (hb hby d22_0) rfl rfl ?_
    show Steps p.tables e below (s₁.setTop (mkF m 1 #[.val (.ref a1), .val (.ref a2), .unset] [(.ref a1)])) _
    refine XS.aloadN X0.here hx rfl (hb hby d22_1) rfl rfl ?_
    show Steps p.tables e below (s₁.setTop (mkF m 2 #[.val (.ref a1), .val (.ref a2), .unset] [(.ref a2), (.ref a1)])) _
    refine Jvm.RoadKit.acmp (g := (mkF m 2 #[.val (.ref a1), .val (.ref a2), .unset] [(.ref a2), (.ref a1)])) X0 hx rfl rfl rfl (pc0 := 2) (pc' := 7) (same := false) rfl (hb hby d22_2) rfl (decide_eq_false fun q => ne (Value.ref.inj q)) (by decide) (by decide) ?_
    show Steps p.tables e below (s₁.setTop (mkF m 7 #[.val (.ref a1), .val (.ref a2), .unset] [])) _
    refine XS.aloadN X0.here hx rfl (hb hby d22_7) rfl rfl ?_
    exact kt
  obtain ⟨T65, X65, e65, st65⟩ := instY X0 hx hZ hown (hw _ (List.mem_of_getElem? (i := 129) rfl)) e0 (Ins.self St2.1) (g := (mkF m 8 #[.val (.ref a1), .val (.ref a2), .unset] [(.ref a2)])) rfl rfl (hb hby d22_8)
  refine Ends.of st65 ?_
  refine Ends.of (F' := T65.setTop (mkF m 15 #[.val (.ref a1), .val (.ref a2), .unset] [(.ref a2)])) (fun _ kt => ?_) ?_
  · show Steps p.tables e below (T65.setTop (mkF m 11 #[.val (.ref a1), .val (.ref a2), .unset] [(.int (1 : Int32))])) _
    refine XS.ifNo X65.here hx rfl (hb hby d22_11) rfl ((if0 _ _).trans (feq (by decide)).1) ?_
    show Steps p.tables e below (T65.setTop (mkF m 14 #[.val (.ref a1), .val (.ref a2), .unset] [])) _
    refine XS.aloadN X65.here hx rfl (hb hby d22_14) rfl rfl ?_
    exact kt
  obtain ⟨T66, X66, e66, st66⟩ := castY X65 hx hZ hown (hw _ (List.mem_of_getElem? (i := 129) rfl)) e65 (Ins.self St2.1) (g := (mkF m 15 #[.val (.ref a1), .val (.ref a2), .unset] [(.ref a2)])) rfl rfl (hb hby d22_15)
  refine Ends.of st66 ?_
  refine Ends.of (F' := T66.setTop (mkF m 19 #[.val (.ref a1), .val (.ref a2), .val (.ref a2)] [])) (fun _ kt => ?_) ?_
  · show Steps p.tables e below (T66.setTop (mkF m 18 #[.val (.ref a1), .val (.ref a2), .unset] [(.ref a2)])) _
    refine XS.astoreN X66.here hx rfl (hb hby d22_18) rfl rfl (l' := #[.val (.ref a1), .val (.ref a2), .val (.ref a2)]) rfl ?_
    exact kt
  obtain ⟨T67, X67, e67, st67⟩ := getS2 X66 hx hZ hown (host := "") (Or.inl (hw _ (List.mem_of_getElem? (i := 130) rfl))) Via.refl e66 (S0.ext O.2) (g := (mkF m 19 #[.val (.ref a1), .val (.ref a2), .val (.ref a2)] [])) rfl (hb hby d22_19)
  refine Ends.of st67 ?_
  refine Ends.of (F' := T67.setTop (mkF m 26 #[.val (.ref a1), .val (.ref a2), .val (.ref a2)] [(.ref a1)])) (fun _ kt => ?_) ?_
  · show Steps p.tables e below (T67.setTop (mkF m 22 #[.val (.ref a1), .val (.ref a2), .val (.ref a2)] [(.int cs)])) _
    refine XS.ifNo X67.here hx rfl (hb hby d22_22) rfl ((if0 _ _).trans (feq hcs).1) ?_
    show Steps p.tables e below (T67.setTop (mkF m 25 #[.val (.ref a1), .val (.ref a2), .val (.ref a2)] [])) _
    refine XS.aloadN X67.here hx rfl (hb hby d22_25) rfl rfl ?_
    exact kt
  obtain ⟨T68, X68, e68, st68⟩ := getF X67 hx hZ hown (host := "") (Or.inl (hw _ (List.mem_of_getElem? (i := 99) rfl))) Via.refl e67 St1.2.1 (g := (mkF m 26 #[.val (.ref a1), .val (.ref a2), .val (.ref a2)] [(.ref a1)])) rfl rfl (hb hby d22_26)
  refine Ends.of st68 ?_
  refine Ends.of (F' := T68.setTop (mkF m 30 #[.val (.ref a1), .val (.ref a2), .val (.ref a2)] [(.ref a2), (.int (0 : Int32))])) (fun _ kt => ?_) ?_
  · show Steps p.tables e below (T68.setTop (mkF m 29 #[.val (.ref a1), .val (.ref a2), .val (.ref a2)] [(.int (0 : Int32))])) _
    refine XS.aloadN X68.here hx rfl (hb hby d22_29) rfl rfl ?_
    exact kt
  obtain ⟨T69, X69, e69, st69⟩ := getF X68 hx hZ hown (host := "") (Or.inl (hw _ (List.mem_of_getElem? (i := 99) rfl))) Via.refl e68 St2.2.1 (g := (mkF m 30 #[.val (.ref a1), .val (.ref a2), .val (.ref a2)] [(.ref a2), (.int (0 : Int32))])) rfl rfl (hb hby d22_30)
  refine Ends.of st69 ?_
  refine Ends.of (F' := T69.setTop (mkF m 37 #[.val (.ref a1), .val (.ref a2), .val (.ref a2)] [(.ref a1)])) (fun _ kt => ?_) ?_
  · show Steps p.tables e below (T69.setTop (mkF m 33 #[.val (.ref a1), .val (.ref a2), .val (.ref a2)] [(.int (0 : Int32)), (.int (0 : Int32))])) _
    refine XS.icmpNo X69.here hx rfl (hb hby d22_33) rfl (teq rfl).2 ?_
    show Steps p.tables e below (T69.setTop (mkF m 36 #[.val (.ref a1), .val (.ref a2), .val (.ref a2)] [])) _
    refine XS.aloadN X69.here hx rfl (hb hby d22_36) rfl rfl ?_
    exact kt
  obtain ⟨T70, X70, e70, st70⟩ := getF X69 hx hZ hown (host := "") (Or.inl (hw _ (List.mem_of_getElem? (i := 119) rfl))) Via.refl e69 St1.2.2.1 (g := (mkF m 37 #[.val (.ref a1), .val (.ref a2), .val (.ref a2)] [(.ref a1)])) rfl rfl (hb hby d22_37)
  refine Ends.of st70 ?_
  refine Ends.of (F' := T70.setTop (mkF m 41 #[.val (.ref a1), .val (.ref a2), .val (.ref a2)] [(.ref a2), (.ref b1)])) (fun _ kt => ?_) ?_
  · show Steps p.tables e below (T70.setTop (mkF m 40 #[.val (.ref a1), .val (.ref a2), .val (.ref a2)] [(.ref b1)])) _
    refine XS.aloadN X70.here hx rfl (hb hby d22_40) rfl rfl ?_
    exact kt
  obtain ⟨T71, X71, e71, st71⟩ := getF X70 hx hZ hown (host := "") (Or.inl (hw _ (List.mem_of_getElem? (i := 119) rfl))) Via.refl e70 St2.2.2.1 (g := (mkF m 41 #[.val (.ref a1), .val (.ref a2), .val (.ref a2)] [(.ref a2), (.ref b1)])) rfl rfl (hb hby d22_41)
  refine Ends.of st71 ?_
  obtain ⟨_, _, ⟨T72, L72, k72, n72⟩, -, X72, ⟨Lc72, hQ72, l72, y72, z72⟩, st72⟩ := Jvm.LawKit.callS X71 hx (y := (⟨"java/lang/StringLatin1", "equals", "([B[B)Z"⟩ : MethodName)) hown (mvT hZ (hw _ (List.mem_of_getElem? (i := 131) rfl))) (mvT hZ (hw _ (List.mem_of_getElem? (i := 132) rfl))) (mvT hZ (hw _ (List.mem_of_getElem? (i := 61) rfl))) (mvT hZ (hw _ (List.mem_of_getElem? (i := 133) rfl))) (by decide) (backOf (W := 0) (lat_equals l Z a0 hw [] b1 b2 n k f g h0 n0 Z0 St1.2.2.2 St2.2.2.2) hZ (hw _ (List.mem_of_getElem? (i := 133) rfl)) (hw _ (List.mem_of_getElem? (i := 61) rfl)) (by decide) (by decide)) (g := (mkF m 44 #[.val (.ref a1), .val (.ref a2), .val (.ref a2)] [(.ref b2), (.ref b1)])) rfl (by rw [hml]; rfl) (argsL := [(.ref b1), (.ref b2)]) (rest := []) (lenOf pd_17 rfl) rfl (by show 2 * 0 + _ ≤ _; exact Nat.le_of_eq rfl) (hb hby d22_44) (fun _ _ => ⟨rfl, e71, (by decide : 0 + 0 ≤ _), (by decide : 0 + 0 ≤ _)⟩)
  dsimp only [Pt.U, Pt.locs, Pt.cells, Pt.slots] at X72 l72 y72 z72 st72 hQ72
  subst l72 y72 z72
  obtain ⟨rfl, N72q, e72⟩ := hQ72
  have N72 := Fr.app N0 N72q
  refine Ends.of st72 ?_
  by_cases hE : (n = k ∧ ∀ i, i < n → f i = g i)
  · refine Ends.of (F' := T72.setTop (mkF m 55 #[.val (.ref a1), .val (.ref a2), .val (.ref a2)] [(.int (1 : Int32))])) (fun _ kt => ?_) ?_
    · show Steps p.tables e below (T72.setTop (mkF m 47 #[.val (.ref a1), .val (.ref a2), .val (.ref a2)] [(.int (if (n = k ∧ ∀ i, i < n → f i = g i) then (1 : Int32) else (0 : Int32)))])) _
      refine XS.ifNo X72.here hx rfl (hb hby d22_47) rfl ((if0 _ _).trans (feq (by rw [if_pos hE]; decide)).1) ?_
      show Steps p.tables e below (T72.setTop (mkF m 50 #[.val (.ref a1), .val (.ref a2), .val (.ref a2)] [])) _
      refine XS.iconst X72.here hx rfl (hb hby d22_50) ?_
      show Steps p.tables e below (T72.setTop (mkF m 51 #[.val (.ref a1), .val (.ref a2), .val (.ref a2)] [(.int (1 : Int32))])) _
      refine XS.goto X72.here hx rfl (pc0 := 51) (pc' := 55) rfl (hb hby d22_51) (by decide) (by decide) ?_
      exact kt
    obtain ⟨fs, hr, hrun, hended, hW, hsame⟩ := X72.leave (v := some (.int (1 : Int32))) (fun h => by rw [Bd.returns] at h; cases h)
    exact ⟨_, _, retN X72 hx (t := .boolean) Bd.returns (by simp) (hb hby d22_55) hr, hrun, hended, _, _, rfl, ⟨by rw [if_pos hE], N72, e72⟩, ⟨_, rfl⟩, hW, hsame.mono (by decide) (by decide)⟩
  · refine Ends.of (F' := T72.setTop (mkF m 55 #[.val (.ref a1), .val (.ref a2), .val (.ref a2)] [(.int (0 : Int32))])) (fun _ kt => ?_) ?_
    · show Steps p.tables e below (T72.setTop (mkF m 47 #[.val (.ref a1), .val (.ref a2), .val (.ref a2)] [(.int (if (n = k ∧ ∀ i, i < n → f i = g i) then (1 : Int32) else (0 : Int32)))])) _
      refine XS.ifYes X72.here hx rfl (pc0 := 47) (pc' := 54) rfl (hb hby d22_47) rfl ((if0 _ _).trans (teq (if_neg hE)).1) (by decide) (by decide) ?_
      show Steps p.tables e below (T72.setTop (mkF m 54 #[.val (.ref a1), .val (.ref a2), .val (.ref a2)] [])) _
      refine XS.iconst X72.here hx rfl (hb hby d22_54) ?_
      exact kt
    obtain ⟨fs, hr, hrun, hended, hW, hsame⟩ := X72.leave (v := some (.int (0 : Int32))) (fun h => by rw [Bd.returns] at h; cases h)
    exact ⟨_, _, retN X72 hx (t := .boolean) Bd.returns (by simp) (hb hby d22_55) hr, hrun, hended, _, _, rfl, ⟨by rw [if_neg hE], N72, e72⟩, ⟨_, rfl⟩, hW, hsame.mono (by decide) (by decide)⟩
theorem d33_0 : decode jdk_41_method_11_code 0 = .ok (.iload_n 0, 1) := by decide +kernel
theorem d33_1 : decode jdk_41_method_11_code 1 = .ok (.ifCond .lt 8, 3) := by decide +kernel
theorem d33_4 : decode jdk_41_method_11_code 4 = .ok (.iload_n 0, 1) := by decide +kernel
theorem d33_5 : decode jdk_41_method_11_code 5 = .ok (.iload_n 1, 1) := by decide +kernel
theorem d33_6 : decode jdk_41_method_11_code 6 = .ok (.if_icmp .lt 10, 3) := by decide +kernel
theorem d33_9 : decode jdk_41_method_11_code 9 = .ok (.aload_n 2, 1) := by decide +kernel
theorem d33_10 : decode jdk_41_method_11_code 10 = .ok (.iload_n 0, 1) := by decide +kernel
theorem d33_11 : decode jdk_41_method_11_code 11 = .ok (.iload_n 1, 1) := by decide +kernel
theorem d33_12 : decode jdk_41_method_11_code 12 = .ok (.invokestatic 95, 3) := by decide +kernel
theorem d33_15 : decode jdk_41_method_11_code 15 = .ok (.athrow, 1) := by decide +kernel
theorem d33_16 : decode jdk_41_method_11_code 16 = .ok (.iload_n 0, 1) := by decide +kernel
theorem d33_17 : decode jdk_41_method_11_code 17 = .ok (.ireturn, 1) := by decide +kernel
theorem pn_5 : plainName "jdk/internal/util/Preconditions" = true := by first | (simp [plainName, overriddenIn]; done) | decide +kernel
def Q_pre_chkN (Z : State) (i : Nat) (n : Nat) (h0 : Heap) (n0 : Nat) (v : Option Value) (h : Heap) (L : List Loc) : Prop := v = some (.int (Int32.ofNat i)) ∧ Fr n0 L ∧ h = h0
set_option maxRecDepth 65536 in
set_option maxHeartbeats 40000000 in
theorem pre_chkN (l : Launch) (Z : State) (a0 : Array Value) (hw : ∀ d ∈ tables_1, d.before a0 Z = true) (ws : List Jvm.Cond) (i : Nat) (n : Nat) (h0 : Heap) (n0 : Nat) (Z0 : n0 ≤ h0.size) (hi : i < n) (hn : n ≤ 100000) :
    MetFree l (⟨"jdk/internal/util/Preconditions", "checkIndex", "(IILjava/util/function/BiFunction;)I"⟩ : MethodName) (head1 (Jvm.Cond.code (⟨"jdk/internal/util/Preconditions", "checkIndex", "(IILjava/util/function/BiFunction;)I"⟩ : MethodName) jdk_41_method_11_code 3 (some .int) :: ws) ({ frames := 0, cells := 0, slots := 0, locals := 0 } : Room)) (fun a U => a = #[(.int (Int32.ofNat i)), (.int (Int32.ofNat n)), .null] ∧ Z.Warmed39 U.vm ∧ U.heap = h0) (fun _ _ _ _ _ => True) (fun _ U o U' => ∃ v L, o = .returned v ∧ Q_pre_chkN Z i n h0 n0 v U'.heap L ∧ FrameEnd U o U' L ({ frames := 0, cells := 0, slots := 0, locals := 0 } : Room).cells ({ frames := 0, cells := 0, slots := 0, locals := 0 } : Room).slots) := by
  refine MetFree.of_bodySF (plainFor_of_name pn_5) hisR ?_
  intro p e s m args below meth c s₁ Bd hml0 hP hK
  obtain ⟨rfl, hZ, hh⟩ := hP
  have hx := Bd.exec
  have hby := Bd.bytes
  have hml : c.maxLocals = 3 := hml0
  have hown : s.vm.findClass "jdk/internal/util/Preconditions" = some m.cls := findClass_of_methodNamed Bd.named
  have hnm := (name_of_methodNamed Bd.named Bd.method).1
  have X0 : Stand p l e ({ frames := 0, cells := 0, slots := 0, locals := 0 } : Room) s m #[(.int (Int32.ofNat i)), (.int (Int32.ofNat n)), .null] below meth c s₁ [] 0 0 := Stand.of_body Bd
  have e0 : s₁.heap = h0 := by rw [← hh, Bd.state]; rfl
  have N0 := Fr.nil n0
  have eF : entryFrame m #[(.int (Int32.ofNat i)), (.int (Int32.ofNat n)), .null] 3 = mkF m 0 #[.val (.int (Int32.ofNat i)), .val (.int (Int32.ofNat n)), .val .null] [] := by first | (simp [entryFrame, mkF, argsToLocals, Value.category]; done) | rfl
  show Ends p e below s ({ frames := 0, cells := 0, slots := 0, locals := 0 } : Room) (Q_pre_chkN Z i n h0 n0) (s₁.setTop (entryFrame m #[(.int (Int32.ofNat i)), (.int (Int32.ofNat n)), .null] 3))
  rw [eF]
  refine Ends.of (F' := s₁.setTop (mkF m 17 #[.val (.int (Int32.ofNat i)), .val (.int (Int32.ofNat n)), .val .null] [(.int (Int32.ofNat i))])) (fun _ kt => ?_) ?_
  · show Steps p.tables e below (s₁.setTop (mkF m 0 #[.val (.int (Int32.ofNat i)), .val (.int (Int32.ofNat n)), .val .null] [])) _
    refine XS.iloadN X0.here hx rfl (hb hby d33_0) rfl ?_
    show Steps p.tables e below (s₁.setTop (mkF m 1 #[.val (.int (Int32.ofNat i)), .val (.int (Int32.ofNat n)), .val .null] [(.int (Int32.ofNat i))])) _
    refine XS.ifNo X0.here hx rfl (hb hby d33_1) rfl ((if0 _ _).trans (flt (own_nn (by omega))).1) ?_
    show Steps p.tables e below (s₁.setTop (mkF m 4 #[.val (.int (Int32.ofNat i)), .val (.int (Int32.ofNat n)), .val .null] [])) _
    refine XS.iloadN X0.here hx rfl (hb hby d33_4) rfl ?_
    show Steps p.tables e below (s₁.setTop (mkF m 5 #[.val (.int (Int32.ofNat i)), .val (.int (Int32.ofNat n)), .val .null] [(.int (Int32.ofNat i))])) _
    refine XS.iloadN X0.here hx rfl (hb hby d33_5) rfl ?_
    show Steps p.tables e below (s₁.setTop (mkF m 6 #[.val (.int (Int32.ofNat i)), .val (.int (Int32.ofNat n)), .val .null] [(.int (Int32.ofNat n)), (.int (Int32.ofNat i))])) _
    refine XS.icmpYes X0.here hx rfl (pc0 := 6) (pc' := 16) rfl (hb hby d33_6) rfl (tlt ((own_ltN i n (by omega) (by omega)).mpr hi)).1 (by decide) (by decide) ?_
    show Steps p.tables e below (s₁.setTop (mkF m 16 #[.val (.int (Int32.ofNat i)), .val (.int (Int32.ofNat n)), .val .null] [])) _
    refine XS.iloadN X0.here hx rfl (hb hby d33_16) rfl ?_
    exact kt
  obtain ⟨fs, hr, hrun, hended, hW, hsame⟩ := X0.leave (v := some (.int (Int32.ofNat i))) (fun h => by rw [Bd.returns] at h; cases h)
  exact ⟨_, _, retI X0 hx Bd.returns (hb hby d33_17) hr, hrun, hended, _, _, rfl, ⟨rfl, N0, e0⟩, ⟨_, rfl⟩, hW, hsame.mono (by decide) (by decide)⟩
def Q_pre_chkR (Z : State) (i : Nat) (n : Nat) (x : Addr) (h0 : Heap) (n0 : Nat) (v : Option Value) (h : Heap) (L : List Loc) : Prop := v = some (.int (Int32.ofNat i)) ∧ Fr n0 L ∧ h = h0
set_option maxRecDepth 65536 in
set_option maxHeartbeats 40000000 in
theorem pre_chkR (l : Launch) (Z : State) (a0 : Array Value) (hw : ∀ d ∈ tables_1, d.before a0 Z = true) (ws : List Jvm.Cond) (i : Nat) (n : Nat) (x : Addr) (h0 : Heap) (n0 : Nat) (Z0 : n0 ≤ h0.size) (hi : i < n) (hn : n ≤ 100000) :
    MetFree l (⟨"jdk/internal/util/Preconditions", "checkIndex", "(IILjava/util/function/BiFunction;)I"⟩ : MethodName) (head1 (Jvm.Cond.code (⟨"jdk/internal/util/Preconditions", "checkIndex", "(IILjava/util/function/BiFunction;)I"⟩ : MethodName) jdk_41_method_11_code 3 (some .int) :: ws) ({ frames := 0, cells := 0, slots := 0, locals := 0 } : Room)) (fun a U => a = #[(.int (Int32.ofNat i)), (.int (Int32.ofNat n)), (.ref x)] ∧ Z.Warmed39 U.vm ∧ U.heap = h0) (fun _ _ _ _ _ => True) (fun _ U o U' => ∃ v L, o = .returned v ∧ Q_pre_chkR Z i n x h0 n0 v U'.heap L ∧ FrameEnd U o U' L ({ frames := 0, cells := 0, slots := 0, locals := 0 } : Room).cells ({ frames := 0, cells := 0, slots := 0, locals := 0 } : Room).slots) := by
  refine MetFree.of_bodySF (plainFor_of_name pn_5) hisR ?_
  intro p e s m args below meth c s₁ Bd hml0 hP hK
  obtain ⟨rfl, hZ, hh⟩ := hP
  have hx := Bd.exec
  have hby := Bd.bytes
  have hml : c.maxLocals = 3 := hml0
  have hown : s.vm.findClass "jdk/internal/util/Preconditions" = some m.cls := findClass_of_methodNamed Bd.named
  have hnm := (name_of_methodNamed Bd.named Bd.method).1
  have X0 : Stand p l e ({ frames := 0, cells := 0, slots := 0, locals := 0 } : Room) s m #[(.int (Int32.ofNat i)), (.int (Int32.ofNat n)), (.ref x)] below meth c s₁ [] 0 0 := Stand.of_body Bd
  have e0 : s₁.heap = h0 := by rw [← hh, Bd.state]; rfl
  have N0 := Fr.nil n0
  have eF : entryFrame m #[(.int (Int32.ofNat i)), (.int (Int32.ofNat n)), (.ref x)] 3 = mkF m 0 #[.val (.int (Int32.ofNat i)), .val (.int (Int32.ofNat n)), .val (.ref x)] [] := by first | (simp [entryFrame, mkF, argsToLocals, Value.category]; done) | rfl
  show Ends p e below s ({ frames := 0, cells := 0, slots := 0, locals := 0 } : Room) (Q_pre_chkR Z i n x h0 n0) (s₁.setTop (entryFrame m #[(.int (Int32.ofNat i)), (.int (Int32.ofNat n)), (.ref x)] 3))
  rw [eF]
  refine Ends.of (F' := s₁.setTop (mkF m 17 #[.val (.int (Int32.ofNat i)), .val (.int (Int32.ofNat n)), .val (.ref x)] [(.int (Int32.ofNat i))])) (fun _ kt => ?_) ?_
  · show Steps p.tables e below (s₁.setTop (mkF m 0 #[.val (.int (Int32.ofNat i)), .val (.int (Int32.ofNat n)), .val (.ref x)] [])) _
    refine XS.iloadN X0.here hx rfl (hb hby d33_0) rfl ?_
    show Steps p.tables e below (s₁.setTop (mkF m 1 #[.val (.int (Int32.ofNat i)), .val (.int (Int32.ofNat n)), .val (.ref x)] [(.int (Int32.ofNat i))])) _
    refine XS.ifNo X0.here hx rfl (hb hby d33_1) rfl ((if0 _ _).trans (flt (own_nn (by omega))).1) ?_
    show Steps p.tables e below (s₁.setTop (mkF m 4 #[.val (.int (Int32.ofNat i)), .val (.int (Int32.ofNat n)), .val (.ref x)] [])) _
    refine XS.iloadN X0.here hx rfl (hb hby d33_4) rfl ?_
    show Steps p.tables e below (s₁.setTop (mkF m 5 #[.val (.int (Int32.ofNat i)), .val (.int (Int32.ofNat n)), .val (.ref x)] [(.int (Int32.ofNat i))])) _
    refine XS.iloadN X0.here hx rfl (hb hby d33_5) rfl ?_
    show Steps p.tables e below (s₁.setTop (mkF m 6 #[.val (.int (Int32.ofNat i)), .val (.int (Int32.ofNat n)), .val (.ref x)] [(.int (Int32.ofNat n)), (.int (Int32.ofNat i))])) _
    refine XS.icmpYes X0.here hx rfl (pc0 := 6) (pc' := 16) rfl (hb hby d33_6) rfl (tlt ((own_ltN i n (by omega) (by omega)).mpr hi)).1 (by decide) (by decide) ?_
    show Steps p.tables e below (s₁.setTop (mkF m 16 #[.val (.int (Int32.ofNat i)), .val (.int (Int32.ofNat n)), .val (.ref x)] [])) _
    refine XS.iloadN X0.here hx rfl (hb hby d33_16) rfl ?_
    exact kt
  obtain ⟨fs, hr, hrun, hended, hW, hsame⟩ := X0.leave (v := some (.int (Int32.ofNat i))) (fun h => by rw [Bd.returns] at h; cases h)
  exact ⟨_, _, retI X0 hx Bd.returns (hb hby d33_17) hr, hrun, hended, _, _, rfl, ⟨rfl, N0, e0⟩, ⟨_, rfl⟩, hW, hsame.mono (by decide) (by decide)⟩
theorem d32_0 : decode jdk_42_method_155_code 0 = .ok (.iload_n 0, 1) := by decide +kernel
theorem d32_1 : decode jdk_42_method_155_code 1 = .ok (.iload_n 1, 1) := by decide +kernel
theorem d32_2 : decode jdk_42_method_155_code 2 = .ok (.getstatic 1053, 3) := by decide +kernel
theorem d32_5 : decode jdk_42_method_155_code 5 = .ok (.invokestatic 1059, 3) := by decide +kernel
theorem d32_8 : decode jdk_42_method_155_code 8 = .ok (.pop, 1) := by decide +kernel
theorem d32_9 : decode jdk_42_method_155_code 9 = .ok (.return_, 1) := by decide +kernel
def Q_str_chk (Z : State) (i : Nat) (n : Nat) (fv : Value) (h0 : Heap) (n0 : Nat) (v : Option Value) (h : Heap) (L : List Loc) : Prop := v = none ∧ Fr n0 L ∧ h = h0
set_option maxRecDepth 65536 in
set_option maxHeartbeats 40000000 in
theorem str_chk (l : Launch) (Z : State) (a0 : Array Value) (hw : ∀ d ∈ tables_1, d.before a0 Z = true) (ws : List Jvm.Cond) (i : Nat) (n : Nat) (fv : Value) (h0 : Heap) (n0 : Nat) (Z0 : n0 ≤ h0.size) (S1 : Sta Z Z.heap "jdk/internal/util/Preconditions" "SIOOBE_FORMATTER" "Ljava/util/function/BiFunction;" fv) (hfv : fv = .null ∨ ∃ x : Addr, fv = .ref x) (O : Old Z n0 h0) (hi : i < n) (hn : n ≤ 100000) :
    MetFree l (⟨"java/lang/String", "checkIndex", "(II)V"⟩ : MethodName) (head1 (Jvm.Cond.code (⟨"java/lang/String", "checkIndex", "(II)V"⟩ : MethodName) jdk_42_method_155_code 2 none :: ws) ({ frames := 1, cells := 0, slots := 0, locals := 14 } : Room)) (fun a U => a = #[(.int (Int32.ofNat i)), (.int (Int32.ofNat n))] ∧ Z.Warmed39 U.vm ∧ U.heap = h0) (fun _ _ _ _ _ => True) (fun _ U o U' => ∃ v L, o = .returned v ∧ Q_str_chk Z i n fv h0 n0 v U'.heap L ∧ FrameEnd U o U' L ({ frames := 1, cells := 0, slots := 0, locals := 14 } : Room).cells ({ frames := 1, cells := 0, slots := 0, locals := 14 } : Room).slots) := by
  refine MetFree.of_bodySF (plainFor_of_name pn_0) hisR ?_
  intro p e s m args below meth c s₁ Bd hml0 hP hK
  obtain ⟨rfl, hZ, hh⟩ := hP
  have hx := Bd.exec
  have hby := Bd.bytes
  have hml : c.maxLocals = 2 := hml0
  have hown : s.vm.findClass "java/lang/String" = some m.cls := findClass_of_methodNamed Bd.named
  have hnm := (name_of_methodNamed Bd.named Bd.method).1
  have X0 : Stand p l e ({ frames := 1, cells := 0, slots := 0, locals := 14 } : Room) s m #[(.int (Int32.ofNat i)), (.int (Int32.ofNat n))] below meth c s₁ [] 0 0 := Stand.of_body Bd
  have e0 : s₁.heap = h0 := by rw [← hh, Bd.state]; rfl
  have N0 := Fr.nil n0
  have eF : entryFrame m #[(.int (Int32.ofNat i)), (.int (Int32.ofNat n))] 2 = mkF m 0 #[.val (.int (Int32.ofNat i)), .val (.int (Int32.ofNat n))] [] := by first | (simp [entryFrame, mkF, argsToLocals, Value.category]; done) | rfl
  show Ends p e below s ({ frames := 1, cells := 0, slots := 0, locals := 14 } : Room) (Q_str_chk Z i n fv h0 n0) (s₁.setTop (entryFrame m #[(.int (Int32.ofNat i)), (.int (Int32.ofNat n))] 2))
  rw [eF]
  refine Ends.of (F' := s₁.setTop (mkF m 2 #[.val (.int (Int32.ofNat i)), .val (.int (Int32.ofNat n))] [(.int (Int32.ofNat n)), (.int (Int32.ofNat i))])) (fun _ kt => ?_) ?_
  · show Steps p.tables e below (s₁.setTop (mkF m 0 #[.val (.int (Int32.ofNat i)), .val (.int (Int32.ofNat n))] [])) _
    refine XS.iloadN X0.here hx rfl (hb hby d32_0) rfl ?_
    show Steps p.tables e below (s₁.setTop (mkF m 1 #[.val (.int (Int32.ofNat i)), .val (.int (Int32.ofNat n))] [(.int (Int32.ofNat i))])) _
    refine XS.iloadN X0.here hx rfl (hb hby d32_1) rfl ?_
    exact kt
  rcases hfv with rfl | ⟨x, rfl⟩
  · obtain ⟨T73, X73, e73, st73⟩ := getS2 X0 hx hZ hown (host := "") (Or.inl (hw _ (List.mem_of_getElem? (i := 173) rfl))) Via.refl e0 (S1.ext O.2) (g := (mkF m 2 #[.val (.int (Int32.ofNat i)), .val (.int (Int32.ofNat n))] [(.int (Int32.ofNat n)), (.int (Int32.ofNat i))])) rfl (hb hby d32_2)
    refine Ends.of st73 ?_
    obtain ⟨_, _, ⟨T74, L74, k74, n74⟩, -, X74, ⟨Lc74, hQ74, l74, y74, z74⟩, st74⟩ := Jvm.LawKit.callS X73 hx (y := (⟨"jdk/internal/util/Preconditions", "checkIndex", "(IILjava/util/function/BiFunction;)I"⟩ : MethodName)) hown (mvT hZ (hw _ (List.mem_of_getElem? (i := 175) rfl))) (mvT hZ (hw _ (List.mem_of_getElem? (i := 176) rfl))) (mvT hZ (hw _ (List.mem_of_getElem? (i := 174) rfl))) (mvT hZ (hw _ (List.mem_of_getElem? (i := 177) rfl))) (by decide) (backOf (W := 0) (pre_chkN l Z a0 hw [] i n  h0 n0 Z0 hi hn) hZ (hw _ (List.mem_of_getElem? (i := 177) rfl)) (hw _ (List.mem_of_getElem? (i := 174) rfl)) (by decide) (by decide)) (g := (mkF m 5 #[.val (.int (Int32.ofNat i)), .val (.int (Int32.ofNat n))] [.null, (.int (Int32.ofNat n)), (.int (Int32.ofNat i))])) rfl (by rw [hml]; rfl) (argsL := [(.int (Int32.ofNat i)), (.int (Int32.ofNat n)), .null]) (rest := []) (lenOf pd_22 rfl) rfl (by show 2 * 0 + _ ≤ _; exact Nat.le_of_eq rfl) (hb hby d32_5) (fun _ _ => ⟨rfl, e73, (by decide : 0 + 0 ≤ _), (by decide : 0 + 0 ≤ _)⟩)
    dsimp only [Pt.U, Pt.locs, Pt.cells, Pt.slots] at X74 l74 y74 z74 st74 hQ74
    subst l74 y74 z74
    obtain ⟨rfl, N74q, e74⟩ := hQ74
    have N74 := Fr.app N0 N74q
    refine Ends.of st74 ?_
    refine Ends.of (F' := T74.setTop (mkF m 9 #[.val (.int (Int32.ofNat i)), .val (.int (Int32.ofNat n))] [])) (fun _ kt => ?_) ?_
    · show Steps p.tables e below (T74.setTop (mkF m 8 #[.val (.int (Int32.ofNat i)), .val (.int (Int32.ofNat n))] [(.int (Int32.ofNat i))])) _
      refine XS.pop X74.here hx rfl (hb hby d32_8) rfl rfl ?_
      exact kt
    obtain ⟨fs, hr, hrun, hended, hW, hsame⟩ := X74.leave (v := none) (fun _ => rfl)
    exact ⟨_, _, X74.returnOut hx Bd.returns (hb hby d32_9) hr, hrun, hended, _, _, rfl, ⟨rfl, N74, e74⟩, ⟨_, rfl⟩, hW, hsame.mono (by decide) (by decide)⟩
  · obtain ⟨T75, X75, e75, st75⟩ := getS2 X0 hx hZ hown (host := "") (Or.inl (hw _ (List.mem_of_getElem? (i := 173) rfl))) Via.refl e0 (S1.ext O.2) (g := (mkF m 2 #[.val (.int (Int32.ofNat i)), .val (.int (Int32.ofNat n))] [(.int (Int32.ofNat n)), (.int (Int32.ofNat i))])) rfl (hb hby d32_2)
    refine Ends.of st75 ?_
    obtain ⟨_, _, ⟨T76, L76, k76, n76⟩, -, X76, ⟨Lc76, hQ76, l76, y76, z76⟩, st76⟩ := Jvm.LawKit.callS X75 hx (y := (⟨"jdk/internal/util/Preconditions", "checkIndex", "(IILjava/util/function/BiFunction;)I"⟩ : MethodName)) hown (mvT hZ (hw _ (List.mem_of_getElem? (i := 175) rfl))) (mvT hZ (hw _ (List.mem_of_getElem? (i := 176) rfl))) (mvT hZ (hw _ (List.mem_of_getElem? (i := 174) rfl))) (mvT hZ (hw _ (List.mem_of_getElem? (i := 177) rfl))) (by decide) (backOf (W := 0) (pre_chkR l Z a0 hw [] i n x h0 n0 Z0 hi hn) hZ (hw _ (List.mem_of_getElem? (i := 177) rfl)) (hw _ (List.mem_of_getElem? (i := 174) rfl)) (by decide) (by decide)) (g := (mkF m 5 #[.val (.int (Int32.ofNat i)), .val (.int (Int32.ofNat n))] [(.ref x), (.int (Int32.ofNat n)), (.int (Int32.ofNat i))])) rfl (by rw [hml]; rfl) (argsL := [(.int (Int32.ofNat i)), (.int (Int32.ofNat n)), (.ref x)]) (rest := []) (lenOf pd_22 rfl) rfl (by show 2 * 0 + _ ≤ _; exact Nat.le_of_eq rfl) (hb hby d32_5) (fun _ _ => ⟨rfl, e75, (by decide : 0 + 0 ≤ _), (by decide : 0 + 0 ≤ _)⟩)
    dsimp only [Pt.U, Pt.locs, Pt.cells, Pt.slots] at X76 l76 y76 z76 st76 hQ76
    subst l76 y76 z76
    obtain ⟨rfl, N76q, e76⟩ := hQ76
    have N76 := Fr.app N0 N76q
    refine Ends.of st76 ?_
    refine Ends.of (F' := T76.setTop (mkF m 9 #[.val (.int (Int32.ofNat i)), .val (.int (Int32.ofNat n))] [])) (fun _ kt => ?_) ?_
    · show Steps p.tables e below (T76.setTop (mkF m 8 #[.val (.int (Int32.ofNat i)), .val (.int (Int32.ofNat n))] [(.int (Int32.ofNat i))])) _
      refine XS.pop X76.here hx rfl (hb hby d32_8) rfl rfl ?_
      exact kt
    obtain ⟨fs, hr, hrun, hended, hW, hsame⟩ := X76.leave (v := none) (fun _ => rfl)
    exact ⟨_, _, X76.returnOut hx Bd.returns (hb hby d32_9) hr, hrun, hended, _, _, rfl, ⟨rfl, N76, e76⟩, ⟨_, rfl⟩, hW, hsame.mono (by decide) (by decide)⟩
theorem d31_0 : decode jdk_43_method_2_code 0 = .ok (.iload_n 1, 1) := by decide +kernel
theorem d31_1 : decode jdk_43_method_2_code 1 = .ok (.aload_n 0, 1) := by decide +kernel
theorem d31_2 : decode jdk_43_method_2_code 2 = .ok (.arraylength, 1) := by decide +kernel
theorem d31_3 : decode jdk_43_method_2_code 3 = .ok (.invokestatic 9, 3) := by decide +kernel
theorem d31_6 : decode jdk_43_method_2_code 6 = .ok (.aload_n 0, 1) := by decide +kernel
theorem d31_7 : decode jdk_43_method_2_code 7 = .ok (.iload_n 1, 1) := by decide +kernel
theorem d31_8 : decode jdk_43_method_2_code 8 = .ok (.baload, 1) := by decide +kernel
theorem d31_9 : decode jdk_43_method_2_code 9 = .ok (.sipush 255, 3) := by decide +kernel
theorem d31_12 : decode jdk_43_method_2_code 12 = .ok (.iand, 1) := by decide +kernel
theorem d31_13 : decode jdk_43_method_2_code 13 = .ok (.i2c, 1) := by decide +kernel
theorem d31_14 : decode jdk_43_method_2_code 14 = .ok (.ireturn, 1) := by decide +kernel
def Q_lat_charAt (Z : State) (b : Addr) (i : Nat) (n : Nat) (f : Nat → Int32) (ch : Int32) (fv : Value) (h0 : Heap) (n0 : Nat) (v : Option Value) (h : Heap) (L : List Loc) : Prop := v = some (.int ch) ∧ Fr n0 L ∧ h = h0
set_option maxRecDepth 65536 in
set_option maxHeartbeats 40000000 in
theorem lat_charAt (l : Launch) (Z : State) (a0 : Array Value) (hw : ∀ d ∈ tables_1, d.before a0 Z = true) (ws : List Jvm.Cond) (b : Addr) (i : Nat) (n : Nat) (f : Nat → Int32) (ch : Int32) (fv : Value) (h0 : Heap) (n0 : Nat) (Z0 : n0 ≤ h0.size) (S1 : Sta Z Z.heap "jdk/internal/util/Preconditions" "SIOOBE_FORMATTER" "Ljava/util/function/BiFunction;" fv) (hfv : fv = .null ∨ ∃ x : Addr, fv = .ref x) (O : Old Z n0 h0) (D : Ary .byte Z h0 b n f) (hi : i < n) (hch : ((f i) &&& (255 : Int32)).toUInt32.toUInt16.toUInt32.toInt32 = ch) (hnc : nar .char ch = ch) :
    MetFree l (⟨"java/lang/StringLatin1", "charAt", "([BI)C"⟩ : MethodName) (head1 (Jvm.Cond.code (⟨"java/lang/StringLatin1", "charAt", "([BI)C"⟩ : MethodName) jdk_43_method_2_code 2 (some .char) :: ws) ({ frames := 2, cells := 0, slots := 0, locals := 27 } : Room)) (fun a U => a = #[(.ref b), (.int (Int32.ofNat i))] ∧ Z.Warmed39 U.vm ∧ U.heap = h0) (fun _ _ _ _ _ => True) (fun _ U o U' => ∃ v L, o = .returned v ∧ Q_lat_charAt Z b i n f ch fv h0 n0 v U'.heap L ∧ FrameEnd U o U' L ({ frames := 2, cells := 0, slots := 0, locals := 27 } : Room).cells ({ frames := 2, cells := 0, slots := 0, locals := 27 } : Room).slots) := by
  refine MetFree.of_bodySF (plainFor_of_name pn_1) hisR ?_
  intro p e s m args below meth c s₁ Bd hml0 hP hK
  obtain ⟨rfl, hZ, hh⟩ := hP
  have hx := Bd.exec
  have hby := Bd.bytes
  have hml : c.maxLocals = 2 := hml0
  have hown : s.vm.findClass "java/lang/StringLatin1" = some m.cls := findClass_of_methodNamed Bd.named
  have hnm := (name_of_methodNamed Bd.named Bd.method).1
  have X0 : Stand p l e ({ frames := 2, cells := 0, slots := 0, locals := 27 } : Room) s m #[(.ref b), (.int (Int32.ofNat i))] below meth c s₁ [] 0 0 := Stand.of_body Bd
  have e0 : s₁.heap = h0 := by rw [← hh, Bd.state]; rfl
  have N0 := Fr.nil n0
  have eF : entryFrame m #[(.ref b), (.int (Int32.ofNat i))] 2 = mkF m 0 #[.val (.ref b), .val (.int (Int32.ofNat i))] [] := by first | (simp [entryFrame, mkF, argsToLocals, Value.category]; done) | rfl
  show Ends p e below s ({ frames := 2, cells := 0, slots := 0, locals := 27 } : Room) (Q_lat_charAt Z b i n f ch fv h0 n0) (s₁.setTop (entryFrame m #[(.ref b), (.int (Int32.ofNat i))] 2))
  rw [eF]
  have hn := D.1
  obtain ⟨cb, Ab, Sb, Hb, -⟩ := D.op
  refine Ends.of (F' := s₁.setTop (mkF m 3 #[.val (.ref b), .val (.int (Int32.ofNat i))] [(.int (Int32.ofNat n)), (.int (Int32.ofNat i))])) (fun _ kt => ?_) ?_
  · show Steps p.tables e below (s₁.setTop (mkF m 0 #[.val (.ref b), .val (.int (Int32.ofNat i))] [])) _
    refine XS.iloadN X0.here hx rfl (hb hby d31_0) rfl ?_
    show Steps p.tables e below (s₁.setTop (mkF m 1 #[.val (.ref b), .val (.int (Int32.ofNat i))] [(.int (Int32.ofNat i))])) _
    refine XS.aloadN X0.here hx rfl (hb hby d31_1) rfl rfl ?_
    show Steps p.tables e below (s₁.setTop (mkF m 2 #[.val (.ref b), .val (.int (Int32.ofNat i))] [(.ref b), (.int (Int32.ofNat i))])) _
    refine X0.arraylength hx (by rw [e0]; exact Ab.1) (State.isArrayOf_alike hZ.alike Ab.2.1) (g := (mkF m 2 #[.val (.ref b), .val (.int (Int32.ofNat i))] [(.ref b), (.int (Int32.ofNat i))])) rfl rfl (hb hby d31_2) _ ?_
    rw [Sb]
    exact kt
  obtain ⟨_, _, ⟨T77, L77, k77, n77⟩, -, X77, ⟨Lc77, hQ77, l77, y77, z77⟩, st77⟩ := Jvm.LawKit.callS X0 hx (y := (⟨"java/lang/String", "checkIndex", "(II)V"⟩ : MethodName)) hown (mvT hZ (hw _ (List.mem_of_getElem? (i := 170) rfl))) (mvT hZ (hw _ (List.mem_of_getElem? (i := 171) rfl))) (mvT hZ (hw _ (List.mem_of_getElem? (i := 24) rfl))) (mvT hZ (hw _ (List.mem_of_getElem? (i := 172) rfl))) (by decide) (backOf (W := 0) (str_chk l Z a0 hw [] i n fv h0 n0 Z0 S1 hfv O hi hn) hZ (hw _ (List.mem_of_getElem? (i := 172) rfl)) (hw _ (List.mem_of_getElem? (i := 24) rfl)) (by decide) (by decide)) (g := (mkF m 3 #[.val (.ref b), .val (.int (Int32.ofNat i))] [(.int (Int32.ofNat n)), (.int (Int32.ofNat i))])) rfl (by rw [hml]; rfl) (argsL := [(.int (Int32.ofNat i)), (.int (Int32.ofNat n))]) (rest := []) (lenOf pd_13 rfl) rfl (by show 2 * 0 + _ ≤ _; exact Nat.le_of_eq rfl) (hb hby d31_3) (fun _ _ => ⟨rfl, e0, (by decide : 0 + 0 ≤ _), (by decide : 0 + 0 ≤ _)⟩)
  dsimp only [Pt.U, Pt.locs, Pt.cells, Pt.slots] at X77 l77 y77 z77 st77 hQ77
  subst l77 y77 z77
  obtain ⟨rfl, N77q, e77⟩ := hQ77
  have N77 := Fr.app N0 N77q
  refine Ends.of st77 ?_
  refine Ends.of (F' := T77.setTop (mkF m 14 #[.val (.ref b), .val (.int (Int32.ofNat i))] [(.int (((f i) &&& (255 : Int32)).toUInt32.toUInt16.toUInt32.toInt32))])) (fun _ kt => ?_) ?_
  · show Steps p.tables e below (T77.setTop (mkF m 6 #[.val (.ref b), .val (.int (Int32.ofNat i))] [])) _
    refine XS.aloadN X77.here hx rfl (hb hby d31_6) rfl rfl ?_
    show Steps p.tables e below (T77.setTop (mkF m 7 #[.val (.ref b), .val (.int (Int32.ofNat i))] [(.ref b)])) _
    refine XS.iloadN X77.here hx rfl (hb hby d31_7) rfl ?_
    show Steps p.tables e below (T77.setTop (mkF m 8 #[.val (.ref b), .val (.int (Int32.ofNat i))] [(.int (Int32.ofNat i)), (.ref b)])) _
    refine X77.baloadBytes hx (j := (Int32.ofNat i)) (v := (.int (f i))) (by rw [e77]; exact Ab.1) (State.isArrayOf_alike hZ.alike Ab.2.1) Ab.2.2 (own_hin Sb rfl (by omega) (by omega)) (own_hat Hb rfl (by omega) (by omega)) (g := (mkF m 8 #[.val (.ref b), .val (.int (Int32.ofNat i))] [(.int (Int32.ofNat i)), (.ref b)])) rfl rfl (hb hby d31_8) _ ?_
    show Steps p.tables e below (T77.setTop (mkF m 9 #[.val (.ref b), .val (.int (Int32.ofNat i))] [(.int (f i))])) _
    refine XS.sipush X77.here hx rfl (hb hby d31_9) ?_
    show Steps p.tables e below (T77.setTop (mkF m 12 #[.val (.ref b), .val (.int (Int32.ofNat i))] [(.int (255 : Int32)), (.int (f i))])) _
    refine XS.iand X77.here hx rfl (hb hby d31_12) rfl ?_
    show Steps p.tables e below (T77.setTop (mkF m 13 #[.val (.ref b), .val (.int (Int32.ofNat i))] [(.int ((f i) &&& (255 : Int32)))])) _
    refine XS.i2c X77.here hx rfl (hb hby d31_13) rfl ?_
    exact kt
  rw [hch]
  obtain ⟨fs, hr, hrun, hended, hW, hsame⟩ := X77.leave (v := some (.int (nar .char ch))) (fun h => by rw [Bd.returns] at h; cases h)
  exact ⟨_, _, retN X77 hx (t := .char) Bd.returns (by simp) (hb hby d31_14) hr, hrun, hended, _, _, rfl, ⟨by rw [hnc], N77, e77⟩, ⟨_, rfl⟩, hW, hsame.mono (by decide) (by decide)⟩
theorem d30_0 : decode jdk_42_method_154_code 0 = .ok (.getstatic 38, 3) := by decide +kernel
theorem d30_3 : decode jdk_42_method_154_code 3 = .ok (.ifCond .eq 14, 3) := by decide +kernel
theorem d30_6 : decode jdk_42_method_154_code 6 = .ok (.aload_n 0, 1) := by decide +kernel
theorem d30_7 : decode jdk_42_method_154_code 7 = .ok (.getfield 15, 3) := by decide +kernel
theorem d30_10 : decode jdk_42_method_154_code 10 = .ok (.ifCond .ne 7, 3) := by decide +kernel
theorem d30_13 : decode jdk_42_method_154_code 13 = .ok (.iconst 1, 1) := by decide +kernel
theorem d30_14 : decode jdk_42_method_154_code 14 = .ok (.goto 4, 3) := by decide +kernel
theorem d30_17 : decode jdk_42_method_154_code 17 = .ok (.iconst 0, 1) := by decide +kernel
theorem d30_18 : decode jdk_42_method_154_code 18 = .ok (.ireturn, 1) := by decide +kernel
def Q_str_lat (Z : State) (a1 : Addr) (cs : Int32) (h0 : Heap) (n0 : Nat) (v : Option Value) (h : Heap) (L : List Loc) : Prop := v = some (.int (1 : Int32)) ∧ Fr n0 L ∧ h = h0
set_option maxRecDepth 65536 in
set_option maxHeartbeats 40000000 in
theorem str_lat (l : Launch) (Z : State) (a0 : Array Value) (hw : ∀ d ∈ tables_1, d.before a0 Z = true) (ws : List Jvm.Cond) (a1 : Addr) (cs : Int32) (h0 : Heap) (n0 : Nat) (Z0 : n0 ≤ h0.size) (S0 : Sta Z Z.heap "java/lang/String" "COMPACT_STRINGS" "Z" (.int cs)) (hcs : ¬ cs = (0 : Int32)) (O : Old Z n0 h0) (F_c : Fld Z h0 a1 "java/lang/String" "coder" "B" (.int (0 : Int32))) :
    MetFree l (⟨"java/lang/String", "isLatin1", "()Z"⟩ : MethodName) (head1 (Jvm.Cond.code (⟨"java/lang/String", "isLatin1", "()Z"⟩ : MethodName) jdk_42_method_154_code 1 (some .boolean) :: ws) ({ frames := 0, cells := 0, slots := 0, locals := 0 } : Room)) (fun a U => a = #[(.ref a1)] ∧ Z.Warmed39 U.vm ∧ U.heap = h0) (fun _ _ _ _ _ => True) (fun _ U o U' => ∃ v L, o = .returned v ∧ Q_str_lat Z a1 cs h0 n0 v U'.heap L ∧ FrameEnd U o U' L ({ frames := 0, cells := 0, slots := 0, locals := 0 } : Room).cells ({ frames := 0, cells := 0, slots := 0, locals := 0 } : Room).slots) := by
  refine MetFree.of_bodySF (plainFor_of_name pn_0) hisR ?_
  intro p e s m args below meth c s₁ Bd hml0 hP hK
  obtain ⟨rfl, hZ, hh⟩ := hP
  have hx := Bd.exec
  have hby := Bd.bytes
  have hml : c.maxLocals = 1 := hml0
  have hown : s.vm.findClass "java/lang/String" = some m.cls := findClass_of_methodNamed Bd.named
  have hnm := (name_of_methodNamed Bd.named Bd.method).1
  have X0 : Stand p l e ({ frames := 0, cells := 0, slots := 0, locals := 0 } : Room) s m #[(.ref a1)] below meth c s₁ [] 0 0 := Stand.of_body Bd
  have e0 : s₁.heap = h0 := by rw [← hh, Bd.state]; rfl
  have N0 := Fr.nil n0
  have eF : entryFrame m #[(.ref a1)] 1 = mkF m 0 #[.val (.ref a1)] [] := by first | (simp [entryFrame, mkF, argsToLocals, Value.category]; done) | rfl
  show Ends p e below s ({ frames := 0, cells := 0, slots := 0, locals := 0 } : Room) (Q_str_lat Z a1 cs h0 n0) (s₁.setTop (entryFrame m #[(.ref a1)] 1))
  rw [eF]
  obtain ⟨T78, X78, e78, st78⟩ := getS2 X0 hx hZ hown (host := "") (Or.inl (hw _ (List.mem_of_getElem? (i := 130) rfl))) Via.refl e0 (S0.ext O.2) (g := (mkF m 0 #[.val (.ref a1)] [])) rfl (hb hby d30_0)
  refine Ends.of st78 ?_
  refine Ends.of (F' := T78.setTop (mkF m 7 #[.val (.ref a1)] [(.ref a1)])) (fun _ kt => ?_) ?_
  · show Steps p.tables e below (T78.setTop (mkF m 3 #[.val (.ref a1)] [(.int cs)])) _
    refine XS.ifNo X78.here hx rfl (hb hby d30_3) rfl ((if0 _ _).trans (feq hcs).1) ?_
    show Steps p.tables e below (T78.setTop (mkF m 6 #[.val (.ref a1)] [])) _
    refine XS.aloadN X78.here hx rfl (hb hby d30_6) rfl rfl ?_
    exact kt
  obtain ⟨T79, X79, e79, st79⟩ := getF X78 hx hZ hown (host := "") (Or.inl (hw _ (List.mem_of_getElem? (i := 99) rfl))) Via.refl e78 F_c (g := (mkF m 7 #[.val (.ref a1)] [(.ref a1)])) rfl rfl (hb hby d30_7)
  refine Ends.of st79 ?_
  refine Ends.of (F' := T79.setTop (mkF m 18 #[.val (.ref a1)] [(.int (1 : Int32))])) (fun _ kt => ?_) ?_
  · show Steps p.tables e below (T79.setTop (mkF m 10 #[.val (.ref a1)] [(.int (0 : Int32))])) _
    refine XS.ifNo X79.here hx rfl (hb hby d30_10) rfl ((if0 _ _).trans (teq rfl).2) ?_
    show Steps p.tables e below (T79.setTop (mkF m 13 #[.val (.ref a1)] [])) _
    refine XS.iconst X79.here hx rfl (hb hby d30_13) ?_
    show Steps p.tables e below (T79.setTop (mkF m 14 #[.val (.ref a1)] [(.int (1 : Int32))])) _
    refine XS.goto X79.here hx rfl (pc0 := 14) (pc' := 18) rfl (hb hby d30_14) (by decide) (by decide) ?_
    exact kt
  obtain ⟨fs, hr, hrun, hended, hW, hsame⟩ := X79.leave (v := some (.int (1 : Int32))) (fun h => by rw [Bd.returns] at h; cases h)
  exact ⟨_, _, retN X79 hx (t := .boolean) Bd.returns (by simp) (hb hby d30_18) hr, hrun, hended, _, _, rfl, ⟨rfl, N0, e79⟩, ⟨_, rfl⟩, hW, hsame.mono (by decide) (by decide)⟩
theorem d29_0 : decode jdk_42_method_56_code 0 = .ok (.aload_n 0, 1) := by decide +kernel
theorem d29_1 : decode jdk_42_method_56_code 1 = .ok (.invokevirtual 492, 3) := by decide +kernel
theorem d29_4 : decode jdk_42_method_56_code 4 = .ok (.ifCond .eq 12, 3) := by decide +kernel
theorem d29_7 : decode jdk_42_method_56_code 7 = .ok (.aload_n 0, 1) := by decide +kernel
theorem d29_8 : decode jdk_42_method_56_code 8 = .ok (.getfield 9, 3) := by decide +kernel
theorem d29_11 : decode jdk_42_method_56_code 11 = .ok (.iload_n 1, 1) := by decide +kernel
theorem d29_12 : decode jdk_42_method_56_code 12 = .ok (.invokestatic 495, 3) := by decide +kernel
theorem d29_15 : decode jdk_42_method_56_code 15 = .ok (.ireturn, 1) := by decide +kernel
theorem d29_16 : decode jdk_42_method_56_code 16 = .ok (.aload_n 0, 1) := by decide +kernel
theorem d29_17 : decode jdk_42_method_56_code 17 = .ok (.getfield 9, 3) := by decide +kernel
theorem d29_20 : decode jdk_42_method_56_code 20 = .ok (.iload_n 1, 1) := by decide +kernel
theorem d29_21 : decode jdk_42_method_56_code 21 = .ok (.invokestatic 498, 3) := by decide +kernel
theorem d29_24 : decode jdk_42_method_56_code 24 = .ok (.ireturn, 1) := by decide +kernel
def Q_str_charAt (Z : State) (a1 : Addr) (b : Addr) (i : Nat) (n : Nat) (f : Nat → Int32) (ch : Int32) (cs : Int32) (fv : Value) (h0 : Heap) (n0 : Nat) (v : Option Value) (h : Heap) (L : List Loc) : Prop := v = some (.int ch) ∧ Fr n0 L ∧ h = h0
set_option maxRecDepth 65536 in
set_option maxHeartbeats 40000000 in
theorem str_charAt (l : Launch) (Z : State) (a0 : Array Value) (hw : ∀ d ∈ tables_1, d.before a0 Z = true) (ws : List Jvm.Cond) (a1 : Addr) (b : Addr) (i : Nat) (n : Nat) (f : Nat → Int32) (ch : Int32) (cs : Int32) (fv : Value) (h0 : Heap) (n0 : Nat) (Z0 : n0 ≤ h0.size) (S0 : Sta Z Z.heap "java/lang/String" "COMPACT_STRINGS" "Z" (.int cs)) (hcs : ¬ cs = (0 : Int32)) (O : Old Z n0 h0) (S1 : Sta Z Z.heap "jdk/internal/util/Preconditions" "SIOOBE_FORMATTER" "Ljava/util/function/BiFunction;" fv) (hfv : fv = .null ∨ ∃ x : Addr, fv = .ref x) (F : Str Z h0 a1 b n f) (hi : i < n) (hch : ((f i) &&& (255 : Int32)).toUInt32.toUInt16.toUInt32.toInt32 = ch) (hnc : nar .char ch = ch) :
    MetFree l (⟨"java/lang/String", "charAt", "(I)C"⟩ : MethodName) (head1 (Jvm.Cond.code (⟨"java/lang/String", "charAt", "(I)C"⟩ : MethodName) jdk_42_method_56_code 2 (some .char) :: ws) ({ frames := 3, cells := 0, slots := 0, locals := 40 } : Room)) (fun a U => a = #[(.ref a1), (.int (Int32.ofNat i))] ∧ Z.Warmed39 U.vm ∧ U.heap = h0) (fun _ _ _ _ _ => True) (fun _ U o U' => ∃ v L, o = .returned v ∧ Q_str_charAt Z a1 b i n f ch cs fv h0 n0 v U'.heap L ∧ FrameEnd U o U' L ({ frames := 3, cells := 0, slots := 0, locals := 40 } : Room).cells ({ frames := 3, cells := 0, slots := 0, locals := 40 } : Room).slots) := by
  refine MetFree.of_bodySF (plainFor_of_name pn_0) hisR ?_
  intro p e s m args below meth c s₁ Bd hml0 hP hK
  obtain ⟨rfl, hZ, hh⟩ := hP
  have hx := Bd.exec
  have hby := Bd.bytes
  have hml : c.maxLocals = 2 := hml0
  have hown : s.vm.findClass "java/lang/String" = some m.cls := findClass_of_methodNamed Bd.named
  have hnm := (name_of_methodNamed Bd.named Bd.method).1
  have X0 : Stand p l e ({ frames := 3, cells := 0, slots := 0, locals := 40 } : Room) s m #[(.ref a1), (.int (Int32.ofNat i))] below meth c s₁ [] 0 0 := Stand.of_body Bd
  have e0 : s₁.heap = h0 := by rw [← hh, Bd.state]; rfl
  have N0 := Fr.nil n0
  have eF : entryFrame m #[(.ref a1), (.int (Int32.ofNat i))] 2 = mkF m 0 #[.val (.ref a1), .val (.int (Int32.ofNat i))] [] := by first | (simp [entryFrame, mkF, argsToLocals, Value.category]; done) | rfl
  show Ends p e below s ({ frames := 3, cells := 0, slots := 0, locals := 40 } : Room) (Q_str_charAt Z a1 b i n f ch cs fv h0 n0) (s₁.setTop (entryFrame m #[(.ref a1), (.int (Int32.ofNat i))] 2))
  rw [eF]
  refine Ends.of (F' := s₁.setTop (mkF m 1 #[.val (.ref a1), .val (.int (Int32.ofNat i))] [(.ref a1)])) (fun _ kt => ?_) ?_
  · show Steps p.tables e below (s₁.setTop (mkF m 0 #[.val (.ref a1), .val (.int (Int32.ofNat i))] [])) _
    refine XS.aloadN X0.here hx rfl (hb hby d29_0) rfl rfl ?_
    exact kt
  obtain ⟨cq80, kq80, q80a, q80b, q80c⟩ := isOf hZ e0 F.1
  obtain ⟨_, _, ⟨T80, L80, k80, n80⟩, -, X80, ⟨Lc80, hQ80, l80, y80, z80⟩, st80⟩ := X0.virtualBack hx (y := (⟨"java/lang/String", "isLatin1", "()Z"⟩ : MethodName)) (z := (⟨"java/lang/String", "isLatin1", "()Z"⟩ : MethodName)) hown (mvT hZ (hw _ (List.mem_of_getElem? (i := 162) rfl))) (mvT hZ (hw _ (List.mem_of_getElem? (i := 163) rfl))) (notFace_of_selects (args := #[]) (mvT hZ (hw _ (List.mem_of_getElem? (i := 165) rfl)))) (mvT hZ (hw _ (List.mem_of_getElem? (i := 165) rfl))) (mvT hZ (hw _ (List.mem_of_getElem? (i := 164) rfl))) (by decide) (backOf (W := 0) (str_lat l Z a0 hw [] a1 cs h0 n0 Z0 S0 hcs O F.2.1) hZ (hw _ (List.mem_of_getElem? (i := 166) rfl)) (hw _ (List.mem_of_getElem? (i := 24) rfl)) (by decide) (by decide)) q80a q80c (g := (mkF m 1 #[.val (.ref a1), .val (.int (Int32.ofNat i))] [(.ref a1)])) rfl (by rw [hml]; rfl) (Steps.refl _) (argsL := []) (rest := []) (lenOf pd_5 rfl) rfl (by show 2 * 0 + _ ≤ _; exact Nat.le_of_eq rfl) (hb hby d29_1) (fun _ _ => ⟨rfl, e0, (by decide : 0 + 0 ≤ _), (by decide : 0 + 0 ≤ _)⟩)
  dsimp only [Pt.U, Pt.locs, Pt.cells, Pt.slots] at X80 l80 y80 z80 st80 hQ80
  subst l80 y80 z80
  obtain ⟨rfl, N80q, e80⟩ := hQ80
  have N80 := Fr.app N0 N80q
  refine Ends.st st80 ?_
  refine Ends.of (F' := T80.setTop (mkF m 8 #[.val (.ref a1), .val (.int (Int32.ofNat i))] [(.ref a1)])) (fun _ kt => ?_) ?_
  · show Steps p.tables e below (T80.setTop (mkF m 4 #[.val (.ref a1), .val (.int (Int32.ofNat i))] [(.int (1 : Int32))])) _
    refine XS.ifNo X80.here hx rfl (hb hby d29_4) rfl ((if0 _ _).trans (feq (by decide)).1) ?_
    show Steps p.tables e below (T80.setTop (mkF m 7 #[.val (.ref a1), .val (.int (Int32.ofNat i))] [])) _
    refine XS.aloadN X80.here hx rfl (hb hby d29_7) rfl rfl ?_
    exact kt
  obtain ⟨T81, X81, e81, st81⟩ := getF X80 hx hZ hown (host := "") (Or.inl (hw _ (List.mem_of_getElem? (i := 119) rfl))) Via.refl e80 F.2.2.1 (g := (mkF m 8 #[.val (.ref a1), .val (.int (Int32.ofNat i))] [(.ref a1)])) rfl rfl (hb hby d29_8)
  refine Ends.of st81 ?_
  refine Ends.of (F' := T81.setTop (mkF m 12 #[.val (.ref a1), .val (.int (Int32.ofNat i))] [(.int (Int32.ofNat i)), (.ref b)])) (fun _ kt => ?_) ?_
  · show Steps p.tables e below (T81.setTop (mkF m 11 #[.val (.ref a1), .val (.int (Int32.ofNat i))] [(.ref b)])) _
    refine XS.iloadN X81.here hx rfl (hb hby d29_11) rfl ?_
    exact kt
  obtain ⟨_, _, ⟨T82, L82, k82, n82⟩, -, X82, ⟨Lc82, hQ82, l82, y82, z82⟩, st82⟩ := Jvm.LawKit.callS X81 hx (y := (⟨"java/lang/StringLatin1", "charAt", "([BI)C"⟩ : MethodName)) hown (mvT hZ (hw _ (List.mem_of_getElem? (i := 167) rfl))) (mvT hZ (hw _ (List.mem_of_getElem? (i := 168) rfl))) (mvT hZ (hw _ (List.mem_of_getElem? (i := 61) rfl))) (mvT hZ (hw _ (List.mem_of_getElem? (i := 169) rfl))) (by decide) (backOf (W := 0) (lat_charAt l Z a0 hw [] b i n f ch fv h0 n0 Z0 S1 hfv O F.2.2.2 hi hch hnc) hZ (hw _ (List.mem_of_getElem? (i := 169) rfl)) (hw _ (List.mem_of_getElem? (i := 61) rfl)) (by decide) (by decide)) (g := (mkF m 12 #[.val (.ref a1), .val (.int (Int32.ofNat i))] [(.int (Int32.ofNat i)), (.ref b)])) rfl (by rw [hml]; rfl) (argsL := [(.ref b), (.int (Int32.ofNat i))]) (rest := []) (lenOf pd_21 rfl) rfl (by show 2 * 0 + _ ≤ _; exact Nat.le_of_eq rfl) (hb hby d29_12) (fun _ _ => ⟨rfl, e81, (by decide : 0 + 0 ≤ _), (by decide : 0 + 0 ≤ _)⟩)
  dsimp only [Pt.U, Pt.locs, Pt.cells, Pt.slots] at X82 l82 y82 z82 st82 hQ82
  subst l82 y82 z82
  obtain ⟨rfl, N82q, e82⟩ := hQ82
  have N82 := Fr.app N80 N82q
  refine Ends.of st82 ?_
  obtain ⟨fs, hr, hrun, hended, hW, hsame⟩ := X82.leave (v := some (.int (nar .char ch))) (fun h => by rw [Bd.returns] at h; cases h)
  exact ⟨_, _, retN X82 hx (t := .char) Bd.returns (by simp) (hb hby d29_15) hr, hrun, hended, _, _, rfl, ⟨by rw [hnc], N82, e82⟩, ⟨_, rfl⟩, hW, hsame.mono (by decide) (by decide)⟩
theorem d1_0 : decode prog_55_method_1_code 0 = .ok (.aload_n 0, 1) := by decide +kernel
theorem d1_1 : decode prog_55_method_1_code 1 = .ok (.invokespecial 1, 3) := by decide +kernel
theorem d1_4 : decode prog_55_method_1_code 4 = .ok (.aload_n 0, 1) := by decide +kernel
theorem d1_5 : decode prog_55_method_1_code 5 = .ok (.new 7, 3) := by decide +kernel
theorem d1_8 : decode prog_55_method_1_code 8 = .ok (.dup, 1) := by decide +kernel
theorem d1_9 : decode prog_55_method_1_code 9 = .ok (.sipush 256, 3) := by decide +kernel
theorem d1_12 : decode prog_55_method_1_code 12 = .ok (.invokespecial 9, 3) := by decide +kernel
theorem d1_15 : decode prog_55_method_1_code 15 = .ok (.putfield 12, 3) := by decide +kernel
theorem d1_18 : decode prog_55_method_1_code 18 = .ok (.return_, 1) := by decide +kernel
theorem pn_6 : plainName "com/example/tenantd/tenantd/server/JsonWriter" = true := by first | (simp [plainName, overriddenIn]; done) | decide +kernel
def Q_jw_init (Z : State) (w : Addr) (cs : Int32) (h0 : Heap) (n0 : Nat) (v : Option Value) (h : Heap) (L : List Loc) : Prop := v = none ∧ Fr n0 L ∧ Keep h0 h [w] ∧ ∃ a b : Addr, JWr Z h w a b [] (0 : Int32) ∧ h0.size ≤ a ∧ h0.size ≤ b
set_option maxRecDepth 65536 in
set_option maxHeartbeats 40000000 in
theorem jw_init (l : Launch) (Z : State) (a0 : Array Value) (hw : ∀ d ∈ tables_1, d.before a0 Z = true) (ws : List Jvm.Cond) (w : Addr) (cs : Int32) (h0 : Heap) (n0 : Nat) (Z0 : n0 ≤ h0.size) (S0 : Sta Z Z.heap "java/lang/String" "COMPACT_STRINGS" "Z" (.int cs)) (hcs : ¬ cs = (0 : Int32)) (O : Old Z n0 h0) (E_w : Exa Z h0 w "com/example/tenantd/tenantd/server/JsonWriter") (F_t : Fld Z h0 w "com/example/tenantd/tenantd/server/JsonWriter" "text" "Ljava/lang/StringBuilder;" .null) (F_a : Fld Z h0 w "com/example/tenantd/tenantd/server/JsonWriter" "afterValue" "Z" (.int (0 : Int32))) (g_w : n0 ≤ w) :
    MetFree l (⟨"com/example/tenantd/tenantd/server/JsonWriter", "<init>", "()V"⟩ : MethodName) (head1 (Jvm.Cond.code (⟨"com/example/tenantd/tenantd/server/JsonWriter", "<init>", "()V"⟩ : MethodName) prog_55_method_1_code 1 none :: ws) ({ frames := 3, cells := 2, slots := 260, locals := 40 } : Room)) (fun a U => a = #[(.ref w)] ∧ Z.Warmed39 U.vm ∧ U.heap = h0) (fun _ _ _ _ _ => True) (fun _ U o U' => ∃ v L, o = .returned v ∧ Q_jw_init Z w cs h0 n0 v U'.heap L ∧ FrameEnd U o U' L ({ frames := 3, cells := 2, slots := 260, locals := 40 } : Room).cells ({ frames := 3, cells := 2, slots := 260, locals := 40 } : Room).slots) := by
  refine MetFree.of_bodySF (plainFor_of_name pn_6) hisR ?_
  intro p e s m args below meth c s₁ Bd hml0 hP hK
  obtain ⟨rfl, hZ, hh⟩ := hP
  have hx := Bd.exec
  have hby := Bd.bytes
  have hml : c.maxLocals = 1 := hml0
  have hown : s.vm.findClass "com/example/tenantd/tenantd/server/JsonWriter" = some m.cls := findClass_of_methodNamed Bd.named
  have hnm := (name_of_methodNamed Bd.named Bd.method).1
  have X0 : Stand p l e ({ frames := 3, cells := 2, slots := 260, locals := 40 } : Room) s m #[(.ref w)] below meth c s₁ [] 0 0 := Stand.of_body Bd
  have e0 : s₁.heap = h0 := by rw [← hh, Bd.state]; rfl
  have N0 := Fr.nil n0
  have eF : entryFrame m #[(.ref w)] 1 = mkF m 0 #[.val (.ref w)] [] := by first | (simp [entryFrame, mkF, argsToLocals, Value.category]; done) | rfl
  show Ends p e below s ({ frames := 3, cells := 2, slots := 260, locals := 40 } : Room) (Q_jw_init Z w cs h0 n0) (s₁.setTop (entryFrame m #[(.ref w)] 1))
  rw [eF]
  refine Ends.of (F' := s₁.setTop (mkF m 1 #[.val (.ref w)] [(.ref w)])) (fun _ kt => ?_) ?_
  · show Steps p.tables e below (s₁.setTop (mkF m 0 #[.val (.ref w)] [])) _
    refine XS.aloadN X0.here hx rfl (hb hby d1_0) rfl rfl ?_
    exact kt
  obtain ⟨T83, X83, e83, st83⟩ := initO X0 hx hZ hown (hw _ (List.mem_of_getElem? (i := 7) rfl)) (hw _ (List.mem_of_getElem? (i := 8) rfl)) (hw _ (List.mem_of_getElem? (i := 9) rfl)) e0 (g := (mkF m 1 #[.val (.ref w)] [(.ref w)])) rfl (by rw [hml]; rfl) rfl (hb hby d1_1) (by decide) (W := 0) (by show 2 * 0 + _ ≤ _; exact Nat.le_of_eq rfl) (by decide)
  refine Ends.of st83 ?_
  refine Ends.of (F' := T83.setTop (mkF m 5 #[.val (.ref w)] [(.ref w)])) (fun _ kt => ?_) ?_
  · show Steps p.tables e below (T83.setTop (mkF m 4 #[.val (.ref w)] [])) _
    refine XS.aloadN X83.here hx rfl (hb hby d1_4) rfl rfl ?_
    exact kt
  obtain ⟨T84, h84, X84, e84, E84, A84, D84, -, st84⟩ := newO X83 hx hZ hown (hw _ (List.mem_of_getElem? (i := 10) rfl)) (hw _ (List.mem_of_getElem? (i := 11) rfl)) (hw _ (List.mem_of_getElem? (i := 12) rfl)) e83 (g := (mkF m 5 #[.val (.ref w)] [(.ref w)])) rfl (hb hby d1_5) (by decide) (by decide)
  obtain ⟨b84, g84⟩ : ∃ z, z = h0.size := ⟨_, rfl⟩
  rw [← g84] at A84 D84 st84
  have F_value_b84 : Fld Z h84 b84 "java/lang/AbstractStringBuilder" "value" "[B" .null := D84 (Or.inl (hw _ (List.mem_of_getElem? (i := 27) rfl))) (ty := (.array .byte)) (by decide)
  have F_coder_b84 : Fld Z h84 b84 "java/lang/AbstractStringBuilder" "coder" "B" (.int (0 : Int32)) := D84 (Or.inl (hw _ (List.mem_of_getElem? (i := 29) rfl))) (ty := .byte) (by decide)
  have F_count_b84 : Fld Z h84 b84 "java/lang/AbstractStringBuilder" "count" "I" (.int (0 : Int32)) := D84 (Or.inl (hw _ (List.mem_of_getElem? (i := 48) rfl))) (ty := .int) (by decide)
  refine Ends.of st84 ?_
  have Z1 : n0 ≤ h84.size := Nat.le_trans Z0 E84.1
  have gb : n0 ≤ b84 := Nat.le_trans Z0 (Nat.le_of_eq g84.symm)
  refine Ends.of (F' := T84.setTop (mkF m 12 #[.val (.ref w)] [(.int (256 : Int32)), (.ref b84), (.ref b84), (.ref w)])) (fun _ kt => ?_) ?_
  · show Steps p.tables e below (T84.setTop (mkF m 8 #[.val (.ref w)] [(.ref b84), (.ref w)])) _
    refine XS.dup X84.here hx rfl (hb hby d1_8) rfl rfl ?_
    show Steps p.tables e below (T84.setTop (mkF m 9 #[.val (.ref w)] [(.ref b84), (.ref b84), (.ref w)])) _
    refine XS.sipush X84.here hx rfl (hb hby d1_9) ?_
    exact kt
  obtain ⟨_, _, ⟨T85, L85, k85, n85⟩, -, X85, ⟨Lc85, hQ85, l85, y85, z85⟩, st85⟩ := X84.specialBack hx (y := (⟨"java/lang/StringBuilder", "<init>", "(I)V"⟩ : MethodName)) rfl hown (mvT hZ (hw _ (List.mem_of_getElem? (i := 13) rfl))) (mvT hZ (hw _ (List.mem_of_getElem? (i := 14) rfl))) (mvT hZ (hw _ (List.mem_of_getElem? (i := 15) rfl))) (by decide) (backOf (W := 2) (sb_initI l Z a0 hw [] b84 cs h84 n0 Z1 S0 hcs (O.ext E84) A84 F_value_b84 F_coder_b84 F_count_b84 gb) hZ (hw _ (List.mem_of_getElem? (i := 15) rfl)) (hw _ (List.mem_of_getElem? (i := 12) rfl)) (by decide) (by decide)) (g := (mkF m 12 #[.val (.ref w)] [(.int (256 : Int32)), (.ref b84), (.ref b84), (.ref w)])) rfl (by rw [hml]; rfl) (Steps.refl _) (a := b84) (argsL := [(.int (256 : Int32))]) (rest := [(.ref b84), (.ref w)]) (lenOf pd_1 rfl) rfl (by show 2 * 0 + _ ≤ _; exact Nat.le_of_eq rfl) (hb hby d1_12) (fun _ _ => ⟨rfl, e84, (by decide : 1 + 1 ≤ _), (by decide : 4 + 256 ≤ _)⟩)
  dsimp only [Pt.U, Pt.locs, Pt.cells, Pt.slots] at X85 l85 y85 z85 st85 hQ85
  subst l85 y85 z85
  obtain ⟨rfl, N85q, K85, bb85, Sb85, gbb85⟩ := hQ85
  have N85 := Fr.app N0 N85q
  refine Ends.st st85 ?_
  have nws : w ∉ [b84] := ninS (Nat.ne_of_lt (Nat.lt_of_lt_of_le E_w.lt (Nat.le_of_eq g84.symm))) nin0
  have E_1 := (E_w.ext E84).keep K85
  have F_t1 := (F_t.ext E84).keep K85 nws
  have F_a1 := (F_a.ext E84).keep K85 nws
  obtain ⟨T86, h86, X86, e86, W86, st86⟩ := putF X85 hx hZ hown (host := "") (Or.inl (hw _ (List.mem_of_getElem? (i := 30) rfl))) Via.refl rfl F_t1 E_1 (Or.inr ⟨(hw _ (List.mem_of_getElem? (i := 31) rfl)), rfl, hnm⟩) (hw _ (List.mem_of_getElem? (i := 2) rfl)) (ty := (.object "java/lang/StringBuilder")) (by decide) rfl rfl (g := (mkF m 15 #[.val (.ref w)] [(.ref b84), (.ref w)])) rfl rfl (hb hby d1_15)
  refine Ends.of st86 ?_
  have N86 := Fr.snoc X86 N85 g_w
  have F_t2 := F_t1.same W86
  have F_a2 := F_a1.other W86 (Or.inr (slot_ne (Or.inl (hw _ (List.mem_of_getElem? (i := 64) rfl))) (Or.inr (hw _ (List.mem_of_getElem? (i := 31) rfl))) (by decide) (t := .boolean) (t' := (.object "java/lang/StringBuilder")) (by decide) (by decide)))
  have E_2 := E_1.wr W86
  have nsw : b84 ≠ w := Ne.symm (Nat.ne_of_lt (Nat.lt_of_lt_of_le E_w.lt (Nat.le_of_eq g84.symm)))
  have glt : h0.size ≤ bb85 := Nat.le_trans E84.1 gbb85
  have nbw : bb85 ≠ w := Ne.symm (Nat.ne_of_lt (Nat.lt_of_lt_of_le E_w.lt glt))
  have Sb9 := Sb85.keep (Keep.of_wr W86) (ninS nsw nin0) (ninS nbw nin0)
  rw [tf_nil] at Sb9
  have K9 : Keep h0 h86 [w] := (((Keep.refl h0 [w]).ext E84).trans K85 (allS (Or.inr (Nat.le_of_eq g84.symm)) all0)).wr W86 (Or.inl (List.mem_of_getElem? (i := 0) rfl))
  rw [← e86] at F_t2 F_a2 E_2 Sb9 K9
  obtain ⟨fs, hr, hrun, hended, hW, hsame⟩ := X86.leave (v := none) (fun _ => rfl)
  exact ⟨_, _, X86.returnOut hx Bd.returns (hb hby d1_18) hr, hrun, hended, _, _, rfl, ⟨rfl, N86, K9, b84, bb85, ⟨E_2, F_t2, F_a2, Sb9⟩, Nat.le_of_eq g84.symm, glt⟩, ⟨_, rfl⟩, hW, hsame.mono (by decide) (by decide)⟩
theorem d27_0 : decode prog_55_method_14_code 0 = .ok (.aload_n 0, 1) := by decide +kernel
theorem d27_1 : decode prog_55_method_14_code 1 = .ok (.getfield 25, 3) := by decide +kernel
theorem d27_4 : decode prog_55_method_14_code 4 = .ok (.ifCond .eq 13, 3) := by decide +kernel
theorem d27_7 : decode prog_55_method_14_code 7 = .ok (.aload_n 0, 1) := by decide +kernel
theorem d27_8 : decode prog_55_method_14_code 8 = .ok (.getfield 12, 3) := by decide +kernel
theorem d27_11 : decode prog_55_method_14_code 11 = .ok (.bipush 44, 2) := by decide +kernel
theorem d27_13 : decode prog_55_method_14_code 13 = .ok (.invokevirtual 21, 3) := by decide +kernel
theorem d27_16 : decode prog_55_method_14_code 16 = .ok (.pop, 1) := by decide +kernel
theorem d27_17 : decode prog_55_method_14_code 17 = .ok (.return_, 1) := by decide +kernel
def Q_jw_sep0 (Z : State) (w : Addr) (h0 : Heap) (n0 : Nat) (v : Option Value) (h : Heap) (L : List Loc) : Prop := v = none ∧ Fr n0 L ∧ h = h0
set_option maxRecDepth 65536 in
set_option maxHeartbeats 40000000 in
theorem jw_sep0 (l : Launch) (Z : State) (a0 : Array Value) (hw : ∀ d ∈ tables_1, d.before a0 Z = true) (ws : List Jvm.Cond) (w : Addr) (h0 : Heap) (n0 : Nat) (Z0 : n0 ≤ h0.size) (F_a : Fld Z h0 w "com/example/tenantd/tenantd/server/JsonWriter" "afterValue" "Z" (.int (0 : Int32))) :
    MetFree l (⟨"com/example/tenantd/tenantd/server/JsonWriter", "separate", "()V"⟩ : MethodName) (head1 (Jvm.Cond.code (⟨"com/example/tenantd/tenantd/server/JsonWriter", "separate", "()V"⟩ : MethodName) prog_55_method_14_code 1 none :: ws) ({ frames := 0, cells := 0, slots := 0, locals := 0 } : Room)) (fun a U => a = #[(.ref w)] ∧ Z.Warmed39 U.vm ∧ U.heap = h0) (fun _ _ _ _ _ => True) (fun _ U o U' => ∃ v L, o = .returned v ∧ Q_jw_sep0 Z w h0 n0 v U'.heap L ∧ FrameEnd U o U' L ({ frames := 0, cells := 0, slots := 0, locals := 0 } : Room).cells ({ frames := 0, cells := 0, slots := 0, locals := 0 } : Room).slots) := by
  refine MetFree.of_bodySF (plainFor_of_name pn_6) hisR ?_
  intro p e s m args below meth c s₁ Bd hml0 hP hK
  obtain ⟨rfl, hZ, hh⟩ := hP
  have hx := Bd.exec
  have hby := Bd.bytes
  have hml : c.maxLocals = 1 := hml0
  have hown : s.vm.findClass "com/example/tenantd/tenantd/server/JsonWriter" = some m.cls := findClass_of_methodNamed Bd.named
  have hnm := (name_of_methodNamed Bd.named Bd.method).1
  have X0 : Stand p l e ({ frames := 0, cells := 0, slots := 0, locals := 0 } : Room) s m #[(.ref w)] below meth c s₁ [] 0 0 := Stand.of_body Bd
  have e0 : s₁.heap = h0 := by rw [← hh, Bd.state]; rfl
  have N0 := Fr.nil n0
  have eF : entryFrame m #[(.ref w)] 1 = mkF m 0 #[.val (.ref w)] [] := by first | (simp [entryFrame, mkF, argsToLocals, Value.category]; done) | rfl
  show Ends p e below s ({ frames := 0, cells := 0, slots := 0, locals := 0 } : Room) (Q_jw_sep0 Z w h0 n0) (s₁.setTop (entryFrame m #[(.ref w)] 1))
  rw [eF]
  refine Ends.of (F' := s₁.setTop (mkF m 1 #[.val (.ref w)] [(.ref w)])) (fun _ kt => ?_) ?_
  · show Steps p.tables e below (s₁.setTop (mkF m 0 #[.val (.ref w)] [])) _
    refine XS.aloadN X0.here hx rfl (hb hby d27_0) rfl rfl ?_
    exact kt
  obtain ⟨T87, X87, e87, st87⟩ := getF X0 hx hZ hown (host := "") (Or.inl (hw _ (List.mem_of_getElem? (i := 63) rfl))) Via.refl e0 F_a (g := (mkF m 1 #[.val (.ref w)] [(.ref w)])) rfl rfl (hb hby d27_1)
  refine Ends.of st87 ?_
  refine Ends.of (F' := T87.setTop (mkF m 17 #[.val (.ref w)] [])) (fun _ kt => ?_) ?_
  · show Steps p.tables e below (T87.setTop (mkF m 4 #[.val (.ref w)] [(.int (0 : Int32))])) _
    refine XS.ifYes X87.here hx rfl (pc0 := 4) (pc' := 17) rfl (hb hby d27_4) rfl ((if0 _ _).trans (teq rfl).1) (by decide) (by decide) ?_
    exact kt
  obtain ⟨fs, hr, hrun, hended, hW, hsame⟩ := X87.leave (v := none) (fun _ => rfl)
  exact ⟨_, _, X87.returnOut hx Bd.returns (hb hby d27_17) hr, hrun, hended, _, _, rfl, ⟨rfl, N0, e87⟩, ⟨_, rfl⟩, hW, hsame.mono (by decide) (by decide)⟩
def Q_jw_sep1 (Z : State) (w : Addr) (a : Addr) (b : Addr) (t : List Int32) (cs : Int32) (h0 : Heap) (n0 : Nat) (v : Option Value) (h : Heap) (L : List Loc) : Prop := v = none ∧ Fr n0 L ∧ Keep h0 h [a, b] ∧ JWr Z h w a b (t ++ [44]) (1 : Int32)
set_option maxRecDepth 65536 in
set_option maxHeartbeats 40000000 in
theorem jw_sep1 (l : Launch) (Z : State) (a0 : Array Value) (hw : ∀ d ∈ tables_1, d.before a0 Z = true) (ws : List Jvm.Cond) (w : Addr) (a : Addr) (b : Addr) (t : List Int32) (cs : Int32) (h0 : Heap) (n0 : Nat) (Z0 : n0 ≤ h0.size) (S0 : Sta Z Z.heap "java/lang/String" "COMPACT_STRINGS" "Z" (.int cs)) (hcs : ¬ cs = (0 : Int32)) (O : Old Z n0 h0) (F : JWr Z h0 w a b t (1 : Int32)) (hn : t.length + 1 ≤ 256) (g_w : n0 ≤ w) (g_a : n0 ≤ a) (g_b : n0 ≤ b) :
    MetFree l (⟨"com/example/tenantd/tenantd/server/JsonWriter", "separate", "()V"⟩ : MethodName) (head1 (Jvm.Cond.code (⟨"com/example/tenantd/tenantd/server/JsonWriter", "separate", "()V"⟩ : MethodName) prog_55_method_14_code 1 none :: ws) ({ frames := 3, cells := 0, slots := 0, locals := 40 } : Room)) (fun a U => a = #[(.ref w)] ∧ Z.Warmed39 U.vm ∧ U.heap = h0) (fun _ _ _ _ _ => True) (fun _ U o U' => ∃ v L, o = .returned v ∧ Q_jw_sep1 Z w a b t cs h0 n0 v U'.heap L ∧ FrameEnd U o U' L ({ frames := 3, cells := 0, slots := 0, locals := 40 } : Room).cells ({ frames := 3, cells := 0, slots := 0, locals := 40 } : Room).slots) := by
  refine MetFree.of_bodySF (plainFor_of_name pn_6) hisR ?_
  intro p e s m args below meth c s₁ Bd hml0 hP hK
  obtain ⟨rfl, hZ, hh⟩ := hP
  have hx := Bd.exec
  have hby := Bd.bytes
  have hml : c.maxLocals = 1 := hml0
  have hown : s.vm.findClass "com/example/tenantd/tenantd/server/JsonWriter" = some m.cls := findClass_of_methodNamed Bd.named
  have hnm := (name_of_methodNamed Bd.named Bd.method).1
  have X0 : Stand p l e ({ frames := 3, cells := 0, slots := 0, locals := 40 } : Room) s m #[(.ref w)] below meth c s₁ [] 0 0 := Stand.of_body Bd
  have e0 : s₁.heap = h0 := by rw [← hh, Bd.state]; rfl
  have N0 := Fr.nil n0
  have eF : entryFrame m #[(.ref w)] 1 = mkF m 0 #[.val (.ref w)] [] := by first | (simp [entryFrame, mkF, argsToLocals, Value.category]; done) | rfl
  show Ends p e below s ({ frames := 3, cells := 0, slots := 0, locals := 40 } : Room) (Q_jw_sep1 Z w a b t cs h0 n0) (s₁.setTop (entryFrame m #[(.ref w)] 1))
  rw [eF]
  obtain ⟨Ew, Ft, Fa, Sb⟩ := id F
  have nwa : w ≠ a := Exa.ne Ew Sb.1 (by decide)
  obtain ⟨cb0, Ab0, -, -, -⟩ := Sb.2.2.2.2.1.op
  have nwb : w ≠ b := ne_arr Ew (hw _ (List.mem_of_getElem? (i := 2) rfl)) Ab0
  have nw : w ∉ [a, b] := ninS nwa (ninS nwb nin0)
  refine Ends.of (F' := s₁.setTop (mkF m 1 #[.val (.ref w)] [(.ref w)])) (fun _ kt => ?_) ?_
  · show Steps p.tables e below (s₁.setTop (mkF m 0 #[.val (.ref w)] [])) _
    refine XS.aloadN X0.here hx rfl (hb hby d27_0) rfl rfl ?_
    exact kt
  obtain ⟨T88, X88, e88, st88⟩ := getF X0 hx hZ hown (host := "") (Or.inl (hw _ (List.mem_of_getElem? (i := 63) rfl))) Via.refl e0 Fa (g := (mkF m 1 #[.val (.ref w)] [(.ref w)])) rfl rfl (hb hby d27_1)
  refine Ends.of st88 ?_
  refine Ends.of (F' := T88.setTop (mkF m 8 #[.val (.ref w)] [(.ref w)])) (fun _ kt => ?_) ?_
  · show Steps p.tables e below (T88.setTop (mkF m 4 #[.val (.ref w)] [(.int (1 : Int32))])) _
    refine XS.ifNo X88.here hx rfl (hb hby d27_4) rfl ((if0 _ _).trans (feq (by decide)).1) ?_
    show Steps p.tables e below (T88.setTop (mkF m 7 #[.val (.ref w)] [])) _
    refine XS.aloadN X88.here hx rfl (hb hby d27_7) rfl rfl ?_
    exact kt
  obtain ⟨T89, X89, e89, st89⟩ := getF X88 hx hZ hown (host := "") (Or.inl (hw _ (List.mem_of_getElem? (i := 30) rfl))) Via.refl e88 Ft (g := (mkF m 8 #[.val (.ref w)] [(.ref w)])) rfl rfl (hb hby d27_8)
  refine Ends.of st89 ?_
  refine Ends.of (F' := T89.setTop (mkF m 13 #[.val (.ref w)] [(.int (44 : Int32)), (.ref a)])) (fun _ kt => ?_) ?_
  · show Steps p.tables e below (T89.setTop (mkF m 11 #[.val (.ref w)] [(.ref a)])) _
    refine XS.bipush X89.here hx rfl (hb hby d27_11) ?_
    exact kt
  obtain ⟨cq90, kq90, q90a, q90b, q90c⟩ := isOf hZ e89 Sb.1
  obtain ⟨_, _, ⟨T90, L90, k90, n90⟩, -, X90, ⟨Lc90, hQ90, l90, y90, z90⟩, st90⟩ := X89.virtualBack hx (y := (⟨"java/lang/StringBuilder", "append", "(C)Ljava/lang/StringBuilder;"⟩ : MethodName)) (z := (⟨"java/lang/StringBuilder", "append", "(C)Ljava/lang/StringBuilder;"⟩ : MethodName)) hown (mvT hZ (hw _ (List.mem_of_getElem? (i := 37) rfl))) (mvT hZ (hw _ (List.mem_of_getElem? (i := 38) rfl))) (notFace_of_selects (args := #[]) (mvT hZ (hw _ (List.mem_of_getElem? (i := 40) rfl)))) (mvT hZ (hw _ (List.mem_of_getElem? (i := 40) rfl))) (mvT hZ (hw _ (List.mem_of_getElem? (i := 39) rfl))) (by decide) (backOf (W := 0) (sb_appC l Z a0 hw [] a (44 : Int32) b 256 t.length (tf t) cs h0 n0 Z0 S0 hcs O Sb (by decide) (by omega) g_a g_b) hZ (hw _ (List.mem_of_getElem? (i := 41) rfl)) (hw _ (List.mem_of_getElem? (i := 12) rfl)) (by decide) (by decide)) q90a q90c (g := (mkF m 13 #[.val (.ref w)] [(.int (44 : Int32)), (.ref a)])) rfl (by rw [hml]; rfl) (Steps.refl _) (argsL := [(.int (44 : Int32))]) (rest := []) (lenOf pd_3 rfl) rfl (by show 2 * 0 + _ ≤ _; exact Nat.le_of_eq rfl) (hb hby d27_13) (fun _ _ => ⟨rfl, e89, (by decide : 0 + 0 ≤ _), (by decide : 0 + 0 ≤ _)⟩)
  dsimp only [Pt.U, Pt.locs, Pt.cells, Pt.slots] at X90 l90 y90 z90 st90 hQ90
  subst l90 y90 z90
  obtain ⟨rfl, N90q, K90, Fx90⟩ := hQ90
  have N90 := Fr.app N0 N90q
  refine Ends.st st90 ?_
  have F90 := SBd.snoc (d := (44 : Int32)) (by decide) Fx90
  refine Ends.of (F' := T90.setTop (mkF m 17 #[.val (.ref w)] [])) (fun _ kt => ?_) ?_
  · show Steps p.tables e below (T90.setTop (mkF m 16 #[.val (.ref w)] [(.ref a)])) _
    refine XS.pop X90.here hx rfl (hb hby d27_16) rfl rfl ?_
    exact kt
  obtain ⟨fs, hr, hrun, hended, hW, hsame⟩ := X90.leave (v := none) (fun _ => rfl)
  exact ⟨_, _, X90.returnOut hx Bd.returns (hb hby d27_17) hr, hrun, hended, _, _, rfl, ⟨rfl, N90, K90, Ew.keep K90, Ft.keep K90 nw, Fa.keep K90 nw, F90⟩, ⟨_, rfl⟩, hW, hsame.mono (by decide) (by decide)⟩
theorem d5_0 : decode prog_55_method_5_code 0 = .ok (.aload_n 0, 1) := by decide +kernel
theorem d5_1 : decode prog_55_method_5_code 1 = .ok (.getfield 12, 3) := by decide +kernel
theorem d5_4 : decode prog_55_method_5_code 4 = .ok (.bipush 93, 2) := by decide +kernel
theorem d5_6 : decode prog_55_method_5_code 6 = .ok (.invokevirtual 21, 3) := by decide +kernel
theorem d5_9 : decode prog_55_method_5_code 9 = .ok (.pop, 1) := by decide +kernel
theorem d5_10 : decode prog_55_method_5_code 10 = .ok (.aload_n 0, 1) := by decide +kernel
theorem d5_11 : decode prog_55_method_5_code 11 = .ok (.iconst 1, 1) := by decide +kernel
theorem d5_12 : decode prog_55_method_5_code 12 = .ok (.putfield 25, 3) := by decide +kernel
theorem d5_15 : decode prog_55_method_5_code 15 = .ok (.aload_n 0, 1) := by decide +kernel
theorem d5_16 : decode prog_55_method_5_code 16 = .ok (.areturn, 1) := by decide +kernel
def Q_jw_endA (Z : State) (w : Addr) (a : Addr) (b : Addr) (t : List Int32) (cs : Int32) (av : Int32) (h0 : Heap) (n0 : Nat) (v : Option Value) (h : Heap) (L : List Loc) : Prop := v = some (.ref w) ∧ Fr n0 L ∧ Keep h0 h [w, a, b] ∧ JWr Z h w a b (t ++ [93]) (1 : Int32)
set_option maxRecDepth 65536 in
set_option maxHeartbeats 40000000 in
theorem jw_endA (l : Launch) (Z : State) (a0 : Array Value) (hw : ∀ d ∈ tables_1, d.before a0 Z = true) (ws : List Jvm.Cond) (w : Addr) (a : Addr) (b : Addr) (t : List Int32) (cs : Int32) (av : Int32) (h0 : Heap) (n0 : Nat) (Z0 : n0 ≤ h0.size) (S0 : Sta Z Z.heap "java/lang/String" "COMPACT_STRINGS" "Z" (.int cs)) (hcs : ¬ cs = (0 : Int32)) (O : Old Z n0 h0) (F : JWr Z h0 w a b t av) (hn : t.length + 1 ≤ 256) (g_w : n0 ≤ w) (g_a : n0 ≤ a) (g_b : n0 ≤ b) :
    MetFree l (⟨"com/example/tenantd/tenantd/server/JsonWriter", "endArray", "()Lcom/example/tenantd/tenantd/server/JsonWriter;"⟩ : MethodName) (head1 (Jvm.Cond.code (⟨"com/example/tenantd/tenantd/server/JsonWriter", "endArray", "()Lcom/example/tenantd/tenantd/server/JsonWriter;"⟩ : MethodName) prog_55_method_5_code 1 (some (.object "com/example/tenantd/tenantd/server/JsonWriter")) :: ws) ({ frames := 3, cells := 0, slots := 0, locals := 40 } : Room)) (fun a U => a = #[(.ref w)] ∧ Z.Warmed39 U.vm ∧ U.heap = h0) (fun _ _ _ _ _ => True) (fun _ U o U' => ∃ v L, o = .returned v ∧ Q_jw_endA Z w a b t cs av h0 n0 v U'.heap L ∧ FrameEnd U o U' L ({ frames := 3, cells := 0, slots := 0, locals := 40 } : Room).cells ({ frames := 3, cells := 0, slots := 0, locals := 40 } : Room).slots) := by
  refine MetFree.of_bodySF (plainFor_of_name pn_6) hisR ?_
  intro p e s m args below meth c s₁ Bd hml0 hP hK
  obtain ⟨rfl, hZ, hh⟩ := hP
  have hx := Bd.exec
  have hby := Bd.bytes
  have hml : c.maxLocals = 1 := hml0
  have hown : s.vm.findClass "com/example/tenantd/tenantd/server/JsonWriter" = some m.cls := findClass_of_methodNamed Bd.named
  have hnm := (name_of_methodNamed Bd.named Bd.method).1
  have X0 : Stand p l e ({ frames := 3, cells := 0, slots := 0, locals := 40 } : Room) s m #[(.ref w)] below meth c s₁ [] 0 0 := Stand.of_body Bd
  have e0 : s₁.heap = h0 := by rw [← hh, Bd.state]; rfl
  have N0 := Fr.nil n0
  have eF : entryFrame m #[(.ref w)] 1 = mkF m 0 #[.val (.ref w)] [] := by first | (simp [entryFrame, mkF, argsToLocals, Value.category]; done) | rfl
  show Ends p e below s ({ frames := 3, cells := 0, slots := 0, locals := 40 } : Room) (Q_jw_endA Z w a b t cs av h0 n0) (s₁.setTop (entryFrame m #[(.ref w)] 1))
  rw [eF]
  obtain ⟨Ew, Ft, Fa, Sb⟩ := id F
  have nwa : w ≠ a := Exa.ne Ew Sb.1 (by decide)
  obtain ⟨cb0, Ab0, -, -, -⟩ := Sb.2.2.2.2.1.op
  have nwb : w ≠ b := ne_arr Ew (hw _ (List.mem_of_getElem? (i := 2) rfl)) Ab0
  have nw : w ∉ [a, b] := ninS nwa (ninS nwb nin0)
  refine Ends.of (F' := s₁.setTop (mkF m 1 #[.val (.ref w)] [(.ref w)])) (fun _ kt => ?_) ?_
  · show Steps p.tables e below (s₁.setTop (mkF m 0 #[.val (.ref w)] [])) _
    refine XS.aloadN X0.here hx rfl (hb hby d5_0) rfl rfl ?_
    exact kt
  obtain ⟨T91, X91, e91, st91⟩ := getF X0 hx hZ hown (host := "") (Or.inl (hw _ (List.mem_of_getElem? (i := 30) rfl))) Via.refl e0 Ft (g := (mkF m 1 #[.val (.ref w)] [(.ref w)])) rfl rfl (hb hby d5_1)
  refine Ends.of st91 ?_
  refine Ends.of (F' := T91.setTop (mkF m 6 #[.val (.ref w)] [(.int (93 : Int32)), (.ref a)])) (fun _ kt => ?_) ?_
  · show Steps p.tables e below (T91.setTop (mkF m 4 #[.val (.ref w)] [(.ref a)])) _
    refine XS.bipush X91.here hx rfl (hb hby d5_4) ?_
    exact kt
  obtain ⟨cq92, kq92, q92a, q92b, q92c⟩ := isOf hZ e91 Sb.1
  obtain ⟨_, _, ⟨T92, L92, k92, n92⟩, -, X92, ⟨Lc92, hQ92, l92, y92, z92⟩, st92⟩ := X91.virtualBack hx (y := (⟨"java/lang/StringBuilder", "append", "(C)Ljava/lang/StringBuilder;"⟩ : MethodName)) (z := (⟨"java/lang/StringBuilder", "append", "(C)Ljava/lang/StringBuilder;"⟩ : MethodName)) hown (mvT hZ (hw _ (List.mem_of_getElem? (i := 37) rfl))) (mvT hZ (hw _ (List.mem_of_getElem? (i := 38) rfl))) (notFace_of_selects (args := #[]) (mvT hZ (hw _ (List.mem_of_getElem? (i := 40) rfl)))) (mvT hZ (hw _ (List.mem_of_getElem? (i := 40) rfl))) (mvT hZ (hw _ (List.mem_of_getElem? (i := 39) rfl))) (by decide) (backOf (W := 0) (sb_appC l Z a0 hw [] a (93 : Int32) b 256 t.length (tf t) cs h0 n0 Z0 S0 hcs O Sb (by decide) (by omega) g_a g_b) hZ (hw _ (List.mem_of_getElem? (i := 41) rfl)) (hw _ (List.mem_of_getElem? (i := 12) rfl)) (by decide) (by decide)) q92a q92c (g := (mkF m 6 #[.val (.ref w)] [(.int (93 : Int32)), (.ref a)])) rfl (by rw [hml]; rfl) (Steps.refl _) (argsL := [(.int (93 : Int32))]) (rest := []) (lenOf pd_3 rfl) rfl (by show 2 * 0 + _ ≤ _; exact Nat.le_of_eq rfl) (hb hby d5_6) (fun _ _ => ⟨rfl, e91, (by decide : 0 + 0 ≤ _), (by decide : 0 + 0 ≤ _)⟩)
  dsimp only [Pt.U, Pt.locs, Pt.cells, Pt.slots] at X92 l92 y92 z92 st92 hQ92
  subst l92 y92 z92
  obtain ⟨rfl, N92q, K92, Fx92⟩ := hQ92
  have N92 := Fr.app N0 N92q
  refine Ends.st st92 ?_
  have F92 := SBd.snoc (d := (93 : Int32)) (by decide) Fx92
  have E_1 := Ew.keep K92
  have Ft_1 := Ft.keep K92 nw
  have Fa_1 := Fa.keep K92 nw
  refine Ends.of (F' := T92.setTop (mkF m 12 #[.val (.ref w)] [(.int (1 : Int32)), (.ref w)])) (fun _ kt => ?_) ?_
  · show Steps p.tables e below (T92.setTop (mkF m 9 #[.val (.ref w)] [(.ref a)])) _
    refine XS.pop X92.here hx rfl (hb hby d5_9) rfl rfl ?_
    show Steps p.tables e below (T92.setTop (mkF m 10 #[.val (.ref w)] [])) _
    refine XS.aloadN X92.here hx rfl (hb hby d5_10) rfl rfl ?_
    show Steps p.tables e below (T92.setTop (mkF m 11 #[.val (.ref w)] [(.ref w)])) _
    refine XS.iconst X92.here hx rfl (hb hby d5_11) ?_
    exact kt
  obtain ⟨T93, h93, X93, e93, W93, st93⟩ := putFN X92 hx hZ hown (hw _ (List.mem_of_getElem? (i := 63) rfl)) Via.refl rfl Fa_1 E_1 (Or.inl (hw _ (List.mem_of_getElem? (i := 64) rfl))) (hw _ (List.mem_of_getElem? (i := 2) rfl)) (ty := .boolean) (v' := (.int (1 : Int32))) (by decide) rfl rfl (g := (mkF m 12 #[.val (.ref w)] [(.int (1 : Int32)), (.ref w)])) rfl rfl (hb hby d5_12)
  refine Ends.of st93 ?_
  have N93 := Fr.snoc X93 N92 g_w
  have Fa_2 := Fa_1.same W93
  have Ft_2 := Ft_1.other W93 (Or.inr (slot_ne (Or.inr (hw _ (List.mem_of_getElem? (i := 31) rfl))) (Or.inl (hw _ (List.mem_of_getElem? (i := 64) rfl))) (by decide) (t := (.object "java/lang/StringBuilder")) (t' := .boolean) (by decide) (by decide)))
  have E_2 := E_1.wr W93
  have Sb_2 := F92.keep (Keep.of_wr W93) (ninS (Ne.symm nwa) nin0) (ninS (Ne.symm nwb) nin0)
  have K9 : Keep h0 h93 [w, a, b] := ((Keep.refl h0 [w, a, b]).trans K92 (allS (Or.inl (List.mem_of_getElem? (i := 1) rfl)) (allS (Or.inl (List.mem_of_getElem? (i := 2) rfl)) all0))).wr W93 (Or.inl (List.mem_of_getElem? (i := 0) rfl))
  rw [← e93] at Fa_2 Ft_2 E_2 Sb_2 K9
  refine Ends.of (F' := T93.setTop (mkF m 16 #[.val (.ref w)] [(.ref w)])) (fun _ kt => ?_) ?_
  · show Steps p.tables e below (T93.setTop (mkF m 15 #[.val (.ref w)] [])) _
    refine XS.aloadN X93.here hx rfl (hb hby d5_15) rfl rfl ?_
    exact kt
  obtain ⟨fs, hr, hrun, hended, hW, hsame⟩ := X93.leave (v := some (.ref w)) (fun h => by rw [Bd.returns] at h; cases h)
  refine ⟨_, _, ?_, hrun, hended, _, _, rfl, ⟨rfl, N93, K9, E_2, Ft_2, Fa_2, Sb_2⟩, ⟨_, rfl⟩, hW, hsame.mono (by decide) (by decide)⟩
  show Steps p.tables e below (T93.setTop (mkF m 16 #[.val (.ref w)] [(.ref w)])) _
  jvm_step X93.here [X93.here.top, hx, (hb hby d5_16), X93.method', Bd.returns, Value.isRef, FieldType.isReference]
  first | (intro acts; rw [hr _ acts rfl rfl rfl]) | rw [hr _ _ rfl rfl rfl]
  exact Steps.refl _
theorem d38_0 : decode prog_55_method_3_code 0 = .ok (.aload_n 0, 1) := by decide +kernel
theorem d38_1 : decode prog_55_method_3_code 1 = .ok (.getfield 12, 3) := by decide +kernel
theorem d38_4 : decode prog_55_method_3_code 4 = .ok (.bipush 125, 2) := by decide +kernel
theorem d38_6 : decode prog_55_method_3_code 6 = .ok (.invokevirtual 21, 3) := by decide +kernel
theorem d38_9 : decode prog_55_method_3_code 9 = .ok (.pop, 1) := by decide +kernel
theorem d38_10 : decode prog_55_method_3_code 10 = .ok (.aload_n 0, 1) := by decide +kernel
theorem d38_11 : decode prog_55_method_3_code 11 = .ok (.iconst 1, 1) := by decide +kernel
theorem d38_12 : decode prog_55_method_3_code 12 = .ok (.putfield 25, 3) := by decide +kernel
theorem d38_15 : decode prog_55_method_3_code 15 = .ok (.aload_n 0, 1) := by decide +kernel
theorem d38_16 : decode prog_55_method_3_code 16 = .ok (.areturn, 1) := by decide +kernel
def Q_jw_endO (Z : State) (w : Addr) (a : Addr) (b : Addr) (t : List Int32) (cs : Int32) (av : Int32) (h0 : Heap) (n0 : Nat) (v : Option Value) (h : Heap) (L : List Loc) : Prop := v = some (.ref w) ∧ Fr n0 L ∧ Keep h0 h [w, a, b] ∧ JWr Z h w a b (t ++ [125]) (1 : Int32)
set_option maxRecDepth 65536 in
set_option maxHeartbeats 40000000 in
theorem jw_endO (l : Launch) (Z : State) (a0 : Array Value) (hw : ∀ d ∈ tables_1, d.before a0 Z = true) (ws : List Jvm.Cond) (w : Addr) (a : Addr) (b : Addr) (t : List Int32) (cs : Int32) (av : Int32) (h0 : Heap) (n0 : Nat) (Z0 : n0 ≤ h0.size) (S0 : Sta Z Z.heap "java/lang/String" "COMPACT_STRINGS" "Z" (.int cs)) (hcs : ¬ cs = (0 : Int32)) (O : Old Z n0 h0) (F : JWr Z h0 w a b t av) (hn : t.length + 1 ≤ 256) (g_w : n0 ≤ w) (g_a : n0 ≤ a) (g_b : n0 ≤ b) :
    MetFree l (⟨"com/example/tenantd/tenantd/server/JsonWriter", "endObject", "()Lcom/example/tenantd/tenantd/server/JsonWriter;"⟩ : MethodName) (head1 (Jvm.Cond.code (⟨"com/example/tenantd/tenantd/server/JsonWriter", "endObject", "()Lcom/example/tenantd/tenantd/server/JsonWriter;"⟩ : MethodName) prog_55_method_3_code 1 (some (.object "com/example/tenantd/tenantd/server/JsonWriter")) :: ws) ({ frames := 3, cells := 0, slots := 0, locals := 40 } : Room)) (fun a U => a = #[(.ref w)] ∧ Z.Warmed39 U.vm ∧ U.heap = h0) (fun _ _ _ _ _ => True) (fun _ U o U' => ∃ v L, o = .returned v ∧ Q_jw_endO Z w a b t cs av h0 n0 v U'.heap L ∧ FrameEnd U o U' L ({ frames := 3, cells := 0, slots := 0, locals := 40 } : Room).cells ({ frames := 3, cells := 0, slots := 0, locals := 40 } : Room).slots) := by
  refine MetFree.of_bodySF (plainFor_of_name pn_6) hisR ?_
  intro p e s m args below meth c s₁ Bd hml0 hP hK
  obtain ⟨rfl, hZ, hh⟩ := hP
  have hx := Bd.exec
  have hby := Bd.bytes
  have hml : c.maxLocals = 1 := hml0
  have hown : s.vm.findClass "com/example/tenantd/tenantd/server/JsonWriter" = some m.cls := findClass_of_methodNamed Bd.named
  have hnm := (name_of_methodNamed Bd.named Bd.method).1
  have X0 : Stand p l e ({ frames := 3, cells := 0, slots := 0, locals := 40 } : Room) s m #[(.ref w)] below meth c s₁ [] 0 0 := Stand.of_body Bd
  have e0 : s₁.heap = h0 := by rw [← hh, Bd.state]; rfl
  have N0 := Fr.nil n0
  have eF : entryFrame m #[(.ref w)] 1 = mkF m 0 #[.val (.ref w)] [] := by first | (simp [entryFrame, mkF, argsToLocals, Value.category]; done) | rfl
  show Ends p e below s ({ frames := 3, cells := 0, slots := 0, locals := 40 } : Room) (Q_jw_endO Z w a b t cs av h0 n0) (s₁.setTop (entryFrame m #[(.ref w)] 1))
  rw [eF]
  obtain ⟨Ew, Ft, Fa, Sb⟩ := id F
  have nwa : w ≠ a := Exa.ne Ew Sb.1 (by decide)
  obtain ⟨cb0, Ab0, -, -, -⟩ := Sb.2.2.2.2.1.op
  have nwb : w ≠ b := ne_arr Ew (hw _ (List.mem_of_getElem? (i := 2) rfl)) Ab0
  have nw : w ∉ [a, b] := ninS nwa (ninS nwb nin0)
  refine Ends.of (F' := s₁.setTop (mkF m 1 #[.val (.ref w)] [(.ref w)])) (fun _ kt => ?_) ?_
  · show Steps p.tables e below (s₁.setTop (mkF m 0 #[.val (.ref w)] [])) _
    refine XS.aloadN X0.here hx rfl (hb hby d38_0) rfl rfl ?_
    exact kt
  obtain ⟨T94, X94, e94, st94⟩ := getF X0 hx hZ hown (host := "") (Or.inl (hw _ (List.mem_of_getElem? (i := 30) rfl))) Via.refl e0 Ft (g := (mkF m 1 #[.val (.ref w)] [(.ref w)])) rfl rfl (hb hby d38_1)
  refine Ends.of st94 ?_
  refine Ends.of (F' := T94.setTop (mkF m 6 #[.val (.ref w)] [(.int (125 : Int32)), (.ref a)])) (fun _ kt => ?_) ?_
  · show Steps p.tables e below (T94.setTop (mkF m 4 #[.val (.ref w)] [(.ref a)])) _
    refine XS.bipush X94.here hx rfl (hb hby d38_4) ?_
    exact kt
  obtain ⟨cq95, kq95, q95a, q95b, q95c⟩ := isOf hZ e94 Sb.1
  obtain ⟨_, _, ⟨T95, L95, k95, n95⟩, -, X95, ⟨Lc95, hQ95, l95, y95, z95⟩, st95⟩ := X94.virtualBack hx (y := (⟨"java/lang/StringBuilder", "append", "(C)Ljava/lang/StringBuilder;"⟩ : MethodName)) (z := (⟨"java/lang/StringBuilder", "append", "(C)Ljava/lang/StringBuilder;"⟩ : MethodName)) hown (mvT hZ (hw _ (List.mem_of_getElem? (i := 37) rfl))) (mvT hZ (hw _ (List.mem_of_getElem? (i := 38) rfl))) (notFace_of_selects (args := #[]) (mvT hZ (hw _ (List.mem_of_getElem? (i := 40) rfl)))) (mvT hZ (hw _ (List.mem_of_getElem? (i := 40) rfl))) (mvT hZ (hw _ (List.mem_of_getElem? (i := 39) rfl))) (by decide) (backOf (W := 0) (sb_appC l Z a0 hw [] a (125 : Int32) b 256 t.length (tf t) cs h0 n0 Z0 S0 hcs O Sb (by decide) (by omega) g_a g_b) hZ (hw _ (List.mem_of_getElem? (i := 41) rfl)) (hw _ (List.mem_of_getElem? (i := 12) rfl)) (by decide) (by decide)) q95a q95c (g := (mkF m 6 #[.val (.ref w)] [(.int (125 : Int32)), (.ref a)])) rfl (by rw [hml]; rfl) (Steps.refl _) (argsL := [(.int (125 : Int32))]) (rest := []) (lenOf pd_3 rfl) rfl (by show 2 * 0 + _ ≤ _; exact Nat.le_of_eq rfl) (hb hby d38_6) (fun _ _ => ⟨rfl, e94, (by decide : 0 + 0 ≤ _), (by decide : 0 + 0 ≤ _)⟩)
  dsimp only [Pt.U, Pt.locs, Pt.cells, Pt.slots] at X95 l95 y95 z95 st95 hQ95
  subst l95 y95 z95
  obtain ⟨rfl, N95q, K95, Fx95⟩ := hQ95
  have N95 := Fr.app N0 N95q
  refine Ends.st st95 ?_
  have F95 := SBd.snoc (d := (125 : Int32)) (by decide) Fx95
  have E_1 := Ew.keep K95
  have Ft_1 := Ft.keep K95 nw
  have Fa_1 := Fa.keep K95 nw
  refine Ends.of (F' := T95.setTop (mkF m 12 #[.val (.ref w)] [(.int (1 : Int32)), (.ref w)])) (fun _ kt => ?_) ?_
  · show Steps p.tables e below (T95.setTop (mkF m 9 #[.val (.ref w)] [(.ref a)])) _
    refine XS.pop X95.here hx rfl (hb hby d38_9) rfl rfl ?_
    show Steps p.tables e below (T95.setTop (mkF m 10 #[.val (.ref w)] [])) _
    refine XS.aloadN X95.here hx rfl (hb hby d38_10) rfl rfl ?_
    show Steps p.tables e below (T95.setTop (mkF m 11 #[.val (.ref w)] [(.ref w)])) _
    refine XS.iconst X95.here hx rfl (hb hby d38_11) ?_
    exact kt
  obtain ⟨T96, h96, X96, e96, W96, st96⟩ := putFN X95 hx hZ hown (hw _ (List.mem_of_getElem? (i := 63) rfl)) Via.refl rfl Fa_1 E_1 (Or.inl (hw _ (List.mem_of_getElem? (i := 64) rfl))) (hw _ (List.mem_of_getElem? (i := 2) rfl)) (ty := .boolean) (v' := (.int (1 : Int32))) (by decide) rfl rfl (g := (mkF m 12 #[.val (.ref w)] [(.int (1 : Int32)), (.ref w)])) rfl rfl (hb hby d38_12)
  refine Ends.of st96 ?_
  have N96 := Fr.snoc X96 N95 g_w
  have Fa_2 := Fa_1.same W96
  have Ft_2 := Ft_1.other W96 (Or.inr (slot_ne (Or.inr (hw _ (List.mem_of_getElem? (i := 31) rfl))) (Or.inl (hw _ (List.mem_of_getElem? (i := 64) rfl))) (by decide) (t := (.object "java/lang/StringBuilder")) (t' := .boolean) (by decide) (by decide)))
  have E_2 := E_1.wr W96
  have Sb_2 := F95.keep (Keep.of_wr W96) (ninS (Ne.symm nwa) nin0) (ninS (Ne.symm nwb) nin0)
  have K9 : Keep h0 h96 [w, a, b] := ((Keep.refl h0 [w, a, b]).trans K95 (allS (Or.inl (List.mem_of_getElem? (i := 1) rfl)) (allS (Or.inl (List.mem_of_getElem? (i := 2) rfl)) all0))).wr W96 (Or.inl (List.mem_of_getElem? (i := 0) rfl))
  rw [← e96] at Fa_2 Ft_2 E_2 Sb_2 K9
  refine Ends.of (F' := T96.setTop (mkF m 16 #[.val (.ref w)] [(.ref w)])) (fun _ kt => ?_) ?_
  · show Steps p.tables e below (T96.setTop (mkF m 15 #[.val (.ref w)] [])) _
    refine XS.aloadN X96.here hx rfl (hb hby d38_15) rfl rfl ?_
    exact kt
  obtain ⟨fs, hr, hrun, hended, hW, hsame⟩ := X96.leave (v := some (.ref w)) (fun h => by rw [Bd.returns] at h; cases h)
  refine ⟨_, _, ?_, hrun, hended, _, _, rfl, ⟨rfl, N96, K9, E_2, Ft_2, Fa_2, Sb_2⟩, ⟨_, rfl⟩, hW, hsame.mono (by decide) (by decide)⟩
  show Steps p.tables e below (T96.setTop (mkF m 16 #[.val (.ref w)] [(.ref w)])) _
  jvm_step X96.here [X96.here.top, hx, (hb hby d38_16), X96.method', Bd.returns, Value.isRef, FieldType.isReference]
  first | (intro acts; rw [hr _ acts rfl rfl rfl]) | rw [hr _ _ rfl rfl rfl]
  exact Steps.refl _
theorem d26_0 : decode prog_55_method_4_code 0 = .ok (.aload_n 0, 1) := by decide +kernel
theorem d26_1 : decode prog_55_method_4_code 1 = .ok (.invokevirtual 18, 3) := by decide +kernel
theorem d26_4 : decode prog_55_method_4_code 4 = .ok (.aload_n 0, 1) := by decide +kernel
theorem d26_5 : decode prog_55_method_4_code 5 = .ok (.getfield 12, 3) := by decide +kernel
theorem d26_8 : decode prog_55_method_4_code 8 = .ok (.bipush 91, 2) := by decide +kernel
theorem d26_10 : decode prog_55_method_4_code 10 = .ok (.invokevirtual 21, 3) := by decide +kernel
theorem d26_13 : decode prog_55_method_4_code 13 = .ok (.pop, 1) := by decide +kernel
theorem d26_14 : decode prog_55_method_4_code 14 = .ok (.aload_n 0, 1) := by decide +kernel
theorem d26_15 : decode prog_55_method_4_code 15 = .ok (.iconst 0, 1) := by decide +kernel
theorem d26_16 : decode prog_55_method_4_code 16 = .ok (.putfield 25, 3) := by decide +kernel
theorem d26_19 : decode prog_55_method_4_code 19 = .ok (.aload_n 0, 1) := by decide +kernel
theorem d26_20 : decode prog_55_method_4_code 20 = .ok (.areturn, 1) := by decide +kernel
def Q_jw_arr0 (Z : State) (w : Addr) (a : Addr) (b : Addr) (t : List Int32) (cs : Int32) (h0 : Heap) (n0 : Nat) (v : Option Value) (h : Heap) (L : List Loc) : Prop := v = some (.ref w) ∧ Fr n0 L ∧ Keep h0 h [w, a, b] ∧ JWr Z h w a b (t ++ [91]) (0 : Int32)
set_option maxRecDepth 65536 in
set_option maxHeartbeats 40000000 in
theorem jw_arr0 (l : Launch) (Z : State) (a0 : Array Value) (hw : ∀ d ∈ tables_1, d.before a0 Z = true) (ws : List Jvm.Cond) (w : Addr) (a : Addr) (b : Addr) (t : List Int32) (cs : Int32) (h0 : Heap) (n0 : Nat) (Z0 : n0 ≤ h0.size) (S0 : Sta Z Z.heap "java/lang/String" "COMPACT_STRINGS" "Z" (.int cs)) (hcs : ¬ cs = (0 : Int32)) (O : Old Z n0 h0) (F : JWr Z h0 w a b t (0 : Int32)) (hn : t.length + 1 ≤ 256) (g_w : n0 ≤ w) (g_a : n0 ≤ a) (g_b : n0 ≤ b) :
    MetFree l (⟨"com/example/tenantd/tenantd/server/JsonWriter", "array", "()Lcom/example/tenantd/tenantd/server/JsonWriter;"⟩ : MethodName) (head1 (Jvm.Cond.code (⟨"com/example/tenantd/tenantd/server/JsonWriter", "array", "()Lcom/example/tenantd/tenantd/server/JsonWriter;"⟩ : MethodName) prog_55_method_4_code 1 (some (.object "com/example/tenantd/tenantd/server/JsonWriter")) :: ws) ({ frames := 3, cells := 0, slots := 0, locals := 40 } : Room)) (fun a U => a = #[(.ref w)] ∧ Z.Warmed39 U.vm ∧ U.heap = h0) (fun _ _ _ _ _ => True) (fun _ U o U' => ∃ v L, o = .returned v ∧ Q_jw_arr0 Z w a b t cs h0 n0 v U'.heap L ∧ FrameEnd U o U' L ({ frames := 3, cells := 0, slots := 0, locals := 40 } : Room).cells ({ frames := 3, cells := 0, slots := 0, locals := 40 } : Room).slots) := by
  refine MetFree.of_bodySF (plainFor_of_name pn_6) hisR ?_
  intro p e s m args below meth c s₁ Bd hml0 hP hK
  obtain ⟨rfl, hZ, hh⟩ := hP
  have hx := Bd.exec
  have hby := Bd.bytes
  have hml : c.maxLocals = 1 := hml0
  have hown : s.vm.findClass "com/example/tenantd/tenantd/server/JsonWriter" = some m.cls := findClass_of_methodNamed Bd.named
  have hnm := (name_of_methodNamed Bd.named Bd.method).1
  have X0 : Stand p l e ({ frames := 3, cells := 0, slots := 0, locals := 40 } : Room) s m #[(.ref w)] below meth c s₁ [] 0 0 := Stand.of_body Bd
  have e0 : s₁.heap = h0 := by rw [← hh, Bd.state]; rfl
  have N0 := Fr.nil n0
  have eF : entryFrame m #[(.ref w)] 1 = mkF m 0 #[.val (.ref w)] [] := by first | (simp [entryFrame, mkF, argsToLocals, Value.category]; done) | rfl
  show Ends p e below s ({ frames := 3, cells := 0, slots := 0, locals := 40 } : Room) (Q_jw_arr0 Z w a b t cs h0 n0) (s₁.setTop (entryFrame m #[(.ref w)] 1))
  rw [eF]
  refine Ends.of (F' := s₁.setTop (mkF m 1 #[.val (.ref w)] [(.ref w)])) (fun _ kt => ?_) ?_
  · show Steps p.tables e below (s₁.setTop (mkF m 0 #[.val (.ref w)] [])) _
    refine XS.aloadN X0.here hx rfl (hb hby d26_0) rfl rfl ?_
    exact kt
  obtain ⟨cq97, q97, q97'⟩ := F.1.cell
  obtain ⟨_, _, ⟨T97, L97, k97, n97⟩, -, X97, ⟨Lc97, hQ97, l97, y97, z97⟩, st97⟩ := X0.privateBack hx (y := (⟨"com/example/tenantd/tenantd/server/JsonWriter", "separate", "()V"⟩ : MethodName)) hown (mvT hZ (hw _ (List.mem_of_getElem? (i := 149) rfl))) (mvT hZ (hw _ (List.mem_of_getElem? (i := 150) rfl))) (mvT hZ (own_psel (y := (⟨"com/example/tenantd/tenantd/server/JsonWriter", "separate", "()V"⟩ : MethodName)) (z := (⟨"com/example/tenantd/tenantd/server/JsonWriter", "endArray", "()Lcom/example/tenantd/tenantd/server/JsonWriter;"⟩ : MethodName)) rfl (by decide) (hw _ (List.mem_of_getElem? (i := 150) rfl)) (hw _ (List.mem_of_getElem? (i := 151) rfl)) (hw _ (List.mem_of_getElem? (i := 35) rfl)))) (Cond.privateMethod_at (mvP hZ (hw _ (List.mem_of_getElem? (i := 151) rfl)) (args := #[]))) (mvT hZ (hw _ (List.mem_of_getElem? (i := 152) rfl))) (by decide) (backOf (W := 0) (jw_sep0 l Z a0 hw [] w h0 n0 Z0 F.2.2.1) hZ (hw _ (List.mem_of_getElem? (i := 152) rfl)) (hw _ (List.mem_of_getElem? (i := 3) rfl)) (by decide) (by decide)) (g := (mkF m 1 #[.val (.ref w)] [(.ref w)])) rfl (by rw [hml]; rfl) (Steps.refl _) (a := w) (by rw [e0]; exact q97) q97' (argsL := []) (rest := []) (lenOf pd_0 rfl) rfl (by show 2 * 0 + _ ≤ _; exact Nat.le_of_eq rfl) (hb hby d26_1) (fun _ _ => ⟨rfl, e0, (by decide : 0 + 0 ≤ _), (by decide : 0 + 0 ≤ _)⟩)
  dsimp only [Pt.U, Pt.locs, Pt.cells, Pt.slots] at X97 l97 y97 z97 st97 hQ97
  subst l97 y97 z97
  obtain ⟨rfl, N97q, e97⟩ := hQ97
  have N97 := Fr.app N0 N97q
  refine Ends.st st97 ?_
  obtain ⟨Ew, Ft, Fa, Sb⟩ := id F
  have nwa : w ≠ a := Exa.ne Ew Sb.1 (by decide)
  obtain ⟨cb0, Ab0, -, -, -⟩ := Sb.2.2.2.2.1.op
  have nwb : w ≠ b := ne_arr Ew (hw _ (List.mem_of_getElem? (i := 2) rfl)) Ab0
  have nw : w ∉ [a, b] := ninS nwa (ninS nwb nin0)
  refine Ends.of (F' := T97.setTop (mkF m 5 #[.val (.ref w)] [(.ref w)])) (fun _ kt => ?_) ?_
  · show Steps p.tables e below (T97.setTop (mkF m 4 #[.val (.ref w)] [])) _
    refine XS.aloadN X97.here hx rfl (hb hby d26_4) rfl rfl ?_
    exact kt
  obtain ⟨T98, X98, e98, st98⟩ := getF X97 hx hZ hown (host := "") (Or.inl (hw _ (List.mem_of_getElem? (i := 30) rfl))) Via.refl e97 Ft (g := (mkF m 5 #[.val (.ref w)] [(.ref w)])) rfl rfl (hb hby d26_5)
  refine Ends.of st98 ?_
  refine Ends.of (F' := T98.setTop (mkF m 10 #[.val (.ref w)] [(.int (91 : Int32)), (.ref a)])) (fun _ kt => ?_) ?_
  · show Steps p.tables e below (T98.setTop (mkF m 8 #[.val (.ref w)] [(.ref a)])) _
    refine XS.bipush X98.here hx rfl (hb hby d26_8) ?_
    exact kt
  obtain ⟨cq99, kq99, q99a, q99b, q99c⟩ := isOf hZ e98 Sb.1
  obtain ⟨_, _, ⟨T99, L99, k99, n99⟩, -, X99, ⟨Lc99, hQ99, l99, y99, z99⟩, st99⟩ := X98.virtualBack hx (y := (⟨"java/lang/StringBuilder", "append", "(C)Ljava/lang/StringBuilder;"⟩ : MethodName)) (z := (⟨"java/lang/StringBuilder", "append", "(C)Ljava/lang/StringBuilder;"⟩ : MethodName)) hown (mvT hZ (hw _ (List.mem_of_getElem? (i := 37) rfl))) (mvT hZ (hw _ (List.mem_of_getElem? (i := 38) rfl))) (notFace_of_selects (args := #[]) (mvT hZ (hw _ (List.mem_of_getElem? (i := 40) rfl)))) (mvT hZ (hw _ (List.mem_of_getElem? (i := 40) rfl))) (mvT hZ (hw _ (List.mem_of_getElem? (i := 39) rfl))) (by decide) (backOf (W := 0) (sb_appC l Z a0 hw [] a (91 : Int32) b 256 t.length (tf t) cs h0 n0 Z0 S0 hcs O Sb (by decide) (by omega) g_a g_b) hZ (hw _ (List.mem_of_getElem? (i := 41) rfl)) (hw _ (List.mem_of_getElem? (i := 12) rfl)) (by decide) (by decide)) q99a q99c (g := (mkF m 10 #[.val (.ref w)] [(.int (91 : Int32)), (.ref a)])) rfl (by rw [hml]; rfl) (Steps.refl _) (argsL := [(.int (91 : Int32))]) (rest := []) (lenOf pd_3 rfl) rfl (by show 2 * 0 + _ ≤ _; exact Nat.le_of_eq rfl) (hb hby d26_10) (fun _ _ => ⟨rfl, e98, (by decide : 0 + 0 ≤ _), (by decide : 0 + 0 ≤ _)⟩)
  dsimp only [Pt.U, Pt.locs, Pt.cells, Pt.slots] at X99 l99 y99 z99 st99 hQ99
  subst l99 y99 z99
  obtain ⟨rfl, N99q, K99, Fx99⟩ := hQ99
  have N99 := Fr.app N97 N99q
  refine Ends.st st99 ?_
  have F99 := SBd.snoc (d := (91 : Int32)) (by decide) Fx99
  have E_1 := Ew.keep K99
  have Ft_1 := Ft.keep K99 nw
  have Fa_1 := Fa.keep K99 nw
  refine Ends.of (F' := T99.setTop (mkF m 16 #[.val (.ref w)] [(.int (0 : Int32)), (.ref w)])) (fun _ kt => ?_) ?_
  · show Steps p.tables e below (T99.setTop (mkF m 13 #[.val (.ref w)] [(.ref a)])) _
    refine XS.pop X99.here hx rfl (hb hby d26_13) rfl rfl ?_
    show Steps p.tables e below (T99.setTop (mkF m 14 #[.val (.ref w)] [])) _
    refine XS.aloadN X99.here hx rfl (hb hby d26_14) rfl rfl ?_
    show Steps p.tables e below (T99.setTop (mkF m 15 #[.val (.ref w)] [(.ref w)])) _
    refine XS.iconst X99.here hx rfl (hb hby d26_15) ?_
    exact kt
  obtain ⟨T100, h100, X100, e100, W100, st100⟩ := putFN X99 hx hZ hown (hw _ (List.mem_of_getElem? (i := 63) rfl)) Via.refl rfl Fa_1 E_1 (Or.inl (hw _ (List.mem_of_getElem? (i := 64) rfl))) (hw _ (List.mem_of_getElem? (i := 2) rfl)) (ty := .boolean) (v' := (.int (0 : Int32))) (by decide) rfl rfl (g := (mkF m 16 #[.val (.ref w)] [(.int (0 : Int32)), (.ref w)])) rfl rfl (hb hby d26_16)
  refine Ends.of st100 ?_
  have N100 := Fr.snoc X100 N99 g_w
  have Fa_2 := Fa_1.same W100
  have Ft_2 := Ft_1.other W100 (Or.inr (slot_ne (Or.inr (hw _ (List.mem_of_getElem? (i := 31) rfl))) (Or.inl (hw _ (List.mem_of_getElem? (i := 64) rfl))) (by decide) (t := (.object "java/lang/StringBuilder")) (t' := .boolean) (by decide) (by decide)))
  have E_2 := E_1.wr W100
  have Sb_2 := F99.keep (Keep.of_wr W100) (ninS (Ne.symm nwa) nin0) (ninS (Ne.symm nwb) nin0)
  have K9 : Keep h0 h100 [w, a, b] := ((Keep.refl h0 [w, a, b]).trans K99 (allS (Or.inl (List.mem_of_getElem? (i := 1) rfl)) (allS (Or.inl (List.mem_of_getElem? (i := 2) rfl)) all0))).wr W100 (Or.inl (List.mem_of_getElem? (i := 0) rfl))
  rw [← e100] at Fa_2 Ft_2 E_2 Sb_2 K9
  refine Ends.of (F' := T100.setTop (mkF m 20 #[.val (.ref w)] [(.ref w)])) (fun _ kt => ?_) ?_
  · show Steps p.tables e below (T100.setTop (mkF m 19 #[.val (.ref w)] [])) _
    refine XS.aloadN X100.here hx rfl (hb hby d26_19) rfl rfl ?_
    exact kt
  obtain ⟨fs, hr, hrun, hended, hW, hsame⟩ := X100.leave (v := some (.ref w)) (fun h => by rw [Bd.returns] at h; cases h)
  refine ⟨_, _, ?_, hrun, hended, _, _, rfl, ⟨rfl, N100, K9, E_2, Ft_2, Fa_2, Sb_2⟩, ⟨_, rfl⟩, hW, hsame.mono (by decide) (by decide)⟩
  show Steps p.tables e below (T100.setTop (mkF m 20 #[.val (.ref w)] [(.ref w)])) _
  jvm_step X100.here [X100.here.top, hx, (hb hby d26_20), X100.method', Bd.returns, Value.isRef, FieldType.isReference]
  first | (intro acts; rw [hr _ acts rfl rfl rfl]) | rw [hr _ _ rfl rfl rfl]
  exact Steps.refl _
def Q_jw_arr1 (Z : State) (w : Addr) (a : Addr) (b : Addr) (t : List Int32) (cs : Int32) (h0 : Heap) (n0 : Nat) (v : Option Value) (h : Heap) (L : List Loc) : Prop := v = some (.ref w) ∧ Fr n0 L ∧ Keep h0 h [w, a, b] ∧ JWr Z h w a b ((t ++ [44]) ++ [91]) (0 : Int32)
set_option maxRecDepth 65536 in
set_option maxHeartbeats 40000000 in
theorem jw_arr1 (l : Launch) (Z : State) (a0 : Array Value) (hw : ∀ d ∈ tables_1, d.before a0 Z = true) (ws : List Jvm.Cond) (w : Addr) (a : Addr) (b : Addr) (t : List Int32) (cs : Int32) (h0 : Heap) (n0 : Nat) (Z0 : n0 ≤ h0.size) (S0 : Sta Z Z.heap "java/lang/String" "COMPACT_STRINGS" "Z" (.int cs)) (hcs : ¬ cs = (0 : Int32)) (O : Old Z n0 h0) (F : JWr Z h0 w a b t (1 : Int32)) (hn : t.length + 2 ≤ 256) (g_w : n0 ≤ w) (g_a : n0 ≤ a) (g_b : n0 ≤ b) :
    MetFree l (⟨"com/example/tenantd/tenantd/server/JsonWriter", "array", "()Lcom/example/tenantd/tenantd/server/JsonWriter;"⟩ : MethodName) (head1 (Jvm.Cond.code (⟨"com/example/tenantd/tenantd/server/JsonWriter", "array", "()Lcom/example/tenantd/tenantd/server/JsonWriter;"⟩ : MethodName) prog_55_method_4_code 1 (some (.object "com/example/tenantd/tenantd/server/JsonWriter")) :: ws) ({ frames := 4, cells := 0, slots := 0, locals := 52 } : Room)) (fun a U => a = #[(.ref w)] ∧ Z.Warmed39 U.vm ∧ U.heap = h0) (fun _ _ _ _ _ => True) (fun _ U o U' => ∃ v L, o = .returned v ∧ Q_jw_arr1 Z w a b t cs h0 n0 v U'.heap L ∧ FrameEnd U o U' L ({ frames := 4, cells := 0, slots := 0, locals := 52 } : Room).cells ({ frames := 4, cells := 0, slots := 0, locals := 52 } : Room).slots) := by
  refine MetFree.of_bodySF (plainFor_of_name pn_6) hisR ?_
  intro p e s m args below meth c s₁ Bd hml0 hP hK
  obtain ⟨rfl, hZ, hh⟩ := hP
  have hx := Bd.exec
  have hby := Bd.bytes
  have hml : c.maxLocals = 1 := hml0
  have hown : s.vm.findClass "com/example/tenantd/tenantd/server/JsonWriter" = some m.cls := findClass_of_methodNamed Bd.named
  have hnm := (name_of_methodNamed Bd.named Bd.method).1
  have X0 : Stand p l e ({ frames := 4, cells := 0, slots := 0, locals := 52 } : Room) s m #[(.ref w)] below meth c s₁ [] 0 0 := Stand.of_body Bd
  have e0 : s₁.heap = h0 := by rw [← hh, Bd.state]; rfl
  have N0 := Fr.nil n0
  have eF : entryFrame m #[(.ref w)] 1 = mkF m 0 #[.val (.ref w)] [] := by first | (simp [entryFrame, mkF, argsToLocals, Value.category]; done) | rfl
  show Ends p e below s ({ frames := 4, cells := 0, slots := 0, locals := 52 } : Room) (Q_jw_arr1 Z w a b t cs h0 n0) (s₁.setTop (entryFrame m #[(.ref w)] 1))
  rw [eF]
  refine Ends.of (F' := s₁.setTop (mkF m 1 #[.val (.ref w)] [(.ref w)])) (fun _ kt => ?_) ?_
  · show Steps p.tables e below (s₁.setTop (mkF m 0 #[.val (.ref w)] [])) _
    refine XS.aloadN X0.here hx rfl (hb hby d26_0) rfl rfl ?_
    exact kt
  obtain ⟨cq101, q101, q101'⟩ := F.1.cell
  obtain ⟨_, _, ⟨T101, L101, k101, n101⟩, -, X101, ⟨Lc101, hQ101, l101, y101, z101⟩, st101⟩ := X0.privateBack hx (y := (⟨"com/example/tenantd/tenantd/server/JsonWriter", "separate", "()V"⟩ : MethodName)) hown (mvT hZ (hw _ (List.mem_of_getElem? (i := 149) rfl))) (mvT hZ (hw _ (List.mem_of_getElem? (i := 150) rfl))) (mvT hZ (own_psel (y := (⟨"com/example/tenantd/tenantd/server/JsonWriter", "separate", "()V"⟩ : MethodName)) (z := (⟨"com/example/tenantd/tenantd/server/JsonWriter", "endArray", "()Lcom/example/tenantd/tenantd/server/JsonWriter;"⟩ : MethodName)) rfl (by decide) (hw _ (List.mem_of_getElem? (i := 150) rfl)) (hw _ (List.mem_of_getElem? (i := 151) rfl)) (hw _ (List.mem_of_getElem? (i := 35) rfl)))) (Cond.privateMethod_at (mvP hZ (hw _ (List.mem_of_getElem? (i := 151) rfl)) (args := #[]))) (mvT hZ (hw _ (List.mem_of_getElem? (i := 152) rfl))) (by decide) (backOf (W := 0) (jw_sep1 l Z a0 hw [] w a b t cs h0 n0 Z0 S0 hcs O F (by omega) g_w g_a g_b) hZ (hw _ (List.mem_of_getElem? (i := 152) rfl)) (hw _ (List.mem_of_getElem? (i := 3) rfl)) (by decide) (by decide)) (g := (mkF m 1 #[.val (.ref w)] [(.ref w)])) rfl (by rw [hml]; rfl) (Steps.refl _) (a := w) (by rw [e0]; exact q101) q101' (argsL := []) (rest := []) (lenOf pd_0 rfl) rfl (by show 2 * 0 + _ ≤ _; exact Nat.le_of_eq rfl) (hb hby d26_1) (fun _ _ => ⟨rfl, e0, (by decide : 0 + 0 ≤ _), (by decide : 0 + 0 ≤ _)⟩)
  dsimp only [Pt.U, Pt.locs, Pt.cells, Pt.slots] at X101 l101 y101 z101 st101 hQ101
  subst l101 y101 z101
  obtain ⟨rfl, N101q, K101, F101⟩ := hQ101
  have N101 := Fr.app N0 N101q
  refine Ends.st st101 ?_
  have Z1 : n0 ≤ T101.heap.size := Nat.le_trans Z0 K101.1
  have O1 := O.keep K101 (allS g_a (allS g_b all0))
  obtain ⟨Ew, Ft, Fa, Sb⟩ := id F101
  have nwa : w ≠ a := Exa.ne Ew Sb.1 (by decide)
  obtain ⟨cb0, Ab0, -, -, -⟩ := Sb.2.2.2.2.1.op
  have nwb : w ≠ b := ne_arr Ew (hw _ (List.mem_of_getElem? (i := 2) rfl)) Ab0
  have nw : w ∉ [a, b] := ninS nwa (ninS nwb nin0)
  refine Ends.of (F' := T101.setTop (mkF m 5 #[.val (.ref w)] [(.ref w)])) (fun _ kt => ?_) ?_
  · show Steps p.tables e below (T101.setTop (mkF m 4 #[.val (.ref w)] [])) _
    refine XS.aloadN X101.here hx rfl (hb hby d26_4) rfl rfl ?_
    exact kt
  obtain ⟨T102, X102, e102, st102⟩ := getF X101 hx hZ hown (host := "") (Or.inl (hw _ (List.mem_of_getElem? (i := 30) rfl))) Via.refl rfl Ft (g := (mkF m 5 #[.val (.ref w)] [(.ref w)])) rfl rfl (hb hby d26_5)
  refine Ends.of st102 ?_
  refine Ends.of (F' := T102.setTop (mkF m 10 #[.val (.ref w)] [(.int (91 : Int32)), (.ref a)])) (fun _ kt => ?_) ?_
  · show Steps p.tables e below (T102.setTop (mkF m 8 #[.val (.ref w)] [(.ref a)])) _
    refine XS.bipush X102.here hx rfl (hb hby d26_8) ?_
    exact kt
  obtain ⟨cq103, kq103, q103a, q103b, q103c⟩ := isOf hZ e102 Sb.1
  obtain ⟨_, _, ⟨T103, L103, k103, n103⟩, -, X103, ⟨Lc103, hQ103, l103, y103, z103⟩, st103⟩ := X102.virtualBack hx (y := (⟨"java/lang/StringBuilder", "append", "(C)Ljava/lang/StringBuilder;"⟩ : MethodName)) (z := (⟨"java/lang/StringBuilder", "append", "(C)Ljava/lang/StringBuilder;"⟩ : MethodName)) hown (mvT hZ (hw _ (List.mem_of_getElem? (i := 37) rfl))) (mvT hZ (hw _ (List.mem_of_getElem? (i := 38) rfl))) (notFace_of_selects (args := #[]) (mvT hZ (hw _ (List.mem_of_getElem? (i := 40) rfl)))) (mvT hZ (hw _ (List.mem_of_getElem? (i := 40) rfl))) (mvT hZ (hw _ (List.mem_of_getElem? (i := 39) rfl))) (by decide) (backOf (W := 0) (sb_appC l Z a0 hw [] a (91 : Int32) b 256 (t ++ [44]).length (tf (t ++ [44])) cs T101.heap n0 Z1 S0 hcs O1 Sb (by decide) (by simp only [List.length_append, List.length_cons, List.length_nil]; omega) g_a g_b) hZ (hw _ (List.mem_of_getElem? (i := 41) rfl)) (hw _ (List.mem_of_getElem? (i := 12) rfl)) (by decide) (by decide)) q103a q103c (g := (mkF m 10 #[.val (.ref w)] [(.int (91 : Int32)), (.ref a)])) rfl (by rw [hml]; rfl) (Steps.refl _) (argsL := [(.int (91 : Int32))]) (rest := []) (lenOf pd_3 rfl) rfl (by show 2 * 0 + _ ≤ _; exact Nat.le_of_eq rfl) (hb hby d26_10) (fun _ _ => ⟨rfl, e102, (by decide : 0 + 0 ≤ _), (by decide : 0 + 0 ≤ _)⟩)
  dsimp only [Pt.U, Pt.locs, Pt.cells, Pt.slots] at X103 l103 y103 z103 st103 hQ103
  subst l103 y103 z103
  obtain ⟨rfl, N103q, K103, Fx103⟩ := hQ103
  have N103 := Fr.app N101 N103q
  refine Ends.st st103 ?_
  have F103 := SBd.snoc (d := (91 : Int32)) (by decide) Fx103
  have E_1 := Ew.keep K103
  have Ft_1 := Ft.keep K103 nw
  have Fa_1 := Fa.keep K103 nw
  refine Ends.of (F' := T103.setTop (mkF m 16 #[.val (.ref w)] [(.int (0 : Int32)), (.ref w)])) (fun _ kt => ?_) ?_
  · show Steps p.tables e below (T103.setTop (mkF m 13 #[.val (.ref w)] [(.ref a)])) _
    refine XS.pop X103.here hx rfl (hb hby d26_13) rfl rfl ?_
    show Steps p.tables e below (T103.setTop (mkF m 14 #[.val (.ref w)] [])) _
    refine XS.aloadN X103.here hx rfl (hb hby d26_14) rfl rfl ?_
    show Steps p.tables e below (T103.setTop (mkF m 15 #[.val (.ref w)] [(.ref w)])) _
    refine XS.iconst X103.here hx rfl (hb hby d26_15) ?_
    exact kt
  obtain ⟨T104, h104, X104, e104, W104, st104⟩ := putFN X103 hx hZ hown (hw _ (List.mem_of_getElem? (i := 63) rfl)) Via.refl rfl Fa_1 E_1 (Or.inl (hw _ (List.mem_of_getElem? (i := 64) rfl))) (hw _ (List.mem_of_getElem? (i := 2) rfl)) (ty := .boolean) (v' := (.int (0 : Int32))) (by decide) rfl rfl (g := (mkF m 16 #[.val (.ref w)] [(.int (0 : Int32)), (.ref w)])) rfl rfl (hb hby d26_16)
  refine Ends.of st104 ?_
  have N104 := Fr.snoc X104 N103 g_w
  have Fa_2 := Fa_1.same W104
  have Ft_2 := Ft_1.other W104 (Or.inr (slot_ne (Or.inr (hw _ (List.mem_of_getElem? (i := 31) rfl))) (Or.inl (hw _ (List.mem_of_getElem? (i := 64) rfl))) (by decide) (t := (.object "java/lang/StringBuilder")) (t' := .boolean) (by decide) (by decide)))
  have E_2 := E_1.wr W104
  have Sb_2 := F103.keep (Keep.of_wr W104) (ninS (Ne.symm nwa) nin0) (ninS (Ne.symm nwb) nin0)
  have K9 : Keep h0 h104 [w, a, b] := (((Keep.refl h0 [w, a, b]).trans K101 (allS (Or.inl (List.mem_of_getElem? (i := 1) rfl)) (allS (Or.inl (List.mem_of_getElem? (i := 2) rfl)) all0))).trans K103 (allS (Or.inl (List.mem_of_getElem? (i := 1) rfl)) (allS (Or.inl (List.mem_of_getElem? (i := 2) rfl)) all0))).wr W104 (Or.inl (List.mem_of_getElem? (i := 0) rfl))
  rw [← e104] at Fa_2 Ft_2 E_2 Sb_2 K9
  refine Ends.of (F' := T104.setTop (mkF m 20 #[.val (.ref w)] [(.ref w)])) (fun _ kt => ?_) ?_
  · show Steps p.tables e below (T104.setTop (mkF m 19 #[.val (.ref w)] [])) _
    refine XS.aloadN X104.here hx rfl (hb hby d26_19) rfl rfl ?_
    exact kt
  obtain ⟨fs, hr, hrun, hended, hW, hsame⟩ := X104.leave (v := some (.ref w)) (fun h => by rw [Bd.returns] at h; cases h)
  refine ⟨_, _, ?_, hrun, hended, _, _, rfl, ⟨rfl, N104, K9, E_2, Ft_2, Fa_2, Sb_2⟩, ⟨_, rfl⟩, hW, hsame.mono (by decide) (by decide)⟩
  show Steps p.tables e below (T104.setTop (mkF m 20 #[.val (.ref w)] [(.ref w)])) _
  jvm_step X104.here [X104.here.top, hx, (hb hby d26_20), X104.method', Bd.returns, Value.isRef, FieldType.isReference]
  first | (intro acts; rw [hr _ acts rfl rfl rfl]) | rw [hr _ _ rfl rfl rfl]
  exact Steps.refl _
theorem d37_0 : decode prog_55_method_2_code 0 = .ok (.aload_n 0, 1) := by decide +kernel
theorem d37_1 : decode prog_55_method_2_code 1 = .ok (.invokevirtual 18, 3) := by decide +kernel
theorem d37_4 : decode prog_55_method_2_code 4 = .ok (.aload_n 0, 1) := by decide +kernel
theorem d37_5 : decode prog_55_method_2_code 5 = .ok (.getfield 12, 3) := by decide +kernel
theorem d37_8 : decode prog_55_method_2_code 8 = .ok (.bipush 123, 2) := by decide +kernel
theorem d37_10 : decode prog_55_method_2_code 10 = .ok (.invokevirtual 21, 3) := by decide +kernel
theorem d37_13 : decode prog_55_method_2_code 13 = .ok (.pop, 1) := by decide +kernel
theorem d37_14 : decode prog_55_method_2_code 14 = .ok (.aload_n 0, 1) := by decide +kernel
theorem d37_15 : decode prog_55_method_2_code 15 = .ok (.iconst 0, 1) := by decide +kernel
theorem d37_16 : decode prog_55_method_2_code 16 = .ok (.putfield 25, 3) := by decide +kernel
theorem d37_19 : decode prog_55_method_2_code 19 = .ok (.aload_n 0, 1) := by decide +kernel
theorem d37_20 : decode prog_55_method_2_code 20 = .ok (.areturn, 1) := by decide +kernel
def Q_jw_obj0 (Z : State) (w : Addr) (a : Addr) (b : Addr) (t : List Int32) (cs : Int32) (h0 : Heap) (n0 : Nat) (v : Option Value) (h : Heap) (L : List Loc) : Prop := v = some (.ref w) ∧ Fr n0 L ∧ Keep h0 h [w, a, b] ∧ JWr Z h w a b (t ++ [123]) (0 : Int32)
set_option maxRecDepth 65536 in
set_option maxHeartbeats 40000000 in
theorem jw_obj0 (l : Launch) (Z : State) (a0 : Array Value) (hw : ∀ d ∈ tables_1, d.before a0 Z = true) (ws : List Jvm.Cond) (w : Addr) (a : Addr) (b : Addr) (t : List Int32) (cs : Int32) (h0 : Heap) (n0 : Nat) (Z0 : n0 ≤ h0.size) (S0 : Sta Z Z.heap "java/lang/String" "COMPACT_STRINGS" "Z" (.int cs)) (hcs : ¬ cs = (0 : Int32)) (O : Old Z n0 h0) (F : JWr Z h0 w a b t (0 : Int32)) (hn : t.length + 1 ≤ 256) (g_w : n0 ≤ w) (g_a : n0 ≤ a) (g_b : n0 ≤ b) :
    MetFree l (⟨"com/example/tenantd/tenantd/server/JsonWriter", "object", "()Lcom/example/tenantd/tenantd/server/JsonWriter;"⟩ : MethodName) (head1 (Jvm.Cond.code (⟨"com/example/tenantd/tenantd/server/JsonWriter", "object", "()Lcom/example/tenantd/tenantd/server/JsonWriter;"⟩ : MethodName) prog_55_method_2_code 1 (some (.object "com/example/tenantd/tenantd/server/JsonWriter")) :: ws) ({ frames := 3, cells := 0, slots := 0, locals := 40 } : Room)) (fun a U => a = #[(.ref w)] ∧ Z.Warmed39 U.vm ∧ U.heap = h0) (fun _ _ _ _ _ => True) (fun _ U o U' => ∃ v L, o = .returned v ∧ Q_jw_obj0 Z w a b t cs h0 n0 v U'.heap L ∧ FrameEnd U o U' L ({ frames := 3, cells := 0, slots := 0, locals := 40 } : Room).cells ({ frames := 3, cells := 0, slots := 0, locals := 40 } : Room).slots) := by
  refine MetFree.of_bodySF (plainFor_of_name pn_6) hisR ?_
  intro p e s m args below meth c s₁ Bd hml0 hP hK
  obtain ⟨rfl, hZ, hh⟩ := hP
  have hx := Bd.exec
  have hby := Bd.bytes
  have hml : c.maxLocals = 1 := hml0
  have hown : s.vm.findClass "com/example/tenantd/tenantd/server/JsonWriter" = some m.cls := findClass_of_methodNamed Bd.named
  have hnm := (name_of_methodNamed Bd.named Bd.method).1
  have X0 : Stand p l e ({ frames := 3, cells := 0, slots := 0, locals := 40 } : Room) s m #[(.ref w)] below meth c s₁ [] 0 0 := Stand.of_body Bd
  have e0 : s₁.heap = h0 := by rw [← hh, Bd.state]; rfl
  have N0 := Fr.nil n0
  have eF : entryFrame m #[(.ref w)] 1 = mkF m 0 #[.val (.ref w)] [] := by first | (simp [entryFrame, mkF, argsToLocals, Value.category]; done) | rfl
  show Ends p e below s ({ frames := 3, cells := 0, slots := 0, locals := 40 } : Room) (Q_jw_obj0 Z w a b t cs h0 n0) (s₁.setTop (entryFrame m #[(.ref w)] 1))
  rw [eF]
  refine Ends.of (F' := s₁.setTop (mkF m 1 #[.val (.ref w)] [(.ref w)])) (fun _ kt => ?_) ?_
  · show Steps p.tables e below (s₁.setTop (mkF m 0 #[.val (.ref w)] [])) _
    refine XS.aloadN X0.here hx rfl (hb hby d37_0) rfl rfl ?_
    exact kt
  obtain ⟨cq105, q105, q105'⟩ := F.1.cell
  obtain ⟨_, _, ⟨T105, L105, k105, n105⟩, -, X105, ⟨Lc105, hQ105, l105, y105, z105⟩, st105⟩ := X0.privateBack hx (y := (⟨"com/example/tenantd/tenantd/server/JsonWriter", "separate", "()V"⟩ : MethodName)) hown (mvT hZ (hw _ (List.mem_of_getElem? (i := 149) rfl))) (mvT hZ (hw _ (List.mem_of_getElem? (i := 150) rfl))) (mvT hZ (own_psel (y := (⟨"com/example/tenantd/tenantd/server/JsonWriter", "separate", "()V"⟩ : MethodName)) (z := (⟨"com/example/tenantd/tenantd/server/JsonWriter", "endArray", "()Lcom/example/tenantd/tenantd/server/JsonWriter;"⟩ : MethodName)) rfl (by decide) (hw _ (List.mem_of_getElem? (i := 150) rfl)) (hw _ (List.mem_of_getElem? (i := 151) rfl)) (hw _ (List.mem_of_getElem? (i := 35) rfl)))) (Cond.privateMethod_at (mvP hZ (hw _ (List.mem_of_getElem? (i := 151) rfl)) (args := #[]))) (mvT hZ (hw _ (List.mem_of_getElem? (i := 152) rfl))) (by decide) (backOf (W := 0) (jw_sep0 l Z a0 hw [] w h0 n0 Z0 F.2.2.1) hZ (hw _ (List.mem_of_getElem? (i := 152) rfl)) (hw _ (List.mem_of_getElem? (i := 3) rfl)) (by decide) (by decide)) (g := (mkF m 1 #[.val (.ref w)] [(.ref w)])) rfl (by rw [hml]; rfl) (Steps.refl _) (a := w) (by rw [e0]; exact q105) q105' (argsL := []) (rest := []) (lenOf pd_0 rfl) rfl (by show 2 * 0 + _ ≤ _; exact Nat.le_of_eq rfl) (hb hby d37_1) (fun _ _ => ⟨rfl, e0, (by decide : 0 + 0 ≤ _), (by decide : 0 + 0 ≤ _)⟩)
  dsimp only [Pt.U, Pt.locs, Pt.cells, Pt.slots] at X105 l105 y105 z105 st105 hQ105
  subst l105 y105 z105
  obtain ⟨rfl, N105q, e105⟩ := hQ105
  have N105 := Fr.app N0 N105q
  refine Ends.st st105 ?_
  obtain ⟨Ew, Ft, Fa, Sb⟩ := id F
  have nwa : w ≠ a := Exa.ne Ew Sb.1 (by decide)
  obtain ⟨cb0, Ab0, -, -, -⟩ := Sb.2.2.2.2.1.op
  have nwb : w ≠ b := ne_arr Ew (hw _ (List.mem_of_getElem? (i := 2) rfl)) Ab0
  have nw : w ∉ [a, b] := ninS nwa (ninS nwb nin0)
  refine Ends.of (F' := T105.setTop (mkF m 5 #[.val (.ref w)] [(.ref w)])) (fun _ kt => ?_) ?_
  · show Steps p.tables e below (T105.setTop (mkF m 4 #[.val (.ref w)] [])) _
    refine XS.aloadN X105.here hx rfl (hb hby d37_4) rfl rfl ?_
    exact kt
  obtain ⟨T106, X106, e106, st106⟩ := getF X105 hx hZ hown (host := "") (Or.inl (hw _ (List.mem_of_getElem? (i := 30) rfl))) Via.refl e105 Ft (g := (mkF m 5 #[.val (.ref w)] [(.ref w)])) rfl rfl (hb hby d37_5)
  refine Ends.of st106 ?_
  refine Ends.of (F' := T106.setTop (mkF m 10 #[.val (.ref w)] [(.int (123 : Int32)), (.ref a)])) (fun _ kt => ?_) ?_
  · show Steps p.tables e below (T106.setTop (mkF m 8 #[.val (.ref w)] [(.ref a)])) _
    refine XS.bipush X106.here hx rfl (hb hby d37_8) ?_
    exact kt
  obtain ⟨cq107, kq107, q107a, q107b, q107c⟩ := isOf hZ e106 Sb.1
  obtain ⟨_, _, ⟨T107, L107, k107, n107⟩, -, X107, ⟨Lc107, hQ107, l107, y107, z107⟩, st107⟩ := X106.virtualBack hx (y := (⟨"java/lang/StringBuilder", "append", "(C)Ljava/lang/StringBuilder;"⟩ : MethodName)) (z := (⟨"java/lang/StringBuilder", "append", "(C)Ljava/lang/StringBuilder;"⟩ : MethodName)) hown (mvT hZ (hw _ (List.mem_of_getElem? (i := 37) rfl))) (mvT hZ (hw _ (List.mem_of_getElem? (i := 38) rfl))) (notFace_of_selects (args := #[]) (mvT hZ (hw _ (List.mem_of_getElem? (i := 40) rfl)))) (mvT hZ (hw _ (List.mem_of_getElem? (i := 40) rfl))) (mvT hZ (hw _ (List.mem_of_getElem? (i := 39) rfl))) (by decide) (backOf (W := 0) (sb_appC l Z a0 hw [] a (123 : Int32) b 256 t.length (tf t) cs h0 n0 Z0 S0 hcs O Sb (by decide) (by omega) g_a g_b) hZ (hw _ (List.mem_of_getElem? (i := 41) rfl)) (hw _ (List.mem_of_getElem? (i := 12) rfl)) (by decide) (by decide)) q107a q107c (g := (mkF m 10 #[.val (.ref w)] [(.int (123 : Int32)), (.ref a)])) rfl (by rw [hml]; rfl) (Steps.refl _) (argsL := [(.int (123 : Int32))]) (rest := []) (lenOf pd_3 rfl) rfl (by show 2 * 0 + _ ≤ _; exact Nat.le_of_eq rfl) (hb hby d37_10) (fun _ _ => ⟨rfl, e106, (by decide : 0 + 0 ≤ _), (by decide : 0 + 0 ≤ _)⟩)
  dsimp only [Pt.U, Pt.locs, Pt.cells, Pt.slots] at X107 l107 y107 z107 st107 hQ107
  subst l107 y107 z107
  obtain ⟨rfl, N107q, K107, Fx107⟩ := hQ107
  have N107 := Fr.app N105 N107q
  refine Ends.st st107 ?_
  have F107 := SBd.snoc (d := (123 : Int32)) (by decide) Fx107
  have E_1 := Ew.keep K107
  have Ft_1 := Ft.keep K107 nw
  have Fa_1 := Fa.keep K107 nw
  refine Ends.of (F' := T107.setTop (mkF m 16 #[.val (.ref w)] [(.int (0 : Int32)), (.ref w)])) (fun _ kt => ?_) ?_
  · show Steps p.tables e below (T107.setTop (mkF m 13 #[.val (.ref w)] [(.ref a)])) _
    refine XS.pop X107.here hx rfl (hb hby d37_13) rfl rfl ?_
    show Steps p.tables e below (T107.setTop (mkF m 14 #[.val (.ref w)] [])) _
    refine XS.aloadN X107.here hx rfl (hb hby d37_14) rfl rfl ?_
    show Steps p.tables e below (T107.setTop (mkF m 15 #[.val (.ref w)] [(.ref w)])) _
    refine XS.iconst X107.here hx rfl (hb hby d37_15) ?_
    exact kt
  obtain ⟨T108, h108, X108, e108, W108, st108⟩ := putFN X107 hx hZ hown (hw _ (List.mem_of_getElem? (i := 63) rfl)) Via.refl rfl Fa_1 E_1 (Or.inl (hw _ (List.mem_of_getElem? (i := 64) rfl))) (hw _ (List.mem_of_getElem? (i := 2) rfl)) (ty := .boolean) (v' := (.int (0 : Int32))) (by decide) rfl rfl (g := (mkF m 16 #[.val (.ref w)] [(.int (0 : Int32)), (.ref w)])) rfl rfl (hb hby d37_16)
  refine Ends.of st108 ?_
  have N108 := Fr.snoc X108 N107 g_w
  have Fa_2 := Fa_1.same W108
  have Ft_2 := Ft_1.other W108 (Or.inr (slot_ne (Or.inr (hw _ (List.mem_of_getElem? (i := 31) rfl))) (Or.inl (hw _ (List.mem_of_getElem? (i := 64) rfl))) (by decide) (t := (.object "java/lang/StringBuilder")) (t' := .boolean) (by decide) (by decide)))
  have E_2 := E_1.wr W108
  have Sb_2 := F107.keep (Keep.of_wr W108) (ninS (Ne.symm nwa) nin0) (ninS (Ne.symm nwb) nin0)
  have K9 : Keep h0 h108 [w, a, b] := ((Keep.refl h0 [w, a, b]).trans K107 (allS (Or.inl (List.mem_of_getElem? (i := 1) rfl)) (allS (Or.inl (List.mem_of_getElem? (i := 2) rfl)) all0))).wr W108 (Or.inl (List.mem_of_getElem? (i := 0) rfl))
  rw [← e108] at Fa_2 Ft_2 E_2 Sb_2 K9
  refine Ends.of (F' := T108.setTop (mkF m 20 #[.val (.ref w)] [(.ref w)])) (fun _ kt => ?_) ?_
  · show Steps p.tables e below (T108.setTop (mkF m 19 #[.val (.ref w)] [])) _
    refine XS.aloadN X108.here hx rfl (hb hby d37_19) rfl rfl ?_
    exact kt
  obtain ⟨fs, hr, hrun, hended, hW, hsame⟩ := X108.leave (v := some (.ref w)) (fun h => by rw [Bd.returns] at h; cases h)
  refine ⟨_, _, ?_, hrun, hended, _, _, rfl, ⟨rfl, N108, K9, E_2, Ft_2, Fa_2, Sb_2⟩, ⟨_, rfl⟩, hW, hsame.mono (by decide) (by decide)⟩
  show Steps p.tables e below (T108.setTop (mkF m 20 #[.val (.ref w)] [(.ref w)])) _
  jvm_step X108.here [X108.here.top, hx, (hb hby d37_20), X108.method', Bd.returns, Value.isRef, FieldType.isReference]
  first | (intro acts; rw [hr _ acts rfl rfl rfl]) | rw [hr _ _ rfl rfl rfl]
  exact Steps.refl _
theorem d34_0 : decode prog_55_method_11_code 0 = .ok (.aload_n 0, 1) := by decide +kernel
theorem d34_1 : decode prog_55_method_11_code 1 = .ok (.invokevirtual 18, 3) := by decide +kernel
theorem d34_4 : decode prog_55_method_11_code 4 = .ok (.aload_n 0, 1) := by decide +kernel
theorem d34_5 : decode prog_55_method_11_code 5 = .ok (.getfield 12, 3) := by decide +kernel
theorem d34_8 : decode prog_55_method_11_code 8 = .ok (.iload_n 1, 1) := by decide +kernel
theorem d34_9 : decode prog_55_method_11_code 9 = .ok (.invokevirtual 51, 3) := by decide +kernel
theorem d34_12 : decode prog_55_method_11_code 12 = .ok (.pop, 1) := by decide +kernel
theorem d34_13 : decode prog_55_method_11_code 13 = .ok (.aload_n 0, 1) := by decide +kernel
theorem d34_14 : decode prog_55_method_11_code 14 = .ok (.iconst 1, 1) := by decide +kernel
theorem d34_15 : decode prog_55_method_11_code 15 = .ok (.putfield 25, 3) := by decide +kernel
theorem d34_18 : decode prog_55_method_11_code 18 = .ok (.aload_n 0, 1) := by decide +kernel
theorem d34_19 : decode prog_55_method_11_code 19 = .ok (.areturn, 1) := by decide +kernel
def Q_jw_val00 (Z : State) (w : Addr) (a : Addr) (b : Addr) (t : List Int32) (cs : Int32) (h0 : Heap) (n0 : Nat) (v : Option Value) (h : Heap) (L : List Loc) : Prop := v = some (.ref w) ∧ Fr n0 L ∧ Keep h0 h [w, a, b] ∧ JWr Z h w a b (t ++ [102] ++ [97] ++ [108] ++ [115] ++ [101]) (1 : Int32)
set_option maxRecDepth 65536 in
set_option maxHeartbeats 40000000 in
theorem jw_val00 (l : Launch) (Z : State) (a0 : Array Value) (hw : ∀ d ∈ tables_1, d.before a0 Z = true) (ws : List Jvm.Cond) (w : Addr) (a : Addr) (b : Addr) (t : List Int32) (cs : Int32) (h0 : Heap) (n0 : Nat) (Z0 : n0 ≤ h0.size) (S0 : Sta Z Z.heap "java/lang/String" "COMPACT_STRINGS" "Z" (.int cs)) (hcs : ¬ cs = (0 : Int32)) (O : Old Z n0 h0) (F : JWr Z h0 w a b t (0 : Int32)) (hn : t.length + 5 ≤ 256) (g_w : n0 ≤ w) (g_a : n0 ≤ a) (g_b : n0 ≤ b) :
    MetFree l (⟨"com/example/tenantd/tenantd/server/JsonWriter", "value", "(Z)Lcom/example/tenantd/tenantd/server/JsonWriter;"⟩ : MethodName) (head1 (Jvm.Cond.code (⟨"com/example/tenantd/tenantd/server/JsonWriter", "value", "(Z)Lcom/example/tenantd/tenantd/server/JsonWriter;"⟩ : MethodName) prog_55_method_11_code 2 (some (.object "com/example/tenantd/tenantd/server/JsonWriter")) :: ws) ({ frames := 3, cells := 0, slots := 0, locals := 42 } : Room)) (fun a U => a = #[(.ref w), (.int (0 : Int32))] ∧ Z.Warmed39 U.vm ∧ U.heap = h0) (fun _ _ _ _ _ => True) (fun _ U o U' => ∃ v L, o = .returned v ∧ Q_jw_val00 Z w a b t cs h0 n0 v U'.heap L ∧ FrameEnd U o U' L ({ frames := 3, cells := 0, slots := 0, locals := 42 } : Room).cells ({ frames := 3, cells := 0, slots := 0, locals := 42 } : Room).slots) := by
  refine MetFree.of_bodySF (plainFor_of_name pn_6) hisR ?_
  intro p e s m args below meth c s₁ Bd hml0 hP hK
  obtain ⟨rfl, hZ, hh⟩ := hP
  have hx := Bd.exec
  have hby := Bd.bytes
  have hml : c.maxLocals = 2 := hml0
  have hown : s.vm.findClass "com/example/tenantd/tenantd/server/JsonWriter" = some m.cls := findClass_of_methodNamed Bd.named
  have hnm := (name_of_methodNamed Bd.named Bd.method).1
  have X0 : Stand p l e ({ frames := 3, cells := 0, slots := 0, locals := 42 } : Room) s m #[(.ref w), (.int (0 : Int32))] below meth c s₁ [] 0 0 := Stand.of_body Bd
  have e0 : s₁.heap = h0 := by rw [← hh, Bd.state]; rfl
  have N0 := Fr.nil n0
  have eF : entryFrame m #[(.ref w), (.int (0 : Int32))] 2 = mkF m 0 #[.val (.ref w), .val (.int (0 : Int32))] [] := by first | (simp [entryFrame, mkF, argsToLocals, Value.category]; done) | rfl
  show Ends p e below s ({ frames := 3, cells := 0, slots := 0, locals := 42 } : Room) (Q_jw_val00 Z w a b t cs h0 n0) (s₁.setTop (entryFrame m #[(.ref w), (.int (0 : Int32))] 2))
  rw [eF]
  refine Ends.of (F' := s₁.setTop (mkF m 1 #[.val (.ref w), .val (.int (0 : Int32))] [(.ref w)])) (fun _ kt => ?_) ?_
  · show Steps p.tables e below (s₁.setTop (mkF m 0 #[.val (.ref w), .val (.int (0 : Int32))] [])) _
    refine XS.aloadN X0.here hx rfl (hb hby d34_0) rfl rfl ?_
    exact kt
  obtain ⟨cq109, q109, q109'⟩ := F.1.cell
  obtain ⟨_, _, ⟨T109, L109, k109, n109⟩, -, X109, ⟨Lc109, hQ109, l109, y109, z109⟩, st109⟩ := X0.privateBack hx (y := (⟨"com/example/tenantd/tenantd/server/JsonWriter", "separate", "()V"⟩ : MethodName)) hown (mvT hZ (hw _ (List.mem_of_getElem? (i := 149) rfl))) (mvT hZ (hw _ (List.mem_of_getElem? (i := 150) rfl))) (mvT hZ (own_psel (y := (⟨"com/example/tenantd/tenantd/server/JsonWriter", "separate", "()V"⟩ : MethodName)) (z := (⟨"com/example/tenantd/tenantd/server/JsonWriter", "endArray", "()Lcom/example/tenantd/tenantd/server/JsonWriter;"⟩ : MethodName)) rfl (by decide) (hw _ (List.mem_of_getElem? (i := 150) rfl)) (hw _ (List.mem_of_getElem? (i := 151) rfl)) (hw _ (List.mem_of_getElem? (i := 35) rfl)))) (Cond.privateMethod_at (mvP hZ (hw _ (List.mem_of_getElem? (i := 151) rfl)) (args := #[]))) (mvT hZ (hw _ (List.mem_of_getElem? (i := 152) rfl))) (by decide) (backOf (W := 0) (jw_sep0 l Z a0 hw [] w h0 n0 Z0 F.2.2.1) hZ (hw _ (List.mem_of_getElem? (i := 152) rfl)) (hw _ (List.mem_of_getElem? (i := 3) rfl)) (by decide) (by decide)) (g := (mkF m 1 #[.val (.ref w), .val (.int (0 : Int32))] [(.ref w)])) rfl (by rw [hml]; rfl) (Steps.refl _) (a := w) (by rw [e0]; exact q109) q109' (argsL := []) (rest := []) (lenOf pd_0 rfl) rfl (by show 2 * 0 + _ ≤ _; exact Nat.le_of_eq rfl) (hb hby d34_1) (fun _ _ => ⟨rfl, e0, (by decide : 0 + 0 ≤ _), (by decide : 0 + 0 ≤ _)⟩)
  dsimp only [Pt.U, Pt.locs, Pt.cells, Pt.slots] at X109 l109 y109 z109 st109 hQ109
  subst l109 y109 z109
  obtain ⟨rfl, N109q, e109⟩ := hQ109
  have N109 := Fr.app N0 N109q
  refine Ends.st st109 ?_
  obtain ⟨Ew, Ft, Fa, Sb⟩ := id F
  have nwa : w ≠ a := Exa.ne Ew Sb.1 (by decide)
  obtain ⟨cb0, Ab0, -, -, -⟩ := Sb.2.2.2.2.1.op
  have nwb : w ≠ b := ne_arr Ew (hw _ (List.mem_of_getElem? (i := 2) rfl)) Ab0
  have nw : w ∉ [a, b] := ninS nwa (ninS nwb nin0)
  refine Ends.of (F' := T109.setTop (mkF m 5 #[.val (.ref w), .val (.int (0 : Int32))] [(.ref w)])) (fun _ kt => ?_) ?_
  · show Steps p.tables e below (T109.setTop (mkF m 4 #[.val (.ref w), .val (.int (0 : Int32))] [])) _
    refine XS.aloadN X109.here hx rfl (hb hby d34_4) rfl rfl ?_
    exact kt
  obtain ⟨T110, X110, e110, st110⟩ := getF X109 hx hZ hown (host := "") (Or.inl (hw _ (List.mem_of_getElem? (i := 30) rfl))) Via.refl e109 Ft (g := (mkF m 5 #[.val (.ref w), .val (.int (0 : Int32))] [(.ref w)])) rfl rfl (hb hby d34_5)
  refine Ends.of st110 ?_
  refine Ends.of (F' := T110.setTop (mkF m 9 #[.val (.ref w), .val (.int (0 : Int32))] [(.int (0 : Int32)), (.ref a)])) (fun _ kt => ?_) ?_
  · show Steps p.tables e below (T110.setTop (mkF m 8 #[.val (.ref w), .val (.int (0 : Int32))] [(.ref a)])) _
    refine XS.iloadN X110.here hx rfl (hb hby d34_8) rfl ?_
    exact kt
  obtain ⟨cq111, kq111, q111a, q111b, q111c⟩ := isOf hZ e110 Sb.1
  obtain ⟨_, _, ⟨T111, L111, k111, n111⟩, -, X111, ⟨Lc111, hQ111, l111, y111, z111⟩, st111⟩ := X110.virtualBack hx (y := (⟨"java/lang/StringBuilder", "append", "(Z)Ljava/lang/StringBuilder;"⟩ : MethodName)) (z := (⟨"java/lang/StringBuilder", "append", "(Z)Ljava/lang/StringBuilder;"⟩ : MethodName)) hown (mvT hZ (hw _ (List.mem_of_getElem? (i := 184) rfl))) (mvT hZ (hw _ (List.mem_of_getElem? (i := 185) rfl))) (notFace_of_selects (args := #[]) (mvT hZ (hw _ (List.mem_of_getElem? (i := 187) rfl)))) (mvT hZ (hw _ (List.mem_of_getElem? (i := 187) rfl))) (mvT hZ (hw _ (List.mem_of_getElem? (i := 186) rfl))) (by decide) (backOf (W := 0) (sb_appZ0 l Z a0 hw [] a b 256 t.length (tf t) cs h0 n0 Z0 S0 hcs O Sb (by omega) g_a g_b) hZ (hw _ (List.mem_of_getElem? (i := 188) rfl)) (hw _ (List.mem_of_getElem? (i := 12) rfl)) (by decide) (by decide)) q111a q111c (g := (mkF m 9 #[.val (.ref w), .val (.int (0 : Int32))] [(.int (0 : Int32)), (.ref a)])) rfl (by rw [hml]; rfl) (Steps.refl _) (argsL := [(.int (0 : Int32))]) (rest := []) (lenOf pd_24 rfl) rfl (by show 2 * 0 + _ ≤ _; exact Nat.le_of_eq rfl) (hb hby d34_9) (fun _ _ => ⟨rfl, e110, (by decide : 0 + 0 ≤ _), (by decide : 0 + 0 ≤ _)⟩)
  dsimp only [Pt.U, Pt.locs, Pt.cells, Pt.slots] at X111 l111 y111 z111 st111 hQ111
  subst l111 y111 z111
  obtain ⟨rfl, N111q, K111, Fx111⟩ := hQ111
  have N111 := Fr.app N109 N111q
  refine Ends.st st111 ?_
  have F111 := SBd.fal Fx111
  have E_1 := Ew.keep K111
  have Ft_1 := Ft.keep K111 nw
  have Fa_1 := Fa.keep K111 nw
  refine Ends.of (F' := T111.setTop (mkF m 15 #[.val (.ref w), .val (.int (0 : Int32))] [(.int (1 : Int32)), (.ref w)])) (fun _ kt => ?_) ?_
  · show Steps p.tables e below (T111.setTop (mkF m 12 #[.val (.ref w), .val (.int (0 : Int32))] [(.ref a)])) _
    refine XS.pop X111.here hx rfl (hb hby d34_12) rfl rfl ?_
    show Steps p.tables e below (T111.setTop (mkF m 13 #[.val (.ref w), .val (.int (0 : Int32))] [])) _
    refine XS.aloadN X111.here hx rfl (hb hby d34_13) rfl rfl ?_
    show Steps p.tables e below (T111.setTop (mkF m 14 #[.val (.ref w), .val (.int (0 : Int32))] [(.ref w)])) _
    refine XS.iconst X111.here hx rfl (hb hby d34_14) ?_
    exact kt
  obtain ⟨T112, h112, X112, e112, W112, st112⟩ := putFN X111 hx hZ hown (hw _ (List.mem_of_getElem? (i := 63) rfl)) Via.refl rfl Fa_1 E_1 (Or.inl (hw _ (List.mem_of_getElem? (i := 64) rfl))) (hw _ (List.mem_of_getElem? (i := 2) rfl)) (ty := .boolean) (v' := (.int (1 : Int32))) (by decide) rfl rfl (g := (mkF m 15 #[.val (.ref w), .val (.int (0 : Int32))] [(.int (1 : Int32)), (.ref w)])) rfl rfl (hb hby d34_15)
  refine Ends.of st112 ?_
  have N112 := Fr.snoc X112 N111 g_w
  have Fa_2 := Fa_1.same W112
  have Ft_2 := Ft_1.other W112 (Or.inr (slot_ne (Or.inr (hw _ (List.mem_of_getElem? (i := 31) rfl))) (Or.inl (hw _ (List.mem_of_getElem? (i := 64) rfl))) (by decide) (t := (.object "java/lang/StringBuilder")) (t' := .boolean) (by decide) (by decide)))
  have E_2 := E_1.wr W112
  have Sb_2 := F111.keep (Keep.of_wr W112) (ninS (Ne.symm nwa) nin0) (ninS (Ne.symm nwb) nin0)
  have K9 : Keep h0 h112 [w, a, b] := ((Keep.refl h0 [w, a, b]).trans K111 (allS (Or.inl (List.mem_of_getElem? (i := 1) rfl)) (allS (Or.inl (List.mem_of_getElem? (i := 2) rfl)) all0))).wr W112 (Or.inl (List.mem_of_getElem? (i := 0) rfl))
  rw [← e112] at Fa_2 Ft_2 E_2 Sb_2 K9
  refine Ends.of (F' := T112.setTop (mkF m 19 #[.val (.ref w), .val (.int (0 : Int32))] [(.ref w)])) (fun _ kt => ?_) ?_
  · show Steps p.tables e below (T112.setTop (mkF m 18 #[.val (.ref w), .val (.int (0 : Int32))] [])) _
    refine XS.aloadN X112.here hx rfl (hb hby d34_18) rfl rfl ?_
    exact kt
  obtain ⟨fs, hr, hrun, hended, hW, hsame⟩ := X112.leave (v := some (.ref w)) (fun h => by rw [Bd.returns] at h; cases h)
  refine ⟨_, _, ?_, hrun, hended, _, _, rfl, ⟨rfl, N112, K9, E_2, Ft_2, Fa_2, Sb_2⟩, ⟨_, rfl⟩, hW, hsame.mono (by decide) (by decide)⟩
  show Steps p.tables e below (T112.setTop (mkF m 19 #[.val (.ref w), .val (.int (0 : Int32))] [(.ref w)])) _
  jvm_step X112.here [X112.here.top, hx, (hb hby d34_19), X112.method', Bd.returns, Value.isRef, FieldType.isReference]
  first | (intro acts; rw [hr _ acts rfl rfl rfl]) | rw [hr _ _ rfl rfl rfl]
  exact Steps.refl _
def Q_jw_val01 (Z : State) (w : Addr) (a : Addr) (b : Addr) (t : List Int32) (cs : Int32) (h0 : Heap) (n0 : Nat) (v : Option Value) (h : Heap) (L : List Loc) : Prop := v = some (.ref w) ∧ Fr n0 L ∧ Keep h0 h [w, a, b] ∧ JWr Z h w a b (t ++ [116] ++ [114] ++ [117] ++ [101]) (1 : Int32)
set_option maxRecDepth 65536 in
set_option maxHeartbeats 40000000 in
theorem jw_val01 (l : Launch) (Z : State) (a0 : Array Value) (hw : ∀ d ∈ tables_1, d.before a0 Z = true) (ws : List Jvm.Cond) (w : Addr) (a : Addr) (b : Addr) (t : List Int32) (cs : Int32) (h0 : Heap) (n0 : Nat) (Z0 : n0 ≤ h0.size) (S0 : Sta Z Z.heap "java/lang/String" "COMPACT_STRINGS" "Z" (.int cs)) (hcs : ¬ cs = (0 : Int32)) (O : Old Z n0 h0) (F : JWr Z h0 w a b t (0 : Int32)) (hn : t.length + 4 ≤ 256) (g_w : n0 ≤ w) (g_a : n0 ≤ a) (g_b : n0 ≤ b) :
    MetFree l (⟨"com/example/tenantd/tenantd/server/JsonWriter", "value", "(Z)Lcom/example/tenantd/tenantd/server/JsonWriter;"⟩ : MethodName) (head1 (Jvm.Cond.code (⟨"com/example/tenantd/tenantd/server/JsonWriter", "value", "(Z)Lcom/example/tenantd/tenantd/server/JsonWriter;"⟩ : MethodName) prog_55_method_11_code 2 (some (.object "com/example/tenantd/tenantd/server/JsonWriter")) :: ws) ({ frames := 3, cells := 0, slots := 0, locals := 42 } : Room)) (fun a U => a = #[(.ref w), (.int (1 : Int32))] ∧ Z.Warmed39 U.vm ∧ U.heap = h0) (fun _ _ _ _ _ => True) (fun _ U o U' => ∃ v L, o = .returned v ∧ Q_jw_val01 Z w a b t cs h0 n0 v U'.heap L ∧ FrameEnd U o U' L ({ frames := 3, cells := 0, slots := 0, locals := 42 } : Room).cells ({ frames := 3, cells := 0, slots := 0, locals := 42 } : Room).slots) := by
  refine MetFree.of_bodySF (plainFor_of_name pn_6) hisR ?_
  intro p e s m args below meth c s₁ Bd hml0 hP hK
  obtain ⟨rfl, hZ, hh⟩ := hP
  have hx := Bd.exec
  have hby := Bd.bytes
  have hml : c.maxLocals = 2 := hml0
  have hown : s.vm.findClass "com/example/tenantd/tenantd/server/JsonWriter" = some m.cls := findClass_of_methodNamed Bd.named
  have hnm := (name_of_methodNamed Bd.named Bd.method).1
  have X0 : Stand p l e ({ frames := 3, cells := 0, slots := 0, locals := 42 } : Room) s m #[(.ref w), (.int (1 : Int32))] below meth c s₁ [] 0 0 := Stand.of_body Bd
  have e0 : s₁.heap = h0 := by rw [← hh, Bd.state]; rfl
  have N0 := Fr.nil n0
  have eF : entryFrame m #[(.ref w), (.int (1 : Int32))] 2 = mkF m 0 #[.val (.ref w), .val (.int (1 : Int32))] [] := by first | (simp [entryFrame, mkF, argsToLocals, Value.category]; done) | rfl
  show Ends p e below s ({ frames := 3, cells := 0, slots := 0, locals := 42 } : Room) (Q_jw_val01 Z w a b t cs h0 n0) (s₁.setTop (entryFrame m #[(.ref w), (.int (1 : Int32))] 2))
  rw [eF]
  refine Ends.of (F' := s₁.setTop (mkF m 1 #[.val (.ref w), .val (.int (1 : Int32))] [(.ref w)])) (fun _ kt => ?_) ?_
  · show Steps p.tables e below (s₁.setTop (mkF m 0 #[.val (.ref w), .val (.int (1 : Int32))] [])) _
    refine XS.aloadN X0.here hx rfl (hb hby d34_0) rfl rfl ?_
    exact kt
  obtain ⟨cq113, q113, q113'⟩ := F.1.cell
  obtain ⟨_, _, ⟨T113, L113, k113, n113⟩, -, X113, ⟨Lc113, hQ113, l113, y113, z113⟩, st113⟩ := X0.privateBack hx (y := (⟨"com/example/tenantd/tenantd/server/JsonWriter", "separate", "()V"⟩ : MethodName)) hown (mvT hZ (hw _ (List.mem_of_getElem? (i := 149) rfl))) (mvT hZ (hw _ (List.mem_of_getElem? (i := 150) rfl))) (mvT hZ (own_psel (y := (⟨"com/example/tenantd/tenantd/server/JsonWriter", "separate", "()V"⟩ : MethodName)) (z := (⟨"com/example/tenantd/tenantd/server/JsonWriter", "endArray", "()Lcom/example/tenantd/tenantd/server/JsonWriter;"⟩ : MethodName)) rfl (by decide) (hw _ (List.mem_of_getElem? (i := 150) rfl)) (hw _ (List.mem_of_getElem? (i := 151) rfl)) (hw _ (List.mem_of_getElem? (i := 35) rfl)))) (Cond.privateMethod_at (mvP hZ (hw _ (List.mem_of_getElem? (i := 151) rfl)) (args := #[]))) (mvT hZ (hw _ (List.mem_of_getElem? (i := 152) rfl))) (by decide) (backOf (W := 0) (jw_sep0 l Z a0 hw [] w h0 n0 Z0 F.2.2.1) hZ (hw _ (List.mem_of_getElem? (i := 152) rfl)) (hw _ (List.mem_of_getElem? (i := 3) rfl)) (by decide) (by decide)) (g := (mkF m 1 #[.val (.ref w), .val (.int (1 : Int32))] [(.ref w)])) rfl (by rw [hml]; rfl) (Steps.refl _) (a := w) (by rw [e0]; exact q113) q113' (argsL := []) (rest := []) (lenOf pd_0 rfl) rfl (by show 2 * 0 + _ ≤ _; exact Nat.le_of_eq rfl) (hb hby d34_1) (fun _ _ => ⟨rfl, e0, (by decide : 0 + 0 ≤ _), (by decide : 0 + 0 ≤ _)⟩)
  dsimp only [Pt.U, Pt.locs, Pt.cells, Pt.slots] at X113 l113 y113 z113 st113 hQ113
  subst l113 y113 z113
  obtain ⟨rfl, N113q, e113⟩ := hQ113
  have N113 := Fr.app N0 N113q
  refine Ends.st st113 ?_
  obtain ⟨Ew, Ft, Fa, Sb⟩ := id F
  have nwa : w ≠ a := Exa.ne Ew Sb.1 (by decide)
  obtain ⟨cb0, Ab0, -, -, -⟩ := Sb.2.2.2.2.1.op
  have nwb : w ≠ b := ne_arr Ew (hw _ (List.mem_of_getElem? (i := 2) rfl)) Ab0
  have nw : w ∉ [a, b] := ninS nwa (ninS nwb nin0)
  refine Ends.of (F' := T113.setTop (mkF m 5 #[.val (.ref w), .val (.int (1 : Int32))] [(.ref w)])) (fun _ kt => ?_) ?_
  · show Steps p.tables e below (T113.setTop (mkF m 4 #[.val (.ref w), .val (.int (1 : Int32))] [])) _
    refine XS.aloadN X113.here hx rfl (hb hby d34_4) rfl rfl ?_
    exact kt
  obtain ⟨T114, X114, e114, st114⟩ := getF X113 hx hZ hown (host := "") (Or.inl (hw _ (List.mem_of_getElem? (i := 30) rfl))) Via.refl e113 Ft (g := (mkF m 5 #[.val (.ref w), .val (.int (1 : Int32))] [(.ref w)])) rfl rfl (hb hby d34_5)
  refine Ends.of st114 ?_
  refine Ends.of (F' := T114.setTop (mkF m 9 #[.val (.ref w), .val (.int (1 : Int32))] [(.int (1 : Int32)), (.ref a)])) (fun _ kt => ?_) ?_
  · show Steps p.tables e below (T114.setTop (mkF m 8 #[.val (.ref w), .val (.int (1 : Int32))] [(.ref a)])) _
    refine XS.iloadN X114.here hx rfl (hb hby d34_8) rfl ?_
    exact kt
  obtain ⟨cq115, kq115, q115a, q115b, q115c⟩ := isOf hZ e114 Sb.1
  obtain ⟨_, _, ⟨T115, L115, k115, n115⟩, -, X115, ⟨Lc115, hQ115, l115, y115, z115⟩, st115⟩ := X114.virtualBack hx (y := (⟨"java/lang/StringBuilder", "append", "(Z)Ljava/lang/StringBuilder;"⟩ : MethodName)) (z := (⟨"java/lang/StringBuilder", "append", "(Z)Ljava/lang/StringBuilder;"⟩ : MethodName)) hown (mvT hZ (hw _ (List.mem_of_getElem? (i := 184) rfl))) (mvT hZ (hw _ (List.mem_of_getElem? (i := 185) rfl))) (notFace_of_selects (args := #[]) (mvT hZ (hw _ (List.mem_of_getElem? (i := 187) rfl)))) (mvT hZ (hw _ (List.mem_of_getElem? (i := 187) rfl))) (mvT hZ (hw _ (List.mem_of_getElem? (i := 186) rfl))) (by decide) (backOf (W := 0) (sb_appZ1 l Z a0 hw [] a b 256 t.length (tf t) cs h0 n0 Z0 S0 hcs O Sb (by omega) g_a g_b) hZ (hw _ (List.mem_of_getElem? (i := 188) rfl)) (hw _ (List.mem_of_getElem? (i := 12) rfl)) (by decide) (by decide)) q115a q115c (g := (mkF m 9 #[.val (.ref w), .val (.int (1 : Int32))] [(.int (1 : Int32)), (.ref a)])) rfl (by rw [hml]; rfl) (Steps.refl _) (argsL := [(.int (1 : Int32))]) (rest := []) (lenOf pd_24 rfl) rfl (by show 2 * 0 + _ ≤ _; exact Nat.le_of_eq rfl) (hb hby d34_9) (fun _ _ => ⟨rfl, e114, (by decide : 0 + 0 ≤ _), (by decide : 0 + 0 ≤ _)⟩)
  dsimp only [Pt.U, Pt.locs, Pt.cells, Pt.slots] at X115 l115 y115 z115 st115 hQ115
  subst l115 y115 z115
  obtain ⟨rfl, N115q, K115, Fx115⟩ := hQ115
  have N115 := Fr.app N113 N115q
  refine Ends.st st115 ?_
  have F115 := SBd.tru Fx115
  have E_1 := Ew.keep K115
  have Ft_1 := Ft.keep K115 nw
  have Fa_1 := Fa.keep K115 nw
  refine Ends.of (F' := T115.setTop (mkF m 15 #[.val (.ref w), .val (.int (1 : Int32))] [(.int (1 : Int32)), (.ref w)])) (fun _ kt => ?_) ?_
  · show Steps p.tables e below (T115.setTop (mkF m 12 #[.val (.ref w), .val (.int (1 : Int32))] [(.ref a)])) _
    refine XS.pop X115.here hx rfl (hb hby d34_12) rfl rfl ?_
    show Steps p.tables e below (T115.setTop (mkF m 13 #[.val (.ref w), .val (.int (1 : Int32))] [])) _
    refine XS.aloadN X115.here hx rfl (hb hby d34_13) rfl rfl ?_
    show Steps p.tables e below (T115.setTop (mkF m 14 #[.val (.ref w), .val (.int (1 : Int32))] [(.ref w)])) _
    refine XS.iconst X115.here hx rfl (hb hby d34_14) ?_
    exact kt
  obtain ⟨T116, h116, X116, e116, W116, st116⟩ := putFN X115 hx hZ hown (hw _ (List.mem_of_getElem? (i := 63) rfl)) Via.refl rfl Fa_1 E_1 (Or.inl (hw _ (List.mem_of_getElem? (i := 64) rfl))) (hw _ (List.mem_of_getElem? (i := 2) rfl)) (ty := .boolean) (v' := (.int (1 : Int32))) (by decide) rfl rfl (g := (mkF m 15 #[.val (.ref w), .val (.int (1 : Int32))] [(.int (1 : Int32)), (.ref w)])) rfl rfl (hb hby d34_15)
  refine Ends.of st116 ?_
  have N116 := Fr.snoc X116 N115 g_w
  have Fa_2 := Fa_1.same W116
  have Ft_2 := Ft_1.other W116 (Or.inr (slot_ne (Or.inr (hw _ (List.mem_of_getElem? (i := 31) rfl))) (Or.inl (hw _ (List.mem_of_getElem? (i := 64) rfl))) (by decide) (t := (.object "java/lang/StringBuilder")) (t' := .boolean) (by decide) (by decide)))
  have E_2 := E_1.wr W116
  have Sb_2 := F115.keep (Keep.of_wr W116) (ninS (Ne.symm nwa) nin0) (ninS (Ne.symm nwb) nin0)
  have K9 : Keep h0 h116 [w, a, b] := ((Keep.refl h0 [w, a, b]).trans K115 (allS (Or.inl (List.mem_of_getElem? (i := 1) rfl)) (allS (Or.inl (List.mem_of_getElem? (i := 2) rfl)) all0))).wr W116 (Or.inl (List.mem_of_getElem? (i := 0) rfl))
  rw [← e116] at Fa_2 Ft_2 E_2 Sb_2 K9
  refine Ends.of (F' := T116.setTop (mkF m 19 #[.val (.ref w), .val (.int (1 : Int32))] [(.ref w)])) (fun _ kt => ?_) ?_
  · show Steps p.tables e below (T116.setTop (mkF m 18 #[.val (.ref w), .val (.int (1 : Int32))] [])) _
    refine XS.aloadN X116.here hx rfl (hb hby d34_18) rfl rfl ?_
    exact kt
  obtain ⟨fs, hr, hrun, hended, hW, hsame⟩ := X116.leave (v := some (.ref w)) (fun h => by rw [Bd.returns] at h; cases h)
  refine ⟨_, _, ?_, hrun, hended, _, _, rfl, ⟨rfl, N116, K9, E_2, Ft_2, Fa_2, Sb_2⟩, ⟨_, rfl⟩, hW, hsame.mono (by decide) (by decide)⟩
  show Steps p.tables e below (T116.setTop (mkF m 19 #[.val (.ref w), .val (.int (1 : Int32))] [(.ref w)])) _
  jvm_step X116.here [X116.here.top, hx, (hb hby d34_19), X116.method', Bd.returns, Value.isRef, FieldType.isReference]
  first | (intro acts; rw [hr _ acts rfl rfl rfl]) | rw [hr _ _ rfl rfl rfl]
  exact Steps.refl _
def Q_jw_val10 (Z : State) (w : Addr) (a : Addr) (b : Addr) (t : List Int32) (cs : Int32) (h0 : Heap) (n0 : Nat) (v : Option Value) (h : Heap) (L : List Loc) : Prop := v = some (.ref w) ∧ Fr n0 L ∧ Keep h0 h [w, a, b] ∧ JWr Z h w a b ((t ++ [44]) ++ [102] ++ [97] ++ [108] ++ [115] ++ [101]) (1 : Int32)
set_option maxRecDepth 65536 in
set_option maxHeartbeats 40000000 in
theorem jw_val10 (l : Launch) (Z : State) (a0 : Array Value) (hw : ∀ d ∈ tables_1, d.before a0 Z = true) (ws : List Jvm.Cond) (w : Addr) (a : Addr) (b : Addr) (t : List Int32) (cs : Int32) (h0 : Heap) (n0 : Nat) (Z0 : n0 ≤ h0.size) (S0 : Sta Z Z.heap "java/lang/String" "COMPACT_STRINGS" "Z" (.int cs)) (hcs : ¬ cs = (0 : Int32)) (O : Old Z n0 h0) (F : JWr Z h0 w a b t (1 : Int32)) (hn : t.length + 6 ≤ 256) (g_w : n0 ≤ w) (g_a : n0 ≤ a) (g_b : n0 ≤ b) :
    MetFree l (⟨"com/example/tenantd/tenantd/server/JsonWriter", "value", "(Z)Lcom/example/tenantd/tenantd/server/JsonWriter;"⟩ : MethodName) (head1 (Jvm.Cond.code (⟨"com/example/tenantd/tenantd/server/JsonWriter", "value", "(Z)Lcom/example/tenantd/tenantd/server/JsonWriter;"⟩ : MethodName) prog_55_method_11_code 2 (some (.object "com/example/tenantd/tenantd/server/JsonWriter")) :: ws) ({ frames := 4, cells := 0, slots := 0, locals := 52 } : Room)) (fun a U => a = #[(.ref w), (.int (0 : Int32))] ∧ Z.Warmed39 U.vm ∧ U.heap = h0) (fun _ _ _ _ _ => True) (fun _ U o U' => ∃ v L, o = .returned v ∧ Q_jw_val10 Z w a b t cs h0 n0 v U'.heap L ∧ FrameEnd U o U' L ({ frames := 4, cells := 0, slots := 0, locals := 52 } : Room).cells ({ frames := 4, cells := 0, slots := 0, locals := 52 } : Room).slots) := by
  refine MetFree.of_bodySF (plainFor_of_name pn_6) hisR ?_
  intro p e s m args below meth c s₁ Bd hml0 hP hK
  obtain ⟨rfl, hZ, hh⟩ := hP
  have hx := Bd.exec
  have hby := Bd.bytes
  have hml : c.maxLocals = 2 := hml0
  have hown : s.vm.findClass "com/example/tenantd/tenantd/server/JsonWriter" = some m.cls := findClass_of_methodNamed Bd.named
  have hnm := (name_of_methodNamed Bd.named Bd.method).1
  have X0 : Stand p l e ({ frames := 4, cells := 0, slots := 0, locals := 52 } : Room) s m #[(.ref w), (.int (0 : Int32))] below meth c s₁ [] 0 0 := Stand.of_body Bd
  have e0 : s₁.heap = h0 := by rw [← hh, Bd.state]; rfl
  have N0 := Fr.nil n0
  have eF : entryFrame m #[(.ref w), (.int (0 : Int32))] 2 = mkF m 0 #[.val (.ref w), .val (.int (0 : Int32))] [] := by first | (simp [entryFrame, mkF, argsToLocals, Value.category]; done) | rfl
  show Ends p e below s ({ frames := 4, cells := 0, slots := 0, locals := 52 } : Room) (Q_jw_val10 Z w a b t cs h0 n0) (s₁.setTop (entryFrame m #[(.ref w), (.int (0 : Int32))] 2))
  rw [eF]
  refine Ends.of (F' := s₁.setTop (mkF m 1 #[.val (.ref w), .val (.int (0 : Int32))] [(.ref w)])) (fun _ kt => ?_) ?_
  · show Steps p.tables e below (s₁.setTop (mkF m 0 #[.val (.ref w), .val (.int (0 : Int32))] [])) _
    refine XS.aloadN X0.here hx rfl (hb hby d34_0) rfl rfl ?_
    exact kt
  obtain ⟨cq117, q117, q117'⟩ := F.1.cell
  obtain ⟨_, _, ⟨T117, L117, k117, n117⟩, -, X117, ⟨Lc117, hQ117, l117, y117, z117⟩, st117⟩ := X0.privateBack hx (y := (⟨"com/example/tenantd/tenantd/server/JsonWriter", "separate", "()V"⟩ : MethodName)) hown (mvT hZ (hw _ (List.mem_of_getElem? (i := 149) rfl))) (mvT hZ (hw _ (List.mem_of_getElem? (i := 150) rfl))) (mvT hZ (own_psel (y := (⟨"com/example/tenantd/tenantd/server/JsonWriter", "separate", "()V"⟩ : MethodName)) (z := (⟨"com/example/tenantd/tenantd/server/JsonWriter", "endArray", "()Lcom/example/tenantd/tenantd/server/JsonWriter;"⟩ : MethodName)) rfl (by decide) (hw _ (List.mem_of_getElem? (i := 150) rfl)) (hw _ (List.mem_of_getElem? (i := 151) rfl)) (hw _ (List.mem_of_getElem? (i := 35) rfl)))) (Cond.privateMethod_at (mvP hZ (hw _ (List.mem_of_getElem? (i := 151) rfl)) (args := #[]))) (mvT hZ (hw _ (List.mem_of_getElem? (i := 152) rfl))) (by decide) (backOf (W := 0) (jw_sep1 l Z a0 hw [] w a b t cs h0 n0 Z0 S0 hcs O F (by omega) g_w g_a g_b) hZ (hw _ (List.mem_of_getElem? (i := 152) rfl)) (hw _ (List.mem_of_getElem? (i := 3) rfl)) (by decide) (by decide)) (g := (mkF m 1 #[.val (.ref w), .val (.int (0 : Int32))] [(.ref w)])) rfl (by rw [hml]; rfl) (Steps.refl _) (a := w) (by rw [e0]; exact q117) q117' (argsL := []) (rest := []) (lenOf pd_0 rfl) rfl (by show 2 * 0 + _ ≤ _; exact Nat.le_of_eq rfl) (hb hby d34_1) (fun _ _ => ⟨rfl, e0, (by decide : 0 + 0 ≤ _), (by decide : 0 + 0 ≤ _)⟩)
  dsimp only [Pt.U, Pt.locs, Pt.cells, Pt.slots] at X117 l117 y117 z117 st117 hQ117
  subst l117 y117 z117
  obtain ⟨rfl, N117q, K117, F117⟩ := hQ117
  have N117 := Fr.app N0 N117q
  refine Ends.st st117 ?_
  have Z1 : n0 ≤ T117.heap.size := Nat.le_trans Z0 K117.1
  have O1 := O.keep K117 (allS g_a (allS g_b all0))
  obtain ⟨Ew, Ft, Fa, Sb⟩ := id F117
  have nwa : w ≠ a := Exa.ne Ew Sb.1 (by decide)
  obtain ⟨cb0, Ab0, -, -, -⟩ := Sb.2.2.2.2.1.op
  have nwb : w ≠ b := ne_arr Ew (hw _ (List.mem_of_getElem? (i := 2) rfl)) Ab0
  have nw : w ∉ [a, b] := ninS nwa (ninS nwb nin0)
  refine Ends.of (F' := T117.setTop (mkF m 5 #[.val (.ref w), .val (.int (0 : Int32))] [(.ref w)])) (fun _ kt => ?_) ?_
  · show Steps p.tables e below (T117.setTop (mkF m 4 #[.val (.ref w), .val (.int (0 : Int32))] [])) _
    refine XS.aloadN X117.here hx rfl (hb hby d34_4) rfl rfl ?_
    exact kt
  obtain ⟨T118, X118, e118, st118⟩ := getF X117 hx hZ hown (host := "") (Or.inl (hw _ (List.mem_of_getElem? (i := 30) rfl))) Via.refl rfl Ft (g := (mkF m 5 #[.val (.ref w), .val (.int (0 : Int32))] [(.ref w)])) rfl rfl (hb hby d34_5)
  refine Ends.of st118 ?_
  refine Ends.of (F' := T118.setTop (mkF m 9 #[.val (.ref w), .val (.int (0 : Int32))] [(.int (0 : Int32)), (.ref a)])) (fun _ kt => ?_) ?_
  · show Steps p.tables e below (T118.setTop (mkF m 8 #[.val (.ref w), .val (.int (0 : Int32))] [(.ref a)])) _
    refine XS.iloadN X118.here hx rfl (hb hby d34_8) rfl ?_
    exact kt
  obtain ⟨cq119, kq119, q119a, q119b, q119c⟩ := isOf hZ e118 Sb.1
  obtain ⟨_, _, ⟨T119, L119, k119, n119⟩, -, X119, ⟨Lc119, hQ119, l119, y119, z119⟩, st119⟩ := X118.virtualBack hx (y := (⟨"java/lang/StringBuilder", "append", "(Z)Ljava/lang/StringBuilder;"⟩ : MethodName)) (z := (⟨"java/lang/StringBuilder", "append", "(Z)Ljava/lang/StringBuilder;"⟩ : MethodName)) hown (mvT hZ (hw _ (List.mem_of_getElem? (i := 184) rfl))) (mvT hZ (hw _ (List.mem_of_getElem? (i := 185) rfl))) (notFace_of_selects (args := #[]) (mvT hZ (hw _ (List.mem_of_getElem? (i := 187) rfl)))) (mvT hZ (hw _ (List.mem_of_getElem? (i := 187) rfl))) (mvT hZ (hw _ (List.mem_of_getElem? (i := 186) rfl))) (by decide) (backOf (W := 0) (sb_appZ0 l Z a0 hw [] a b 256 (t ++ [44]).length (tf (t ++ [44])) cs T117.heap n0 Z1 S0 hcs O1 Sb (by simp only [List.length_append, List.length_cons, List.length_nil]; omega) g_a g_b) hZ (hw _ (List.mem_of_getElem? (i := 188) rfl)) (hw _ (List.mem_of_getElem? (i := 12) rfl)) (by decide) (by decide)) q119a q119c (g := (mkF m 9 #[.val (.ref w), .val (.int (0 : Int32))] [(.int (0 : Int32)), (.ref a)])) rfl (by rw [hml]; rfl) (Steps.refl _) (argsL := [(.int (0 : Int32))]) (rest := []) (lenOf pd_24 rfl) rfl (by show 2 * 0 + _ ≤ _; exact Nat.le_of_eq rfl) (hb hby d34_9) (fun _ _ => ⟨rfl, e118, (by decide : 0 + 0 ≤ _), (by decide : 0 + 0 ≤ _)⟩)
  dsimp only [Pt.U, Pt.locs, Pt.cells, Pt.slots] at X119 l119 y119 z119 st119 hQ119
  subst l119 y119 z119
  obtain ⟨rfl, N119q, K119, Fx119⟩ := hQ119
  have N119 := Fr.app N117 N119q
  refine Ends.st st119 ?_
  have F119 := SBd.fal Fx119
  have E_1 := Ew.keep K119
  have Ft_1 := Ft.keep K119 nw
  have Fa_1 := Fa.keep K119 nw
  refine Ends.of (F' := T119.setTop (mkF m 15 #[.val (.ref w), .val (.int (0 : Int32))] [(.int (1 : Int32)), (.ref w)])) (fun _ kt => ?_) ?_
  · show Steps p.tables e below (T119.setTop (mkF m 12 #[.val (.ref w), .val (.int (0 : Int32))] [(.ref a)])) _
    refine XS.pop X119.here hx rfl (hb hby d34_12) rfl rfl ?_
    show Steps p.tables e below (T119.setTop (mkF m 13 #[.val (.ref w), .val (.int (0 : Int32))] [])) _
    refine XS.aloadN X119.here hx rfl (hb hby d34_13) rfl rfl ?_
    show Steps p.tables e below (T119.setTop (mkF m 14 #[.val (.ref w), .val (.int (0 : Int32))] [(.ref w)])) _
    refine XS.iconst X119.here hx rfl (hb hby d34_14) ?_
    exact kt
  obtain ⟨T120, h120, X120, e120, W120, st120⟩ := putFN X119 hx hZ hown (hw _ (List.mem_of_getElem? (i := 63) rfl)) Via.refl rfl Fa_1 E_1 (Or.inl (hw _ (List.mem_of_getElem? (i := 64) rfl))) (hw _ (List.mem_of_getElem? (i := 2) rfl)) (ty := .boolean) (v' := (.int (1 : Int32))) (by decide) rfl rfl (g := (mkF m 15 #[.val (.ref w), .val (.int (0 : Int32))] [(.int (1 : Int32)), (.ref w)])) rfl rfl (hb hby d34_15)
  refine Ends.of st120 ?_
  have N120 := Fr.snoc X120 N119 g_w
  have Fa_2 := Fa_1.same W120
  have Ft_2 := Ft_1.other W120 (Or.inr (slot_ne (Or.inr (hw _ (List.mem_of_getElem? (i := 31) rfl))) (Or.inl (hw _ (List.mem_of_getElem? (i := 64) rfl))) (by decide) (t := (.object "java/lang/StringBuilder")) (t' := .boolean) (by decide) (by decide)))
  have E_2 := E_1.wr W120
  have Sb_2 := F119.keep (Keep.of_wr W120) (ninS (Ne.symm nwa) nin0) (ninS (Ne.symm nwb) nin0)
  have K9 : Keep h0 h120 [w, a, b] := (((Keep.refl h0 [w, a, b]).trans K117 (allS (Or.inl (List.mem_of_getElem? (i := 1) rfl)) (allS (Or.inl (List.mem_of_getElem? (i := 2) rfl)) all0))).trans K119 (allS (Or.inl (List.mem_of_getElem? (i := 1) rfl)) (allS (Or.inl (List.mem_of_getElem? (i := 2) rfl)) all0))).wr W120 (Or.inl (List.mem_of_getElem? (i := 0) rfl))
  rw [← e120] at Fa_2 Ft_2 E_2 Sb_2 K9
  refine Ends.of (F' := T120.setTop (mkF m 19 #[.val (.ref w), .val (.int (0 : Int32))] [(.ref w)])) (fun _ kt => ?_) ?_
  · show Steps p.tables e below (T120.setTop (mkF m 18 #[.val (.ref w), .val (.int (0 : Int32))] [])) _
    refine XS.aloadN X120.here hx rfl (hb hby d34_18) rfl rfl ?_
    exact kt
  obtain ⟨fs, hr, hrun, hended, hW, hsame⟩ := X120.leave (v := some (.ref w)) (fun h => by rw [Bd.returns] at h; cases h)
  refine ⟨_, _, ?_, hrun, hended, _, _, rfl, ⟨rfl, N120, K9, E_2, Ft_2, Fa_2, Sb_2⟩, ⟨_, rfl⟩, hW, hsame.mono (by decide) (by decide)⟩
  show Steps p.tables e below (T120.setTop (mkF m 19 #[.val (.ref w), .val (.int (0 : Int32))] [(.ref w)])) _
  jvm_step X120.here [X120.here.top, hx, (hb hby d34_19), X120.method', Bd.returns, Value.isRef, FieldType.isReference]
  first | (intro acts; rw [hr _ acts rfl rfl rfl]) | rw [hr _ _ rfl rfl rfl]
  exact Steps.refl _
def Q_jw_val11 (Z : State) (w : Addr) (a : Addr) (b : Addr) (t : List Int32) (cs : Int32) (h0 : Heap) (n0 : Nat) (v : Option Value) (h : Heap) (L : List Loc) : Prop := v = some (.ref w) ∧ Fr n0 L ∧ Keep h0 h [w, a, b] ∧ JWr Z h w a b ((t ++ [44]) ++ [116] ++ [114] ++ [117] ++ [101]) (1 : Int32)
set_option maxRecDepth 65536 in
set_option maxHeartbeats 40000000 in
theorem jw_val11 (l : Launch) (Z : State) (a0 : Array Value) (hw : ∀ d ∈ tables_1, d.before a0 Z = true) (ws : List Jvm.Cond) (w : Addr) (a : Addr) (b : Addr) (t : List Int32) (cs : Int32) (h0 : Heap) (n0 : Nat) (Z0 : n0 ≤ h0.size) (S0 : Sta Z Z.heap "java/lang/String" "COMPACT_STRINGS" "Z" (.int cs)) (hcs : ¬ cs = (0 : Int32)) (O : Old Z n0 h0) (F : JWr Z h0 w a b t (1 : Int32)) (hn : t.length + 5 ≤ 256) (g_w : n0 ≤ w) (g_a : n0 ≤ a) (g_b : n0 ≤ b) :
    MetFree l (⟨"com/example/tenantd/tenantd/server/JsonWriter", "value", "(Z)Lcom/example/tenantd/tenantd/server/JsonWriter;"⟩ : MethodName) (head1 (Jvm.Cond.code (⟨"com/example/tenantd/tenantd/server/JsonWriter", "value", "(Z)Lcom/example/tenantd/tenantd/server/JsonWriter;"⟩ : MethodName) prog_55_method_11_code 2 (some (.object "com/example/tenantd/tenantd/server/JsonWriter")) :: ws) ({ frames := 4, cells := 0, slots := 0, locals := 52 } : Room)) (fun a U => a = #[(.ref w), (.int (1 : Int32))] ∧ Z.Warmed39 U.vm ∧ U.heap = h0) (fun _ _ _ _ _ => True) (fun _ U o U' => ∃ v L, o = .returned v ∧ Q_jw_val11 Z w a b t cs h0 n0 v U'.heap L ∧ FrameEnd U o U' L ({ frames := 4, cells := 0, slots := 0, locals := 52 } : Room).cells ({ frames := 4, cells := 0, slots := 0, locals := 52 } : Room).slots) := by
  refine MetFree.of_bodySF (plainFor_of_name pn_6) hisR ?_
  intro p e s m args below meth c s₁ Bd hml0 hP hK
  obtain ⟨rfl, hZ, hh⟩ := hP
  have hx := Bd.exec
  have hby := Bd.bytes
  have hml : c.maxLocals = 2 := hml0
  have hown : s.vm.findClass "com/example/tenantd/tenantd/server/JsonWriter" = some m.cls := findClass_of_methodNamed Bd.named
  have hnm := (name_of_methodNamed Bd.named Bd.method).1
  have X0 : Stand p l e ({ frames := 4, cells := 0, slots := 0, locals := 52 } : Room) s m #[(.ref w), (.int (1 : Int32))] below meth c s₁ [] 0 0 := Stand.of_body Bd
  have e0 : s₁.heap = h0 := by rw [← hh, Bd.state]; rfl
  have N0 := Fr.nil n0
  have eF : entryFrame m #[(.ref w), (.int (1 : Int32))] 2 = mkF m 0 #[.val (.ref w), .val (.int (1 : Int32))] [] := by first | (simp [entryFrame, mkF, argsToLocals, Value.category]; done) | rfl
  show Ends p e below s ({ frames := 4, cells := 0, slots := 0, locals := 52 } : Room) (Q_jw_val11 Z w a b t cs h0 n0) (s₁.setTop (entryFrame m #[(.ref w), (.int (1 : Int32))] 2))
  rw [eF]
  refine Ends.of (F' := s₁.setTop (mkF m 1 #[.val (.ref w), .val (.int (1 : Int32))] [(.ref w)])) (fun _ kt => ?_) ?_
  · show Steps p.tables e below (s₁.setTop (mkF m 0 #[.val (.ref w), .val (.int (1 : Int32))] [])) _
    refine XS.aloadN X0.here hx rfl (hb hby d34_0) rfl rfl ?_
    exact kt
  obtain ⟨cq121, q121, q121'⟩ := F.1.cell
  obtain ⟨_, _, ⟨T121, L121, k121, n121⟩, -, X121, ⟨Lc121, hQ121, l121, y121, z121⟩, st121⟩ := X0.privateBack hx (y := (⟨"com/example/tenantd/tenantd/server/JsonWriter", "separate", "()V"⟩ : MethodName)) hown (mvT hZ (hw _ (List.mem_of_getElem? (i := 149) rfl))) (mvT hZ (hw _ (List.mem_of_getElem? (i := 150) rfl))) (mvT hZ (own_psel (y := (⟨"com/example/tenantd/tenantd/server/JsonWriter", "separate", "()V"⟩ : MethodName)) (z := (⟨"com/example/tenantd/tenantd/server/JsonWriter", "endArray", "()Lcom/example/tenantd/tenantd/server/JsonWriter;"⟩ : MethodName)) rfl (by decide) (hw _ (List.mem_of_getElem? (i := 150) rfl)) (hw _ (List.mem_of_getElem? (i := 151) rfl)) (hw _ (List.mem_of_getElem? (i := 35) rfl)))) (Cond.privateMethod_at (mvP hZ (hw _ (List.mem_of_getElem? (i := 151) rfl)) (args := #[]))) (mvT hZ (hw _ (List.mem_of_getElem? (i := 152) rfl))) (by decide) (backOf (W := 0) (jw_sep1 l Z a0 hw [] w a b t cs h0 n0 Z0 S0 hcs O F (by omega) g_w g_a g_b) hZ (hw _ (List.mem_of_getElem? (i := 152) rfl)) (hw _ (List.mem_of_getElem? (i := 3) rfl)) (by decide) (by decide)) (g := (mkF m 1 #[.val (.ref w), .val (.int (1 : Int32))] [(.ref w)])) rfl (by rw [hml]; rfl) (Steps.refl _) (a := w) (by rw [e0]; exact q121) q121' (argsL := []) (rest := []) (lenOf pd_0 rfl) rfl (by show 2 * 0 + _ ≤ _; exact Nat.le_of_eq rfl) (hb hby d34_1) (fun _ _ => ⟨rfl, e0, (by decide : 0 + 0 ≤ _), (by decide : 0 + 0 ≤ _)⟩)
  dsimp only [Pt.U, Pt.locs, Pt.cells, Pt.slots] at X121 l121 y121 z121 st121 hQ121
  subst l121 y121 z121
  obtain ⟨rfl, N121q, K121, F121⟩ := hQ121
  have N121 := Fr.app N0 N121q
  refine Ends.st st121 ?_
  have Z1 : n0 ≤ T121.heap.size := Nat.le_trans Z0 K121.1
  have O1 := O.keep K121 (allS g_a (allS g_b all0))
  obtain ⟨Ew, Ft, Fa, Sb⟩ := id F121
  have nwa : w ≠ a := Exa.ne Ew Sb.1 (by decide)
  obtain ⟨cb0, Ab0, -, -, -⟩ := Sb.2.2.2.2.1.op
  have nwb : w ≠ b := ne_arr Ew (hw _ (List.mem_of_getElem? (i := 2) rfl)) Ab0
  have nw : w ∉ [a, b] := ninS nwa (ninS nwb nin0)
  refine Ends.of (F' := T121.setTop (mkF m 5 #[.val (.ref w), .val (.int (1 : Int32))] [(.ref w)])) (fun _ kt => ?_) ?_
  · show Steps p.tables e below (T121.setTop (mkF m 4 #[.val (.ref w), .val (.int (1 : Int32))] [])) _
    refine XS.aloadN X121.here hx rfl (hb hby d34_4) rfl rfl ?_
    exact kt
  obtain ⟨T122, X122, e122, st122⟩ := getF X121 hx hZ hown (host := "") (Or.inl (hw _ (List.mem_of_getElem? (i := 30) rfl))) Via.refl rfl Ft (g := (mkF m 5 #[.val (.ref w), .val (.int (1 : Int32))] [(.ref w)])) rfl rfl (hb hby d34_5)
  refine Ends.of st122 ?_
  refine Ends.of (F' := T122.setTop (mkF m 9 #[.val (.ref w), .val (.int (1 : Int32))] [(.int (1 : Int32)), (.ref a)])) (fun _ kt => ?_) ?_
  · show Steps p.tables e below (T122.setTop (mkF m 8 #[.val (.ref w), .val (.int (1 : Int32))] [(.ref a)])) _
    refine XS.iloadN X122.here hx rfl (hb hby d34_8) rfl ?_
    exact kt
  obtain ⟨cq123, kq123, q123a, q123b, q123c⟩ := isOf hZ e122 Sb.1
  obtain ⟨_, _, ⟨T123, L123, k123, n123⟩, -, X123, ⟨Lc123, hQ123, l123, y123, z123⟩, st123⟩ := X122.virtualBack hx (y := (⟨"java/lang/StringBuilder", "append", "(Z)Ljava/lang/StringBuilder;"⟩ : MethodName)) (z := (⟨"java/lang/StringBuilder", "append", "(Z)Ljava/lang/StringBuilder;"⟩ : MethodName)) hown (mvT hZ (hw _ (List.mem_of_getElem? (i := 184) rfl))) (mvT hZ (hw _ (List.mem_of_getElem? (i := 185) rfl))) (notFace_of_selects (args := #[]) (mvT hZ (hw _ (List.mem_of_getElem? (i := 187) rfl)))) (mvT hZ (hw _ (List.mem_of_getElem? (i := 187) rfl))) (mvT hZ (hw _ (List.mem_of_getElem? (i := 186) rfl))) (by decide) (backOf (W := 0) (sb_appZ1 l Z a0 hw [] a b 256 (t ++ [44]).length (tf (t ++ [44])) cs T121.heap n0 Z1 S0 hcs O1 Sb (by simp only [List.length_append, List.length_cons, List.length_nil]; omega) g_a g_b) hZ (hw _ (List.mem_of_getElem? (i := 188) rfl)) (hw _ (List.mem_of_getElem? (i := 12) rfl)) (by decide) (by decide)) q123a q123c (g := (mkF m 9 #[.val (.ref w), .val (.int (1 : Int32))] [(.int (1 : Int32)), (.ref a)])) rfl (by rw [hml]; rfl) (Steps.refl _) (argsL := [(.int (1 : Int32))]) (rest := []) (lenOf pd_24 rfl) rfl (by show 2 * 0 + _ ≤ _; exact Nat.le_of_eq rfl) (hb hby d34_9) (fun _ _ => ⟨rfl, e122, (by decide : 0 + 0 ≤ _), (by decide : 0 + 0 ≤ _)⟩)
  dsimp only [Pt.U, Pt.locs, Pt.cells, Pt.slots] at X123 l123 y123 z123 st123 hQ123
  subst l123 y123 z123
  obtain ⟨rfl, N123q, K123, Fx123⟩ := hQ123
  have N123 := Fr.app N121 N123q
  refine Ends.st st123 ?_
  have F123 := SBd.tru Fx123
  have E_1 := Ew.keep K123
  have Ft_1 := Ft.keep K123 nw
  have Fa_1 := Fa.keep K123 nw
  refine Ends.of (F' := T123.setTop (mkF m 15 #[.val (.ref w), .val (.int (1 : Int32))] [(.int (1 : Int32)), (.ref w)])) (fun _ kt => ?_) ?_
  · show Steps p.tables e below (T123.setTop (mkF m 12 #[.val (.ref w), .val (.int (1 : Int32))] [(.ref a)])) _
    refine XS.pop X123.here hx rfl (hb hby d34_12) rfl rfl ?_
    show Steps p.tables e below (T123.setTop (mkF m 13 #[.val (.ref w), .val (.int (1 : Int32))] [])) _
    refine XS.aloadN X123.here hx rfl (hb hby d34_13) rfl rfl ?_
    show Steps p.tables e below (T123.setTop (mkF m 14 #[.val (.ref w), .val (.int (1 : Int32))] [(.ref w)])) _
    refine XS.iconst X123.here hx rfl (hb hby d34_14) ?_
    exact kt
  obtain ⟨T124, h124, X124, e124, W124, st124⟩ := putFN X123 hx hZ hown (hw _ (List.mem_of_getElem? (i := 63) rfl)) Via.refl rfl Fa_1 E_1 (Or.inl (hw _ (List.mem_of_getElem? (i := 64) rfl))) (hw _ (List.mem_of_getElem? (i := 2) rfl)) (ty := .boolean) (v' := (.int (1 : Int32))) (by decide) rfl rfl (g := (mkF m 15 #[.val (.ref w), .val (.int (1 : Int32))] [(.int (1 : Int32)), (.ref w)])) rfl rfl (hb hby d34_15)
  refine Ends.of st124 ?_
  have N124 := Fr.snoc X124 N123 g_w
  have Fa_2 := Fa_1.same W124
  have Ft_2 := Ft_1.other W124 (Or.inr (slot_ne (Or.inr (hw _ (List.mem_of_getElem? (i := 31) rfl))) (Or.inl (hw _ (List.mem_of_getElem? (i := 64) rfl))) (by decide) (t := (.object "java/lang/StringBuilder")) (t' := .boolean) (by decide) (by decide)))
  have E_2 := E_1.wr W124
  have Sb_2 := F123.keep (Keep.of_wr W124) (ninS (Ne.symm nwa) nin0) (ninS (Ne.symm nwb) nin0)
  have K9 : Keep h0 h124 [w, a, b] := (((Keep.refl h0 [w, a, b]).trans K121 (allS (Or.inl (List.mem_of_getElem? (i := 1) rfl)) (allS (Or.inl (List.mem_of_getElem? (i := 2) rfl)) all0))).trans K123 (allS (Or.inl (List.mem_of_getElem? (i := 1) rfl)) (allS (Or.inl (List.mem_of_getElem? (i := 2) rfl)) all0))).wr W124 (Or.inl (List.mem_of_getElem? (i := 0) rfl))
  rw [← e124] at Fa_2 Ft_2 E_2 Sb_2 K9
  refine Ends.of (F' := T124.setTop (mkF m 19 #[.val (.ref w), .val (.int (1 : Int32))] [(.ref w)])) (fun _ kt => ?_) ?_
  · show Steps p.tables e below (T124.setTop (mkF m 18 #[.val (.ref w), .val (.int (1 : Int32))] [])) _
    refine XS.aloadN X124.here hx rfl (hb hby d34_18) rfl rfl ?_
    exact kt
  obtain ⟨fs, hr, hrun, hended, hW, hsame⟩ := X124.leave (v := some (.ref w)) (fun h => by rw [Bd.returns] at h; cases h)
  refine ⟨_, _, ?_, hrun, hended, _, _, rfl, ⟨rfl, N124, K9, E_2, Ft_2, Fa_2, Sb_2⟩, ⟨_, rfl⟩, hW, hsame.mono (by decide) (by decide)⟩
  show Steps p.tables e below (T124.setTop (mkF m 19 #[.val (.ref w), .val (.int (1 : Int32))] [(.ref w)])) _
  jvm_step X124.here [X124.here.top, hx, (hb hby d34_19), X124.method', Bd.returns, Value.isRef, FieldType.isReference]
  first | (intro acts; rw [hr _ acts rfl rfl rfl]) | rw [hr _ _ rfl rfl rfl]
  exact Steps.refl _
theorem d11_0 : decode prog_55_method_13_code 0 = .ok (.aload_n 0, 1) := by decide +kernel
theorem d11_1 : decode prog_55_method_13_code 1 = .ok (.getfield 12, 3) := by decide +kernel
theorem d11_4 : decode prog_55_method_13_code 4 = .ok (.invokevirtual 146, 3) := by decide +kernel
theorem d11_7 : decode prog_55_method_13_code 7 = .ok (.areturn, 1) := by decide +kernel
def Q_jw_str (Z : State) (w : Addr) (a : Addr) (b : Addr) (t : List Int32) (cs : Int32) (av : Int32) (h0 : Heap) (n0 : Nat) (v : Option Value) (h : Heap) (L : List Loc) : Prop := ∃ d : Addr, v = some (.ref h0.size) ∧ Fr n0 L ∧ Keep h0 h [] ∧ Str Z h h0.size d t.length (tf t) ∧ h0.size < d
set_option maxRecDepth 65536 in
set_option maxHeartbeats 40000000 in
theorem jw_str (l : Launch) (Z : State) (a0 : Array Value) (hw : ∀ d ∈ tables_1, d.before a0 Z = true) (ws : List Jvm.Cond) (w : Addr) (a : Addr) (b : Addr) (t : List Int32) (cs : Int32) (av : Int32) (h0 : Heap) (n0 : Nat) (Z0 : n0 ≤ h0.size) (S0 : Sta Z Z.heap "java/lang/String" "COMPACT_STRINGS" "Z" (.int cs)) (hcs : ¬ cs = (0 : Int32)) (O : Old Z n0 h0) (F : JWr Z h0 w a b t av) (hn : t.length ≤ 16) :
    MetFree l (⟨"com/example/tenantd/tenantd/server/JsonWriter", "toString", "()Ljava/lang/String;"⟩ : MethodName) (head1 (Jvm.Cond.code (⟨"com/example/tenantd/tenantd/server/JsonWriter", "toString", "()Ljava/lang/String;"⟩ : MethodName) prog_55_method_13_code 1 (some (.object "java/lang/String")) :: ws) ({ frames := 6, cells := 2, slots := 20, locals := 137 } : Room)) (fun a U => a = #[(.ref w)] ∧ Z.Warmed39 U.vm ∧ U.heap = h0) (fun _ _ _ _ _ => True) (fun _ U o U' => ∃ v L, o = .returned v ∧ Q_jw_str Z w a b t cs av h0 n0 v U'.heap L ∧ FrameEnd U o U' L ({ frames := 6, cells := 2, slots := 20, locals := 137 } : Room).cells ({ frames := 6, cells := 2, slots := 20, locals := 137 } : Room).slots) := by
  refine MetFree.of_bodySF (plainFor_of_name pn_6) hisR ?_
  intro p e s m args below meth c s₁ Bd hml0 hP hK
  obtain ⟨rfl, hZ, hh⟩ := hP
  have hx := Bd.exec
  have hby := Bd.bytes
  have hml : c.maxLocals = 1 := hml0
  have hown : s.vm.findClass "com/example/tenantd/tenantd/server/JsonWriter" = some m.cls := findClass_of_methodNamed Bd.named
  have hnm := (name_of_methodNamed Bd.named Bd.method).1
  have X0 : Stand p l e ({ frames := 6, cells := 2, slots := 20, locals := 137 } : Room) s m #[(.ref w)] below meth c s₁ [] 0 0 := Stand.of_body Bd
  have e0 : s₁.heap = h0 := by rw [← hh, Bd.state]; rfl
  have N0 := Fr.nil n0
  have eF : entryFrame m #[(.ref w)] 1 = mkF m 0 #[.val (.ref w)] [] := by first | (simp [entryFrame, mkF, argsToLocals, Value.category]; done) | rfl
  show Ends p e below s ({ frames := 6, cells := 2, slots := 20, locals := 137 } : Room) (Q_jw_str Z w a b t cs av h0 n0) (s₁.setTop (entryFrame m #[(.ref w)] 1))
  rw [eF]
  refine Ends.of (F' := s₁.setTop (mkF m 1 #[.val (.ref w)] [(.ref w)])) (fun _ kt => ?_) ?_
  · show Steps p.tables e below (s₁.setTop (mkF m 0 #[.val (.ref w)] [])) _
    refine XS.aloadN X0.here hx rfl (hb hby d11_0) rfl rfl ?_
    exact kt
  obtain ⟨T125, X125, e125, st125⟩ := getF X0 hx hZ hown (host := "") (Or.inl (hw _ (List.mem_of_getElem? (i := 30) rfl))) Via.refl e0 F.2.1 (g := (mkF m 1 #[.val (.ref w)] [(.ref w)])) rfl rfl (hb hby d11_1)
  refine Ends.of st125 ?_
  obtain ⟨cq126, kq126, q126a, q126b, q126c⟩ := isOf hZ e125 F.2.2.2.1
  obtain ⟨_, _, ⟨T126, L126, k126, n126⟩, -, X126, ⟨Lc126, hQ126, l126, y126, z126⟩, st126⟩ := X125.virtualBack hx (y := (⟨"java/lang/StringBuilder", "toString", "()Ljava/lang/String;"⟩ : MethodName)) (z := (⟨"java/lang/StringBuilder", "toString", "()Ljava/lang/String;"⟩ : MethodName)) hown (mvT hZ (hw _ (List.mem_of_getElem? (i := 70) rfl))) (mvT hZ (hw _ (List.mem_of_getElem? (i := 71) rfl))) (notFace_of_selects (args := #[]) (mvT hZ (hw _ (List.mem_of_getElem? (i := 73) rfl)))) (mvT hZ (hw _ (List.mem_of_getElem? (i := 73) rfl))) (mvT hZ (hw _ (List.mem_of_getElem? (i := 72) rfl))) (by decide) (backOf (W := 0) (sb_str l Z a0 hw [] a b 256 t.length (tf t) cs h0 n0 Z0 S0 hcs O F.2.2.2 (by omega) hn) hZ (hw _ (List.mem_of_getElem? (i := 74) rfl)) (hw _ (List.mem_of_getElem? (i := 12) rfl)) (by decide) (by decide)) q126a q126c (g := (mkF m 4 #[.val (.ref w)] [(.ref a)])) rfl (by rw [hml]; rfl) (Steps.refl _) (argsL := []) (rest := []) (lenOf pd_7 rfl) rfl (by show 2 * 0 + _ ≤ _; exact Nat.le_of_eq rfl) (hb hby d11_4) (fun _ _ => ⟨rfl, e125, (by decide : 0 + 2 ≤ _), (by decide : 0 + 20 ≤ _)⟩)
  dsimp only [Pt.U, Pt.locs, Pt.cells, Pt.slots] at X126 l126 y126 z126 st126 hQ126
  subst l126 y126 z126
  obtain ⟨d126, rfl, N126q, K126, St126, gd126⟩ := hQ126
  have N126 := Fr.app N0 N126q
  refine Ends.st st126 ?_
  obtain ⟨fs, hr, hrun, hended, hW, hsame⟩ := X126.leave (v := some (.ref h0.size)) (fun h => by rw [Bd.returns] at h; cases h)
  refine ⟨_, _, ?_, hrun, hended, _, _, rfl, ⟨d126, rfl, N126, K126, St126, gd126⟩, ⟨_, rfl⟩, hW, hsame.mono (by decide) (by decide)⟩
  show Steps p.tables e below (T126.setTop (mkF m 7 #[.val (.ref w)] [(.ref h0.size)])) _
  jvm_step X126.here [X126.here.top, hx, (hb hby d11_7), X126.method', Bd.returns, Value.isRef, FieldType.isReference]
  first | (intro acts; rw [hr _ acts rfl rfl rfl]) | rw [hr _ _ rfl rfl rfl]
  exact Steps.refl _
theorem d28_0 : decode method_2_code 0 = .ok (.iload_n 1, 1) := by decide +kernel
theorem d28_1 : decode method_2_code 1 = .ok (.aload_n 0, 1) := by decide +kernel
theorem d28_2 : decode method_2_code 2 = .ok (.invokevirtual 7, 3) := by decide +kernel
theorem d28_5 : decode method_2_code 5 = .ok (.if_icmp .ge 16, 3) := by decide +kernel
theorem d28_8 : decode method_2_code 8 = .ok (.aload_n 0, 1) := by decide +kernel
theorem d28_9 : decode method_2_code 9 = .ok (.iload_n 1, 1) := by decide +kernel
theorem d28_10 : decode method_2_code 10 = .ok (.invokevirtual 13, 3) := by decide +kernel
theorem d28_13 : decode method_2_code 13 = .ok (.iload_n 2, 1) := by decide +kernel
theorem d28_14 : decode method_2_code 14 = .ok (.if_icmp .ne 7, 3) := by decide +kernel
theorem d28_17 : decode method_2_code 17 = .ok (.iconst 1, 1) := by decide +kernel
theorem d28_18 : decode method_2_code 18 = .ok (.goto 4, 3) := by decide +kernel
theorem d28_21 : decode method_2_code 21 = .ok (.iconst 0, 1) := by decide +kernel
theorem d28_22 : decode method_2_code 22 = .ok (.ireturn, 1) := by decide +kernel
theorem pn_7 : plainName "com/example/tenantd/tenantd/server/JsonWriterEndArrayPinLaw" = true := by first | (simp [plainName, overriddenIn]; done) | decide +kernel
def Q_law_at (Z : State) (a1 : Addr) (b : Addr) (i : Nat) (n : Nat) (f : Nat → Int32) (ch : Int32) (cs : Int32) (fv : Value) (h0 : Heap) (n0 : Nat) (v : Option Value) (h : Heap) (L : List Loc) : Prop := v = some (.int (1 : Int32)) ∧ Fr n0 L ∧ h = h0
set_option maxRecDepth 65536 in
set_option maxHeartbeats 40000000 in
theorem law_at (l : Launch) (Z : State) (a0 : Array Value) (hw : ∀ d ∈ tables_1, d.before a0 Z = true) (ws : List Jvm.Cond) (a1 : Addr) (b : Addr) (i : Nat) (n : Nat) (f : Nat → Int32) (ch : Int32) (cs : Int32) (fv : Value) (h0 : Heap) (n0 : Nat) (Z0 : n0 ≤ h0.size) (S0 : Sta Z Z.heap "java/lang/String" "COMPACT_STRINGS" "Z" (.int cs)) (hcs : ¬ cs = (0 : Int32)) (O : Old Z n0 h0) (S1 : Sta Z Z.heap "jdk/internal/util/Preconditions" "SIOOBE_FORMATTER" "Ljava/util/function/BiFunction;" fv) (hfv : fv = .null ∨ ∃ x : Addr, fv = .ref x) (F : Str Z h0 a1 b n f) (hi : i < n) (hch : ((f i) &&& (255 : Int32)).toUInt32.toUInt16.toUInt32.toInt32 = ch) (hnc : nar .char ch = ch) :
    MetFree l (⟨"com/example/tenantd/tenantd/server/JsonWriterEndArrayPinLaw", "at", "(Ljava/lang/String;IC)Z"⟩ : MethodName) (head1 (Jvm.Cond.code (⟨"com/example/tenantd/tenantd/server/JsonWriterEndArrayPinLaw", "at", "(Ljava/lang/String;IC)Z"⟩ : MethodName) method_2_code 3 (some .boolean) :: ws) ({ frames := 4, cells := 0, slots := 0, locals := 53 } : Room)) (fun a U => a = #[(.ref a1), (.int (Int32.ofNat i)), (.int ch)] ∧ Z.Warmed39 U.vm ∧ U.heap = h0) (fun _ _ _ _ _ => True) (fun _ U o U' => ∃ v L, o = .returned v ∧ Q_law_at Z a1 b i n f ch cs fv h0 n0 v U'.heap L ∧ FrameEnd U o U' L ({ frames := 4, cells := 0, slots := 0, locals := 53 } : Room).cells ({ frames := 4, cells := 0, slots := 0, locals := 53 } : Room).slots) := by
  refine MetFree.of_bodySF (plainFor_of_name pn_7) hisR ?_
  intro p e s m args below meth c s₁ Bd hml0 hP hK
  obtain ⟨rfl, hZ, hh⟩ := hP
  have hx := Bd.exec
  have hby := Bd.bytes
  have hml : c.maxLocals = 3 := hml0
  have hown : s.vm.findClass "com/example/tenantd/tenantd/server/JsonWriterEndArrayPinLaw" = some m.cls := findClass_of_methodNamed Bd.named
  have hnm := (name_of_methodNamed Bd.named Bd.method).1
  have X0 : Stand p l e ({ frames := 4, cells := 0, slots := 0, locals := 53 } : Room) s m #[(.ref a1), (.int (Int32.ofNat i)), (.int ch)] below meth c s₁ [] 0 0 := Stand.of_body Bd
  have e0 : s₁.heap = h0 := by rw [← hh, Bd.state]; rfl
  have N0 := Fr.nil n0
  have eF : entryFrame m #[(.ref a1), (.int (Int32.ofNat i)), (.int ch)] 3 = mkF m 0 #[.val (.ref a1), .val (.int (Int32.ofNat i)), .val (.int ch)] [] := by first | (simp [entryFrame, mkF, argsToLocals, Value.category]; done) | rfl
  show Ends p e below s ({ frames := 4, cells := 0, slots := 0, locals := 53 } : Room) (Q_law_at Z a1 b i n f ch cs fv h0 n0) (s₁.setTop (entryFrame m #[(.ref a1), (.int (Int32.ofNat i)), (.int ch)] 3))
  rw [eF]
  have hn := F.2.2.2.1
  refine Ends.of (F' := s₁.setTop (mkF m 2 #[.val (.ref a1), .val (.int (Int32.ofNat i)), .val (.int ch)] [(.ref a1), (.int (Int32.ofNat i))])) (fun _ kt => ?_) ?_
  · show Steps p.tables e below (s₁.setTop (mkF m 0 #[.val (.ref a1), .val (.int (Int32.ofNat i)), .val (.int ch)] [])) _
    refine XS.iloadN X0.here hx rfl (hb hby d28_0) rfl ?_
    show Steps p.tables e below (s₁.setTop (mkF m 1 #[.val (.ref a1), .val (.int (Int32.ofNat i)), .val (.int ch)] [(.int (Int32.ofNat i))])) _
    refine XS.aloadN X0.here hx rfl (hb hby d28_1) rfl rfl ?_
    exact kt
  obtain ⟨cq127, kq127, q127a, q127b, q127c⟩ := isOf hZ e0 F.1
  obtain ⟨_, _, ⟨T127, L127, k127, n127⟩, -, X127, ⟨Lc127, hQ127, l127, y127, z127⟩, st127⟩ := X0.virtualBack hx (y := (⟨"java/lang/String", "length", "()I"⟩ : MethodName)) (z := (⟨"java/lang/String", "length", "()I"⟩ : MethodName)) hown (mvT hZ (hw _ (List.mem_of_getElem? (i := 134) rfl))) (mvT hZ (hw _ (List.mem_of_getElem? (i := 135) rfl))) (notFace_of_selects (args := #[]) (mvT hZ (hw _ (List.mem_of_getElem? (i := 137) rfl)))) (mvT hZ (hw _ (List.mem_of_getElem? (i := 137) rfl))) (mvT hZ (hw _ (List.mem_of_getElem? (i := 136) rfl))) (by decide) (backOf (W := 1) (str_length l Z a0 hw [] a1 b n f cs h0 n0 Z0 S0 hcs O F) hZ (hw _ (List.mem_of_getElem? (i := 138) rfl)) (hw _ (List.mem_of_getElem? (i := 24) rfl)) (by decide) (by decide)) q127a q127c (g := (mkF m 2 #[.val (.ref a1), .val (.int (Int32.ofNat i)), .val (.int ch)] [(.ref a1), (.int (Int32.ofNat i))])) rfl (by rw [hml]; rfl) (Steps.refl _) (argsL := []) (rest := [(.int (Int32.ofNat i))]) (lenOf pd_11 rfl) rfl (by show 2 * 0 + _ ≤ _; exact Nat.le_of_eq rfl) (hb hby d28_2) (fun _ _ => ⟨rfl, e0, (by decide : 0 + 0 ≤ _), (by decide : 0 + 0 ≤ _)⟩)
  dsimp only [Pt.U, Pt.locs, Pt.cells, Pt.slots] at X127 l127 y127 z127 st127 hQ127
  subst l127 y127 z127
  obtain ⟨rfl, N127q, e127⟩ := hQ127
  have N127 := Fr.app N0 N127q
  refine Ends.st st127 ?_
  refine Ends.of (F' := T127.setTop (mkF m 10 #[.val (.ref a1), .val (.int (Int32.ofNat i)), .val (.int ch)] [(.int (Int32.ofNat i)), (.ref a1)])) (fun _ kt => ?_) ?_
  · show Steps p.tables e below (T127.setTop (mkF m 5 #[.val (.ref a1), .val (.int (Int32.ofNat i)), .val (.int ch)] [(.int (Int32.ofNat n)), (.int (Int32.ofNat i))])) _
    refine XS.icmpNo X127.here hx rfl (hb hby d28_5) rfl (tlt ((own_ltN i n (by omega) (by omega)).mpr hi)).2.1 ?_
    show Steps p.tables e below (T127.setTop (mkF m 8 #[.val (.ref a1), .val (.int (Int32.ofNat i)), .val (.int ch)] [])) _
    refine XS.aloadN X127.here hx rfl (hb hby d28_8) rfl rfl ?_
    show Steps p.tables e below (T127.setTop (mkF m 9 #[.val (.ref a1), .val (.int (Int32.ofNat i)), .val (.int ch)] [(.ref a1)])) _
    refine XS.iloadN X127.here hx rfl (hb hby d28_9) rfl ?_
    exact kt
  obtain ⟨cq128, kq128, q128a, q128b, q128c⟩ := isOf hZ e127 F.1
  obtain ⟨_, _, ⟨T128, L128, k128, n128⟩, -, X128, ⟨Lc128, hQ128, l128, y128, z128⟩, st128⟩ := X127.virtualBack hx (y := (⟨"java/lang/String", "charAt", "(I)C"⟩ : MethodName)) (z := (⟨"java/lang/String", "charAt", "(I)C"⟩ : MethodName)) hown (mvT hZ (hw _ (List.mem_of_getElem? (i := 157) rfl))) (mvT hZ (hw _ (List.mem_of_getElem? (i := 158) rfl))) (notFace_of_selects (args := #[]) (mvT hZ (hw _ (List.mem_of_getElem? (i := 160) rfl)))) (mvT hZ (hw _ (List.mem_of_getElem? (i := 160) rfl))) (mvT hZ (hw _ (List.mem_of_getElem? (i := 159) rfl))) (by decide) (backOf (W := 0) (str_charAt l Z a0 hw [] a1 b i n f ch cs fv h0 n0 Z0 S0 hcs O S1 hfv F hi hch hnc) hZ (hw _ (List.mem_of_getElem? (i := 161) rfl)) (hw _ (List.mem_of_getElem? (i := 24) rfl)) (by decide) (by decide)) q128a q128c (g := (mkF m 10 #[.val (.ref a1), .val (.int (Int32.ofNat i)), .val (.int ch)] [(.int (Int32.ofNat i)), (.ref a1)])) rfl (by rw [hml]; rfl) (Steps.refl _) (argsL := [(.int (Int32.ofNat i))]) (rest := []) (lenOf pd_20 rfl) rfl (by show 2 * 0 + _ ≤ _; exact Nat.le_of_eq rfl) (hb hby d28_10) (fun _ _ => ⟨rfl, e127, (by decide : 0 + 0 ≤ _), (by decide : 0 + 0 ≤ _)⟩)
  dsimp only [Pt.U, Pt.locs, Pt.cells, Pt.slots] at X128 l128 y128 z128 st128 hQ128
  subst l128 y128 z128
  obtain ⟨rfl, N128q, e128⟩ := hQ128
  have N128 := Fr.app N127 N128q
  refine Ends.st st128 ?_
  refine Ends.of (F' := T128.setTop (mkF m 22 #[.val (.ref a1), .val (.int (Int32.ofNat i)), .val (.int ch)] [(.int (1 : Int32))])) (fun _ kt => ?_) ?_
  · show Steps p.tables e below (T128.setTop (mkF m 13 #[.val (.ref a1), .val (.int (Int32.ofNat i)), .val (.int ch)] [(.int ch)])) _
    refine XS.iloadN X128.here hx rfl (hb hby d28_13) rfl ?_
    show Steps p.tables e below (T128.setTop (mkF m 14 #[.val (.ref a1), .val (.int (Int32.ofNat i)), .val (.int ch)] [(.int ch), (.int ch)])) _
    refine XS.icmpNo X128.here hx rfl (hb hby d28_14) rfl (teq rfl).2 ?_
    show Steps p.tables e below (T128.setTop (mkF m 17 #[.val (.ref a1), .val (.int (Int32.ofNat i)), .val (.int ch)] [])) _
    refine XS.iconst X128.here hx rfl (hb hby d28_17) ?_
    show Steps p.tables e below (T128.setTop (mkF m 18 #[.val (.ref a1), .val (.int (Int32.ofNat i)), .val (.int ch)] [(.int (1 : Int32))])) _
    refine XS.goto X128.here hx rfl (pc0 := 18) (pc' := 22) rfl (hb hby d28_18) (by decide) (by decide) ?_
    exact kt
  obtain ⟨fs, hr, hrun, hended, hW, hsame⟩ := X128.leave (v := some (.int (1 : Int32))) (fun h => by rw [Bd.returns] at h; cases h)
  exact ⟨_, _, retN X128 hx (t := .boolean) Bd.returns (by simp) (hb hby d28_22) hr, hrun, hended, _, _, rfl, ⟨rfl, N128, e128⟩, ⟨_, rfl⟩, hW, hsame.mono (by decide) (by decide)⟩
def Q0 (Z : State) (p1 : Int32) (p2 : Int32) (p3 : Int32) (cs : Int32) (fv : Value) (h0 : Heap) (n0 : Nat) (v : Option Value) (h : Heap) (L : List Loc) : Prop := v = some (.int (1 : Int32)) ∧ Fr n0 L
set_option maxRecDepth 65536 in
set_option maxHeartbeats 40000000 in
theorem rm0 (l : Launch) (Z : State) (a0 : Array Value) (hw : ∀ d ∈ tables_1, d.before a0 Z = true) (ws : List Jvm.Cond) (p1 : Int32) (p2 : Int32) (p3 : Int32) (cs : Int32) (fv : Value) (h0 : Heap) (n0 : Nat) (Z0 : n0 ≤ h0.size) (S0 : Sta Z Z.heap "java/lang/String" "COMPACT_STRINGS" "Z" (.int cs)) (hcs : ¬ cs = (0 : Int32)) (O : Old Z n0 h0) (S1 : Sta Z Z.heap "jdk/internal/util/Preconditions" "SIOOBE_FORMATTER" "Ljava/util/function/BiFunction;" fv) (hfv : fv = .null ∨ ∃ x : Addr, fv = .ref x) (hh0 : ∀ q ∈ consts_1, Jvm.Lit.constHeld Z q.1 q.2) (hcw : Jvm.Lit.compactW.before a0 Z = true) :
    MetFree l x (head1 (Jvm.Cond.code x code maxLocals ret :: ws) room_1) (fun a U => a = #[(.int p1), (.int p2), (.int p3)] ∧ Z.Warmed39 U.vm ∧ U.heap = h0 ∧ U = Z) (fun _ _ _ _ _ => True) (fun _ U o U' => ∃ v L, o = .returned v ∧ Q0 Z p1 p2 p3 cs fv h0 n0 v U'.heap L ∧ ReturnedEndW U o U' L room_1.cells room_1.slots) := by
  refine MetFree.of_bodySF (plainFor_of_name pn_7) hisR ?_
  intro p e s m args below meth c s₁ Bd hml0 hP hK
  obtain ⟨rfl, hZ, hh, hUZ⟩ := hP
  have hx := Bd.exec
  have hby := Bd.bytes
  have hml : c.maxLocals = 13 := hml0
  have hown : s.vm.findClass "com/example/tenantd/tenantd/server/JsonWriterEndArrayPinLaw" = some m.cls := findClass_of_methodNamed Bd.named
  have hnm := (name_of_methodNamed Bd.named Bd.method).1
  have X0 : Stand p l e room_1 s m #[(.int p1), (.int p2), (.int p3)] below meth c s₁ [] 0 0 := Stand.of_body Bd
  have e0 : s₁.heap = h0 := by rw [← hh, Bd.state]; rfl
  have N0 := Fr.nil n0
  have eF : entryFrame m #[(.int p1), (.int p2), (.int p3)] maxLocals = mkF m 0 #[.val (.int p1), .val (.int p2), .val (.int p3), .unset, .unset, .unset, .unset, .unset, .unset, .unset, .unset, .unset, .unset] [] := by first | (simp [entryFrame, mkF, argsToLocals, Value.category, maxLocals]; done) | rfl
  show EndsW p e below s room_1 (Q0 Z p1 p2 p3 cs fv h0 n0) (s₁.setTop (entryFrame m #[(.int p1), (.int p2), (.int p3)] maxLocals))
  rw [eF]
  have wS : ∀ q ∈ Bundle.stringAtoms, q.before a0 Z = true := fun q hq => by
    simp only [Bundle.stringAtoms, List.mem_cons, List.not_mem_nil, or_false] at hq
    rcases hq with rfl | rfl | rfl | rfl | rfl | rfl | rfl
    · exact (hw _ (List.mem_of_getElem? (i := 24) rfl))
    · exact (hw _ (List.mem_of_getElem? (i := 76) rfl))
    · exact (hw _ (List.mem_of_getElem? (i := 25) rfl))
    · exact (hw _ (List.mem_of_getElem? (i := 120) rfl))
    · exact (hw _ (List.mem_of_getElem? (i := 100) rfl))
    · exact (hw _ (List.mem_of_getElem? (i := 122) rfl))
    · exact (hw _ (List.mem_of_getElem? (i := 123) rfl))
  have hkeep : ∀ (b : Addr) (cl : Cell), Z.heap[b]? = some cl → s.heap[b]? = some cl := fun b cl q => by rw [hUZ]; exact q
  have hI0 : IB Z s.vm [] := by rw [hUZ]; exact IB.start
  have hn0 : s.heap.size = n0 := by rw [hUZ]; exact O.1
  have hS0 : s.Since s.vm s.heap.size := (State.WarmedH.refl s).since _
  have tail : ∀ (vm1 : Vm) (k1 : Nat) (Tb : State) (lb : List Loc) (hB : Heap) (w a b u1 v1 u2 v2 : Addr) (tx : List Int32) (M q1 q2 fol : Int32), tx.length ≤ 7 → (q2 = 0 ∨ q2 = 1) → (fol = 0 ∨ fol = 1 ∨ fol = 2 ∨ fol = 3) → s.Since vm1 k1 → k1 ≤ hB.size → Z.Warmed39 (s.setVm vm1).vm → (s.setVm vm1).vm.findClass "com/example/tenantd/tenantd/server/JsonWriterEndArrayPinLaw" = some m.cls → Stand p l e room_1 (s.setVm vm1) m #[(.int p1), (.int p2), (.int p3)] below meth c Tb lb 7 314 → Tb.heap = hB → Fr n0 lb → Old Z n0 hB → JWr Z hB w a b tx 1 → Str Z hB u1 v1 tx.length (tf tx) → Str Z hB u2 v2 tx.length (tf tx) → ¬ u1 = u2 → n0 ≤ w → n0 ≤ a → n0 ≤ b → n0 ≤ hB.size → EndsW p e below s room_1 (Q0 Z p1 p2 p3 cs fv h0 n0) (Tb.setTop (mkF m 240 #[.val (.int p1), .val (.int p2), .val (.int p3), .val (.int M), .val (.int q1), .val (.int q2), .val (.int fol), .val (.ref w), .val (.ref w), .val (.ref u1), .val (.ref u2), .unset, .unset] [])) := by
    intro vm1 k1 Tb lb hB w a b u1 v1 u2 v2 tx M q1 q2 fol hlen hq2 hfol hS hk1 hZ hown Xb eb Nb Ob Jb St1 St2 hne g_w g_a g_b Zb
    refine EndsW.of (F' := Tb.setTop (mkF m 251 #[.val (.int p1), .val (.int p2), .val (.int p3), .val (.int M), .val (.int q1), .val (.int q2), .val (.int fol), .val (.ref w), .val (.ref w), .val (.ref u1), .val (.ref u2), .unset, .unset] [(.ref u2), (.ref u1)])) (fun _ kt => ?_) ?_
    · show Steps p.tables e below (Tb.setTop (mkF m 240 #[.val (.int p1), .val (.int p2), .val (.int p3), .val (.int M), .val (.int q1), .val (.int q2), .val (.int fol), .val (.ref w), .val (.ref w), .val (.ref u1), .val (.ref u2), .unset, .unset] [])) _
      refine XS.aload Xb.here hx rfl (hb hby at_240) rfl rfl ?_
      show Steps p.tables e below (Tb.setTop (mkF m 242 #[.val (.int p1), .val (.int p2), .val (.int p3), .val (.int M), .val (.int q1), .val (.int q2), .val (.int fol), .val (.ref w), .val (.ref w), .val (.ref u1), .val (.ref u2), .unset, .unset] [(.ref w)])) _
      refine XS.aload Xb.here hx rfl (hb hby at_242) rfl rfl ?_
      show Steps p.tables e below (Tb.setTop (mkF m 244 #[.val (.int p1), .val (.int p2), .val (.int p3), .val (.int M), .val (.int q1), .val (.int q2), .val (.int fol), .val (.ref w), .val (.ref w), .val (.ref u1), .val (.ref u2), .unset, .unset] [(.ref w), (.ref w)])) _
      refine Jvm.RoadKit.acmp (g := (mkF m 244 #[.val (.int p1), .val (.int p2), .val (.int p3), .val (.int M), .val (.int q1), .val (.int q2), .val (.int fol), .val (.ref w), .val (.ref w), .val (.ref u1), .val (.ref u2), .unset, .unset] [(.ref w), (.ref w)])) Xb hx rfl rfl rfl (pc0 := 244) (pc' := 247) (same := true) rfl (hb hby at_244) rfl (decide_eq_true (congrArg Value.ref rfl)) (by decide) (by decide) ?_
      show Steps p.tables e below (Tb.setTop (mkF m 247 #[.val (.int p1), .val (.int p2), .val (.int p3), .val (.int M), .val (.int q1), .val (.int q2), .val (.int fol), .val (.ref w), .val (.ref w), .val (.ref u1), .val (.ref u2), .unset, .unset] [])) _
      refine XS.aload Xb.here hx rfl (hb hby at_247) rfl rfl ?_
      show Steps p.tables e below (Tb.setTop (mkF m 249 #[.val (.int p1), .val (.int p2), .val (.int p3), .val (.int M), .val (.int q1), .val (.int q2), .val (.int fol), .val (.ref w), .val (.ref w), .val (.ref u1), .val (.ref u2), .unset, .unset] [(.ref u1)])) _
      refine XS.aload Xb.here hx rfl (hb hby at_249) rfl rfl ?_
      exact kt
    obtain ⟨cq165, kq165, q165a, q165b, q165c⟩ := isOf hZ eb St1.1
    obtain ⟨_, _, ⟨T165, L165, k165, n165⟩, -, X165, ⟨Lc165, hQ165, l165, y165, z165⟩, st165⟩ := Xb.virtualBack hx (y := (⟨"java/lang/String", "equals", "(Ljava/lang/Object;)Z"⟩ : MethodName)) (z := (⟨"java/lang/String", "equals", "(Ljava/lang/Object;)Z"⟩ : MethodName)) hown (mvT hZ (hw _ (List.mem_of_getElem? (i := 124) rfl))) (mvT hZ (hw _ (List.mem_of_getElem? (i := 125) rfl))) (notFace_of_selects (args := #[]) (mvT hZ (hw _ (List.mem_of_getElem? (i := 127) rfl)))) (mvT hZ (hw _ (List.mem_of_getElem? (i := 127) rfl))) (mvT hZ (hw _ (List.mem_of_getElem? (i := 126) rfl))) (by decide) (backOf (W := 0) (str_equals l Z a0 hw [] u1 u2 v1 v2 tx.length tx.length (tf tx) (tf tx) cs hB n0 Zb S0 hcs Ob St1 St2 hne) hZ (hw _ (List.mem_of_getElem? (i := 128) rfl)) (hw _ (List.mem_of_getElem? (i := 24) rfl)) (by decide) (by decide)) q165a q165c (g := (mkF m 251 #[.val (.int p1), .val (.int p2), .val (.int p3), .val (.int M), .val (.int q1), .val (.int q2), .val (.int fol), .val (.ref w), .val (.ref w), .val (.ref u1), .val (.ref u2), .unset, .unset] [(.ref u2), (.ref u1)])) rfl (by rw [hml]; rfl) (Steps.refl _) (argsL := [(.ref u2)]) (rest := []) (lenOf pd_16 rfl) rfl (by show 2 * 0 + _ ≤ _; exact Nat.le_of_eq rfl) (hb hby at_251) (fun _ _ => ⟨rfl, eb, (by decide : 7 + 0 ≤ _), (by decide : 314 + 0 ≤ _)⟩)
    dsimp only [Pt.U, Pt.locs, Pt.cells, Pt.slots] at X165 l165 y165 z165 st165 hQ165
    subst l165 y165 z165
    obtain ⟨rfl, N165q, e165⟩ := hQ165
    have N165 := Fr.app Nb N165q
    refine EndsW.st st165 ?_
    refine EndsW.of (F' := T165.setTop (mkF m 261 #[.val (.int p1), .val (.int p2), .val (.int p3), .val (.int M), .val (.int q1), .val (.int q2), .val (.int fol), .val (.ref w), .val (.ref w), .val (.ref u1), .val (.ref u2), .unset, .unset] [(.ref u1)])) (fun _ kt => ?_) ?_
    · show Steps p.tables e below (T165.setTop (mkF m 254 #[.val (.int p1), .val (.int p2), .val (.int p3), .val (.int M), .val (.int q1), .val (.int q2), .val (.int fol), .val (.ref w), .val (.ref w), .val (.ref u1), .val (.ref u2), .unset, .unset] [(.int (if (tx.length = tx.length ∧ ∀ i, i < tx.length → tf tx i = tf tx i) then (1 : Int32) else (0 : Int32)))])) _
      refine XS.ifYes X165.here hx rfl (pc0 := 254) (pc' := 259) rfl (hb hby at_254) rfl ((if0 _ _).trans (feq (by rw [if_pos ⟨rfl, fun _ _ => rfl⟩]; decide)).2) (by decide) (by decide) ?_
      show Steps p.tables e below (T165.setTop (mkF m 259 #[.val (.int p1), .val (.int p2), .val (.int p3), .val (.int M), .val (.int q1), .val (.int q2), .val (.int fol), .val (.ref w), .val (.ref w), .val (.ref u1), .val (.ref u2), .unset, .unset] [])) _
      refine XS.aload X165.here hx rfl (hb hby at_259) rfl rfl ?_
      exact kt
    obtain ⟨cq166, kq166, q166a, q166b, q166c⟩ := isOf hZ e165 St1.1
    obtain ⟨_, _, ⟨T166, L166, k166, n166⟩, -, X166, ⟨Lc166, hQ166, l166, y166, z166⟩, st166⟩ := X165.virtualBack hx (y := (⟨"java/lang/String", "length", "()I"⟩ : MethodName)) (z := (⟨"java/lang/String", "length", "()I"⟩ : MethodName)) hown (mvT hZ (hw _ (List.mem_of_getElem? (i := 134) rfl))) (mvT hZ (hw _ (List.mem_of_getElem? (i := 135) rfl))) (notFace_of_selects (args := #[]) (mvT hZ (hw _ (List.mem_of_getElem? (i := 137) rfl)))) (mvT hZ (hw _ (List.mem_of_getElem? (i := 137) rfl))) (mvT hZ (hw _ (List.mem_of_getElem? (i := 136) rfl))) (by decide) (backOf (W := 0) (str_length l Z a0 hw [] u1 v1 tx.length (tf tx) cs hB n0 Zb S0 hcs Ob St1) hZ (hw _ (List.mem_of_getElem? (i := 138) rfl)) (hw _ (List.mem_of_getElem? (i := 24) rfl)) (by decide) (by decide)) q166a q166c (g := (mkF m 261 #[.val (.int p1), .val (.int p2), .val (.int p3), .val (.int M), .val (.int q1), .val (.int q2), .val (.int fol), .val (.ref w), .val (.ref w), .val (.ref u1), .val (.ref u2), .unset, .unset] [(.ref u1)])) rfl (by rw [hml]; rfl) (Steps.refl _) (argsL := []) (rest := []) (lenOf pd_11 rfl) rfl (by show 2 * 0 + _ ≤ _; exact Nat.le_of_eq rfl) (hb hby at_261) (fun _ _ => ⟨rfl, e165, (by decide : 7 + 0 ≤ _), (by decide : 314 + 0 ≤ _)⟩)
    dsimp only [Pt.U, Pt.locs, Pt.cells, Pt.slots] at X166 l166 y166 z166 st166 hQ166
    subst l166 y166 z166
    obtain ⟨rfl, N166q, e166⟩ := hQ166
    have N166 := Fr.app N165 N166q
    refine EndsW.st st166 ?_
    refine EndsW.of (F' := T166.setTop (mkF m 266 #[.val (.int p1), .val (.int p2), .val (.int p3), .val (.int M), .val (.int q1), .val (.int q2), .val (.int fol), .val (.ref w), .val (.ref w), .val (.ref u1), .val (.ref u2), .val (.int (Int32.ofNat tx.length)), .unset] [])) (fun _ kt => ?_) ?_
    · show Steps p.tables e below (T166.setTop (mkF m 264 #[.val (.int p1), .val (.int p2), .val (.int p3), .val (.int M), .val (.int q1), .val (.int q2), .val (.int fol), .val (.ref w), .val (.ref w), .val (.ref u1), .val (.ref u2), .unset, .unset] [(.int (Int32.ofNat tx.length))])) _
      refine XS.istore X166.here hx rfl (hb hby at_264) rfl (l' := #[.val (.int p1), .val (.int p2), .val (.int p3), .val (.int M), .val (.int q1), .val (.int q2), .val (.int fol), .val (.ref w), .val (.ref w), .val (.ref u1), .val (.ref u2), .val (.int (Int32.ofNat tx.length)), .unset]) rfl ?_
      exact kt
    rcases hfol with rfl | rfl | rfl | rfl
    · have gk : hB.size ≤ hB.size := Nat.le_refl _
      refine EndsW.of (F' := T166.setTop (mkF m 312 #[.val (.int p1), .val (.int p2), .val (.int p3), .val (.int M), .val (.int q1), .val (.int q2), .val (.int (0 : Int32)), .val (.ref w), .val (.ref w), .val (.ref u1), .val (.ref u2), .val (.int (Int32.ofNat tx.length)), .unset] [(.ref w)])) (fun _ kt => ?_) ?_
      · show Steps p.tables e below (T166.setTop (mkF m 266 #[.val (.int p1), .val (.int p2), .val (.int p3), .val (.int M), .val (.int q1), .val (.int q2), .val (.int (0 : Int32)), .val (.ref w), .val (.ref w), .val (.ref u1), .val (.ref u2), .val (.int (Int32.ofNat tx.length)), .unset] [])) _
        refine XS.iload X166.here hx rfl (hb hby at_266) rfl ?_
        show Steps p.tables e below (T166.setTop (mkF m 268 #[.val (.int p1), .val (.int p2), .val (.int p3), .val (.int M), .val (.int q1), .val (.int q2), .val (.int (0 : Int32)), .val (.ref w), .val (.ref w), .val (.ref u1), .val (.ref u2), .val (.int (Int32.ofNat tx.length)), .unset] [(.int (0 : Int32))])) _
        refine XS.iconst X166.here hx rfl (hb hby at_268) ?_
        show Steps p.tables e below (T166.setTop (mkF m 269 #[.val (.int p1), .val (.int p2), .val (.int p3), .val (.int M), .val (.int q1), .val (.int q2), .val (.int (0 : Int32)), .val (.ref w), .val (.ref w), .val (.ref u1), .val (.ref u2), .val (.int (Int32.ofNat tx.length)), .unset] [(.int (1 : Int32)), (.int (0 : Int32))])) _
        refine XS.icmpYes X166.here hx rfl (pc0 := 269) (pc' := 283) rfl (hb hby at_269) rfl (feq (by decide)).2 (by decide) (by decide) ?_
        show Steps p.tables e below (T166.setTop (mkF m 283 #[.val (.int p1), .val (.int p2), .val (.int p3), .val (.int M), .val (.int q1), .val (.int q2), .val (.int (0 : Int32)), .val (.ref w), .val (.ref w), .val (.ref u1), .val (.ref u2), .val (.int (Int32.ofNat tx.length)), .unset] [])) _
        refine XS.iload X166.here hx rfl (hb hby at_283) rfl ?_
        show Steps p.tables e below (T166.setTop (mkF m 285 #[.val (.int p1), .val (.int p2), .val (.int p3), .val (.int M), .val (.int q1), .val (.int q2), .val (.int (0 : Int32)), .val (.ref w), .val (.ref w), .val (.ref u1), .val (.ref u2), .val (.int (Int32.ofNat tx.length)), .unset] [(.int (0 : Int32))])) _
        refine XS.iconst X166.here hx rfl (hb hby at_285) ?_
        show Steps p.tables e below (T166.setTop (mkF m 286 #[.val (.int p1), .val (.int p2), .val (.int p3), .val (.int M), .val (.int q1), .val (.int q2), .val (.int (0 : Int32)), .val (.ref w), .val (.ref w), .val (.ref u1), .val (.ref u2), .val (.int (Int32.ofNat tx.length)), .unset] [(.int (2 : Int32)), (.int (0 : Int32))])) _
        refine XS.icmpYes X166.here hx rfl (pc0 := 286) (pc' := 298) rfl (hb hby at_286) rfl (feq (by decide)).2 (by decide) (by decide) ?_
        show Steps p.tables e below (T166.setTop (mkF m 298 #[.val (.int p1), .val (.int p2), .val (.int p3), .val (.int M), .val (.int q1), .val (.int q2), .val (.int (0 : Int32)), .val (.ref w), .val (.ref w), .val (.ref u1), .val (.ref u2), .val (.int (Int32.ofNat tx.length)), .unset] [])) _
        refine XS.iload X166.here hx rfl (hb hby at_298) rfl ?_
        show Steps p.tables e below (T166.setTop (mkF m 300 #[.val (.int p1), .val (.int p2), .val (.int p3), .val (.int M), .val (.int q1), .val (.int q2), .val (.int (0 : Int32)), .val (.ref w), .val (.ref w), .val (.ref u1), .val (.ref u2), .val (.int (Int32.ofNat tx.length)), .unset] [(.int (0 : Int32))])) _
        refine XS.iconst X166.here hx rfl (hb hby at_300) ?_
        show Steps p.tables e below (T166.setTop (mkF m 301 #[.val (.int p1), .val (.int p2), .val (.int p3), .val (.int M), .val (.int q1), .val (.int q2), .val (.int (0 : Int32)), .val (.ref w), .val (.ref w), .val (.ref u1), .val (.ref u2), .val (.int (Int32.ofNat tx.length)), .unset] [(.int (3 : Int32)), (.int (0 : Int32))])) _
        refine XS.icmpYes X166.here hx rfl (pc0 := 301) (pc' := 310) rfl (hb hby at_301) rfl (feq (by decide)).2 (by decide) (by decide) ?_
        show Steps p.tables e below (T166.setTop (mkF m 310 #[.val (.int p1), .val (.int p2), .val (.int p3), .val (.int M), .val (.int q1), .val (.int q2), .val (.int (0 : Int32)), .val (.ref w), .val (.ref w), .val (.ref u1), .val (.ref u2), .val (.int (Int32.ofNat tx.length)), .unset] [])) _
        refine XS.aload X166.here hx rfl (hb hby at_310) rfl rfl ?_
        exact kt
      obtain ⟨cq167, kq167, q167a, q167b, q167c⟩ := isOf hZ e166 Jb.1
      obtain ⟨_, _, ⟨T167, L167, k167, n167⟩, -, X167, ⟨Lc167, hQ167, l167, y167, z167⟩, st167⟩ := X166.virtualBack hx (y := (⟨"com/example/tenantd/tenantd/server/JsonWriter", "toString", "()Ljava/lang/String;"⟩ : MethodName)) (z := (⟨"com/example/tenantd/tenantd/server/JsonWriter", "toString", "()Ljava/lang/String;"⟩ : MethodName)) hown (mvT hZ (hw _ (List.mem_of_getElem? (i := 65) rfl))) (mvT hZ (hw _ (List.mem_of_getElem? (i := 66) rfl))) (notFace_of_selects (args := #[]) (mvT hZ (hw _ (List.mem_of_getElem? (i := 68) rfl)))) (mvT hZ (hw _ (List.mem_of_getElem? (i := 68) rfl))) (mvT hZ (hw _ (List.mem_of_getElem? (i := 67) rfl))) (by decide) (backOf (W := 0) (jw_str l Z a0 hw [] w a b tx cs (1 : Int32) hB n0 Zb S0 hcs Ob Jb (by omega)) hZ (hw _ (List.mem_of_getElem? (i := 69) rfl)) (hw _ (List.mem_of_getElem? (i := 3) rfl)) (by decide) (by decide)) q167a q167c (g := (mkF m 312 #[.val (.int p1), .val (.int p2), .val (.int p3), .val (.int M), .val (.int q1), .val (.int q2), .val (.int (0 : Int32)), .val (.ref w), .val (.ref w), .val (.ref u1), .val (.ref u2), .val (.int (Int32.ofNat tx.length)), .unset] [(.ref w)])) rfl (by rw [hml]; rfl) (Steps.refl _) (argsL := []) (rest := []) (lenOf pd_7 rfl) rfl (by show 2 * 0 + _ ≤ _; exact Nat.le_of_eq rfl) (hb hby at_312) (fun _ _ => ⟨rfl, e166, (by decide : 7 + 2 ≤ _), (by decide : 314 + 20 ≤ _)⟩)
      dsimp only [Pt.U, Pt.locs, Pt.cells, Pt.slots] at X167 l167 y167 z167 st167 hQ167
      subst l167 y167 z167
      obtain ⟨d167, rfl, N167q, K167, St167, gd167⟩ := hQ167
      have N167 := Fr.app N166 N167q
      refine EndsW.st st167 ?_
      have Zd : n0 ≤ T167.heap.size := Nat.le_trans Zb K167.1
      have Od := Ob.keep K167 all0
      have hkz : k1 ≤ T167.heap.size := Nat.le_trans hk1 (Nat.le_trans gk K167.1)
      refine EndsW.of (F' := T167.setTop (mkF m 324 #[.val (.int p1), .val (.int p2), .val (.int p3), .val (.int M), .val (.int q1), .val (.int q2), .val (.int (0 : Int32)), .val (.ref w), .val (.ref w), .val (.ref u1), .val (.ref u2), .val (.int (Int32.ofNat tx.length)), .val (.ref hB.size)] [(.ref hB.size)])) (fun _ kt => ?_) ?_
      · show Steps p.tables e below (T167.setTop (mkF m 315 #[.val (.int p1), .val (.int p2), .val (.int p3), .val (.int M), .val (.int q1), .val (.int q2), .val (.int (0 : Int32)), .val (.ref w), .val (.ref w), .val (.ref u1), .val (.ref u2), .val (.int (Int32.ofNat tx.length)), .unset] [(.ref hB.size)])) _
        refine XS.astore X167.here hx rfl (hb hby at_315) rfl rfl (l' := #[.val (.int p1), .val (.int p2), .val (.int p3), .val (.int M), .val (.int q1), .val (.int q2), .val (.int (0 : Int32)), .val (.ref w), .val (.ref w), .val (.ref u1), .val (.ref u2), .val (.int (Int32.ofNat tx.length)), .val (.ref hB.size)]) rfl ?_
        show Steps p.tables e below (T167.setTop (mkF m 317 #[.val (.int p1), .val (.int p2), .val (.int p3), .val (.int M), .val (.int q1), .val (.int q2), .val (.int (0 : Int32)), .val (.ref w), .val (.ref w), .val (.ref u1), .val (.ref u2), .val (.int (Int32.ofNat tx.length)), .val (.ref hB.size)] [])) _
        refine XS.iload X167.here hx rfl (hb hby at_317) rfl ?_
        show Steps p.tables e below (T167.setTop (mkF m 319 #[.val (.int p1), .val (.int p2), .val (.int p3), .val (.int M), .val (.int q1), .val (.int q2), .val (.int (0 : Int32)), .val (.ref w), .val (.ref w), .val (.ref u1), .val (.ref u2), .val (.int (Int32.ofNat tx.length)), .val (.ref hB.size)] [(.int (0 : Int32))])) _
        refine XS.ifNo X167.here hx rfl (hb hby at_319) rfl ((if0 _ _).trans (teq rfl).2) ?_
        show Steps p.tables e below (T167.setTop (mkF m 322 #[.val (.int p1), .val (.int p2), .val (.int p3), .val (.int M), .val (.int q1), .val (.int q2), .val (.int (0 : Int32)), .val (.ref w), .val (.ref w), .val (.ref u1), .val (.ref u2), .val (.int (Int32.ofNat tx.length)), .val (.ref hB.size)] [])) _
        refine XS.aload X167.here hx rfl (hb hby at_322) rfl rfl ?_
        exact kt
      obtain ⟨cq168, kq168, q168a, q168b, q168c⟩ := isOf hZ rfl St167.1
      obtain ⟨_, _, ⟨T168, L168, k168, n168⟩, -, X168, ⟨Lc168, hQ168, l168, y168, z168⟩, st168⟩ := X167.virtualBack hx (y := (⟨"java/lang/String", "length", "()I"⟩ : MethodName)) (z := (⟨"java/lang/String", "length", "()I"⟩ : MethodName)) hown (mvT hZ (hw _ (List.mem_of_getElem? (i := 134) rfl))) (mvT hZ (hw _ (List.mem_of_getElem? (i := 135) rfl))) (notFace_of_selects (args := #[]) (mvT hZ (hw _ (List.mem_of_getElem? (i := 137) rfl)))) (mvT hZ (hw _ (List.mem_of_getElem? (i := 137) rfl))) (mvT hZ (hw _ (List.mem_of_getElem? (i := 136) rfl))) (by decide) (backOf (W := 0) (str_length l Z a0 hw [] hB.size d167 tx.length (tf tx) cs T167.heap n0 Zd S0 hcs Od St167) hZ (hw _ (List.mem_of_getElem? (i := 138) rfl)) (hw _ (List.mem_of_getElem? (i := 24) rfl)) (by decide) (by decide)) q168a q168c (g := (mkF m 324 #[.val (.int p1), .val (.int p2), .val (.int p3), .val (.int M), .val (.int q1), .val (.int q2), .val (.int (0 : Int32)), .val (.ref w), .val (.ref w), .val (.ref u1), .val (.ref u2), .val (.int (Int32.ofNat tx.length)), .val (.ref hB.size)] [(.ref hB.size)])) rfl (by rw [hml]; rfl) (Steps.refl _) (argsL := []) (rest := []) (lenOf pd_11 rfl) rfl (by show 2 * 0 + _ ≤ _; exact Nat.le_of_eq rfl) (hb hby at_324) (fun _ _ => ⟨rfl, rfl, (by decide : 9 + 0 ≤ _), (by decide : 334 + 0 ≤ _)⟩)
      dsimp only [Pt.U, Pt.locs, Pt.cells, Pt.slots] at X168 l168 y168 z168 st168 hQ168
      subst l168 y168 z168
      obtain ⟨rfl, N168q, e168⟩ := hQ168
      have N168 := Fr.app N167 N168q
      refine EndsW.st st168 ?_
      have hl2 : List.length tx = tx.length + 0 := by simp
      refine EndsW.of (F' := T168.setTop (mkF m 337 #[.val (.int p1), .val (.int p2), .val (.int p3), .val (.int M), .val (.int q1), .val (.int q2), .val (.int (0 : Int32)), .val (.ref w), .val (.ref w), .val (.ref u1), .val (.ref u2), .val (.int (Int32.ofNat tx.length)), .val (.ref hB.size)] [(.int (1 : Int32))])) (fun _ kt => ?_) ?_
      · show Steps p.tables e below (T168.setTop (mkF m 327 #[.val (.int p1), .val (.int p2), .val (.int p3), .val (.int M), .val (.int q1), .val (.int q2), .val (.int (0 : Int32)), .val (.ref w), .val (.ref w), .val (.ref u1), .val (.ref u2), .val (.int (Int32.ofNat tx.length)), .val (.ref hB.size)] [(.int (Int32.ofNat tx.length))])) _
        refine XS.iload X168.here hx rfl (hb hby at_327) rfl ?_
        show Steps p.tables e below (T168.setTop (mkF m 329 #[.val (.int p1), .val (.int p2), .val (.int p3), .val (.int M), .val (.int q1), .val (.int q2), .val (.int (0 : Int32)), .val (.ref w), .val (.ref w), .val (.ref u1), .val (.ref u2), .val (.int (Int32.ofNat tx.length)), .val (.ref hB.size)] [(.int (Int32.ofNat tx.length)), (.int (Int32.ofNat tx.length))])) _
        refine XS.icmpNo X168.here hx rfl (hb hby at_329) rfl (teq rfl).2 ?_
        show Steps p.tables e below (T168.setTop (mkF m 332 #[.val (.int p1), .val (.int p2), .val (.int p3), .val (.int M), .val (.int q1), .val (.int q2), .val (.int (0 : Int32)), .val (.ref w), .val (.ref w), .val (.ref u1), .val (.ref u2), .val (.int (Int32.ofNat tx.length)), .val (.ref hB.size)] [])) _
        refine XS.iconst X168.here hx rfl (hb hby at_332) ?_
        show Steps p.tables e below (T168.setTop (mkF m 333 #[.val (.int p1), .val (.int p2), .val (.int p3), .val (.int M), .val (.int q1), .val (.int q2), .val (.int (0 : Int32)), .val (.ref w), .val (.ref w), .val (.ref u1), .val (.ref u2), .val (.int (Int32.ofNat tx.length)), .val (.ref hB.size)] [(.int (1 : Int32))])) _
        refine XS.goto X168.here hx rfl (pc0 := 333) (pc' := 337) rfl (hb hby at_333) (by decide) (by decide) ?_
        exact kt
      obtain ⟨fs, hr, hrun, hended, hEW⟩ := X168.leaveW hS (by rw [e168]; exact hkz) (v := some (.int (1 : Int32))) (fun h => by rw [Bd.returns] at h; cases h)
      exact ⟨_, _, retN X168 hx (t := .boolean) Bd.returns (by simp) (hb hby at_337) hr, hrun, hended, _, _, rfl, ⟨rfl, N168⟩, hEW.1, hEW.2.1, hEW.2.2.1, hEW.2.2.2.mono (by decide) (by decide)⟩
    · rcases hq2 with rfl | rfl
      · refine EndsW.of (F' := T166.setTop (mkF m 276 #[.val (.int p1), .val (.int p2), .val (.int p3), .val (.int M), .val (.int q1), .val (.int (0 : Int32)), .val (.int (1 : Int32)), .val (.ref w), .val (.ref w), .val (.ref u1), .val (.ref u2), .val (.int (Int32.ofNat tx.length)), .unset] [(.int (0 : Int32)), (.ref w)])) (fun _ kt => ?_) ?_
        · show Steps p.tables e below (T166.setTop (mkF m 266 #[.val (.int p1), .val (.int p2), .val (.int p3), .val (.int M), .val (.int q1), .val (.int (0 : Int32)), .val (.int (1 : Int32)), .val (.ref w), .val (.ref w), .val (.ref u1), .val (.ref u2), .val (.int (Int32.ofNat tx.length)), .unset] [])) _
          refine XS.iload X166.here hx rfl (hb hby at_266) rfl ?_
          show Steps p.tables e below (T166.setTop (mkF m 268 #[.val (.int p1), .val (.int p2), .val (.int p3), .val (.int M), .val (.int q1), .val (.int (0 : Int32)), .val (.int (1 : Int32)), .val (.ref w), .val (.ref w), .val (.ref u1), .val (.ref u2), .val (.int (Int32.ofNat tx.length)), .unset] [(.int (1 : Int32))])) _
          refine XS.iconst X166.here hx rfl (hb hby at_268) ?_
          show Steps p.tables e below (T166.setTop (mkF m 269 #[.val (.int p1), .val (.int p2), .val (.int p3), .val (.int M), .val (.int q1), .val (.int (0 : Int32)), .val (.int (1 : Int32)), .val (.ref w), .val (.ref w), .val (.ref u1), .val (.ref u2), .val (.int (Int32.ofNat tx.length)), .unset] [(.int (1 : Int32)), (.int (1 : Int32))])) _
          refine XS.icmpNo X166.here hx rfl (hb hby at_269) rfl (teq rfl).2 ?_
          show Steps p.tables e below (T166.setTop (mkF m 272 #[.val (.int p1), .val (.int p2), .val (.int p3), .val (.int M), .val (.int q1), .val (.int (0 : Int32)), .val (.int (1 : Int32)), .val (.ref w), .val (.ref w), .val (.ref u1), .val (.ref u2), .val (.int (Int32.ofNat tx.length)), .unset] [])) _
          refine XS.aload X166.here hx rfl (hb hby at_272) rfl rfl ?_
          show Steps p.tables e below (T166.setTop (mkF m 274 #[.val (.int p1), .val (.int p2), .val (.int p3), .val (.int M), .val (.int q1), .val (.int (0 : Int32)), .val (.int (1 : Int32)), .val (.ref w), .val (.ref w), .val (.ref u1), .val (.ref u2), .val (.int (Int32.ofNat tx.length)), .unset] [(.ref w)])) _
          refine XS.iload X166.here hx rfl (hb hby at_274) rfl ?_
          exact kt
        obtain ⟨cq169, kq169, q169a, q169b, q169c⟩ := isOf hZ e166 Jb.1
        obtain ⟨_, _, ⟨T169, L169, k169, n169⟩, -, X169, ⟨Lc169, hQ169, l169, y169, z169⟩, st169⟩ := X166.virtualBack hx (y := (⟨"com/example/tenantd/tenantd/server/JsonWriter", "value", "(Z)Lcom/example/tenantd/tenantd/server/JsonWriter;"⟩ : MethodName)) (z := (⟨"com/example/tenantd/tenantd/server/JsonWriter", "value", "(Z)Lcom/example/tenantd/tenantd/server/JsonWriter;"⟩ : MethodName)) hown (mvT hZ (hw _ (List.mem_of_getElem? (i := 179) rfl))) (mvT hZ (hw _ (List.mem_of_getElem? (i := 180) rfl))) (notFace_of_selects (args := #[]) (mvT hZ (hw _ (List.mem_of_getElem? (i := 182) rfl)))) (mvT hZ (hw _ (List.mem_of_getElem? (i := 182) rfl))) (mvT hZ (hw _ (List.mem_of_getElem? (i := 181) rfl))) (by decide) (backOf (W := 0) (jw_val10 l Z a0 hw [] w a b tx cs hB n0 Zb S0 hcs Ob Jb (by omega) g_w g_a g_b) hZ (hw _ (List.mem_of_getElem? (i := 183) rfl)) (hw _ (List.mem_of_getElem? (i := 3) rfl)) (by decide) (by decide)) q169a q169c (g := (mkF m 276 #[.val (.int p1), .val (.int p2), .val (.int p3), .val (.int M), .val (.int q1), .val (.int (0 : Int32)), .val (.int (1 : Int32)), .val (.ref w), .val (.ref w), .val (.ref u1), .val (.ref u2), .val (.int (Int32.ofNat tx.length)), .unset] [(.int (0 : Int32)), (.ref w)])) rfl (by rw [hml]; rfl) (Steps.refl _) (argsL := [(.int (0 : Int32))]) (rest := []) (lenOf pd_23 rfl) rfl (by show 2 * 0 + _ ≤ _; exact Nat.le_of_eq rfl) (hb hby at_276) (fun _ _ => ⟨rfl, e166, (by decide : 7 + 0 ≤ _), (by decide : 314 + 0 ≤ _)⟩)
        dsimp only [Pt.U, Pt.locs, Pt.cells, Pt.slots] at X169 l169 y169 z169 st169 hQ169
        subst l169 y169 z169
        obtain ⟨rfl, N169q, K169, J169⟩ := hQ169
        have N169 := Fr.app N166 N169q
        refine EndsW.st st169 ?_
        have Zc : n0 ≤ T169.heap.size := Nat.le_trans Zb K169.1
        have Oc := Ob.keep K169 (allS g_w (allS g_a (allS g_b all0)))
        have gk : hB.size ≤ T169.heap.size := K169.1
        refine EndsW.of (F' := T169.setTop (mkF m 312 #[.val (.int p1), .val (.int p2), .val (.int p3), .val (.int M), .val (.int q1), .val (.int (0 : Int32)), .val (.int (1 : Int32)), .val (.ref w), .val (.ref w), .val (.ref u1), .val (.ref u2), .val (.int (Int32.ofNat tx.length)), .unset] [(.ref w)])) (fun _ kt => ?_) ?_
        · show Steps p.tables e below (T169.setTop (mkF m 279 #[.val (.int p1), .val (.int p2), .val (.int p3), .val (.int M), .val (.int q1), .val (.int (0 : Int32)), .val (.int (1 : Int32)), .val (.ref w), .val (.ref w), .val (.ref u1), .val (.ref u2), .val (.int (Int32.ofNat tx.length)), .unset] [(.ref w)])) _
          refine XS.pop X169.here hx rfl (hb hby at_279) rfl rfl ?_
          show Steps p.tables e below (T169.setTop (mkF m 280 #[.val (.int p1), .val (.int p2), .val (.int p3), .val (.int M), .val (.int q1), .val (.int (0 : Int32)), .val (.int (1 : Int32)), .val (.ref w), .val (.ref w), .val (.ref u1), .val (.ref u2), .val (.int (Int32.ofNat tx.length)), .unset] [])) _
          refine XS.goto X169.here hx rfl (pc0 := 280) (pc' := 310) rfl (hb hby at_280) (by decide) (by decide) ?_
          show Steps p.tables e below (T169.setTop (mkF m 310 #[.val (.int p1), .val (.int p2), .val (.int p3), .val (.int M), .val (.int q1), .val (.int (0 : Int32)), .val (.int (1 : Int32)), .val (.ref w), .val (.ref w), .val (.ref u1), .val (.ref u2), .val (.int (Int32.ofNat tx.length)), .unset] [])) _
          refine XS.aload X169.here hx rfl (hb hby at_310) rfl rfl ?_
          exact kt
        obtain ⟨cq170, kq170, q170a, q170b, q170c⟩ := isOf hZ rfl J169.1
        obtain ⟨_, _, ⟨T170, L170, k170, n170⟩, -, X170, ⟨Lc170, hQ170, l170, y170, z170⟩, st170⟩ := X169.virtualBack hx (y := (⟨"com/example/tenantd/tenantd/server/JsonWriter", "toString", "()Ljava/lang/String;"⟩ : MethodName)) (z := (⟨"com/example/tenantd/tenantd/server/JsonWriter", "toString", "()Ljava/lang/String;"⟩ : MethodName)) hown (mvT hZ (hw _ (List.mem_of_getElem? (i := 65) rfl))) (mvT hZ (hw _ (List.mem_of_getElem? (i := 66) rfl))) (notFace_of_selects (args := #[]) (mvT hZ (hw _ (List.mem_of_getElem? (i := 68) rfl)))) (mvT hZ (hw _ (List.mem_of_getElem? (i := 68) rfl))) (mvT hZ (hw _ (List.mem_of_getElem? (i := 67) rfl))) (by decide) (backOf (W := 0) (jw_str l Z a0 hw [] w a b (tx ++ [44] ++ [102] ++ [97] ++ [108] ++ [115] ++ [101]) cs (1 : Int32) T169.heap n0 Zc S0 hcs Oc J169 (by simp only [List.length_append, List.length_cons, List.length_nil]; omega)) hZ (hw _ (List.mem_of_getElem? (i := 69) rfl)) (hw _ (List.mem_of_getElem? (i := 3) rfl)) (by decide) (by decide)) q170a q170c (g := (mkF m 312 #[.val (.int p1), .val (.int p2), .val (.int p3), .val (.int M), .val (.int q1), .val (.int (0 : Int32)), .val (.int (1 : Int32)), .val (.ref w), .val (.ref w), .val (.ref u1), .val (.ref u2), .val (.int (Int32.ofNat tx.length)), .unset] [(.ref w)])) rfl (by rw [hml]; rfl) (Steps.refl _) (argsL := []) (rest := []) (lenOf pd_7 rfl) rfl (by show 2 * 0 + _ ≤ _; exact Nat.le_of_eq rfl) (hb hby at_312) (fun _ _ => ⟨rfl, rfl, (by decide : 7 + 2 ≤ _), (by decide : 314 + 20 ≤ _)⟩)
        dsimp only [Pt.U, Pt.locs, Pt.cells, Pt.slots] at X170 l170 y170 z170 st170 hQ170
        subst l170 y170 z170
        obtain ⟨d170, rfl, N170q, K170, St170, gd170⟩ := hQ170
        have N170 := Fr.app N169 N170q
        refine EndsW.st st170 ?_
        have Zd : n0 ≤ T170.heap.size := Nat.le_trans Zc K170.1
        have Od := Oc.keep K170 all0
        have hkz : k1 ≤ T170.heap.size := Nat.le_trans hk1 (Nat.le_trans gk K170.1)
        refine EndsW.of (F' := T170.setTop (mkF m 437 #[.val (.int p1), .val (.int p2), .val (.int p3), .val (.int M), .val (.int q1), .val (.int (0 : Int32)), .val (.int (1 : Int32)), .val (.ref w), .val (.ref w), .val (.ref u1), .val (.ref u2), .val (.int (Int32.ofNat tx.length)), .val (.ref T169.heap.size)] [(.ref T169.heap.size)])) (fun _ kt => ?_) ?_
        · show Steps p.tables e below (T170.setTop (mkF m 315 #[.val (.int p1), .val (.int p2), .val (.int p3), .val (.int M), .val (.int q1), .val (.int (0 : Int32)), .val (.int (1 : Int32)), .val (.ref w), .val (.ref w), .val (.ref u1), .val (.ref u2), .val (.int (Int32.ofNat tx.length)), .unset] [(.ref T169.heap.size)])) _
          refine XS.astore X170.here hx rfl (hb hby at_315) rfl rfl (l' := #[.val (.int p1), .val (.int p2), .val (.int p3), .val (.int M), .val (.int q1), .val (.int (0 : Int32)), .val (.int (1 : Int32)), .val (.ref w), .val (.ref w), .val (.ref u1), .val (.ref u2), .val (.int (Int32.ofNat tx.length)), .val (.ref T169.heap.size)]) rfl ?_
          show Steps p.tables e below (T170.setTop (mkF m 317 #[.val (.int p1), .val (.int p2), .val (.int p3), .val (.int M), .val (.int q1), .val (.int (0 : Int32)), .val (.int (1 : Int32)), .val (.ref w), .val (.ref w), .val (.ref u1), .val (.ref u2), .val (.int (Int32.ofNat tx.length)), .val (.ref T169.heap.size)] [])) _
          refine XS.iload X170.here hx rfl (hb hby at_317) rfl ?_
          show Steps p.tables e below (T170.setTop (mkF m 319 #[.val (.int p1), .val (.int p2), .val (.int p3), .val (.int M), .val (.int q1), .val (.int (0 : Int32)), .val (.int (1 : Int32)), .val (.ref w), .val (.ref w), .val (.ref u1), .val (.ref u2), .val (.int (Int32.ofNat tx.length)), .val (.ref T169.heap.size)] [(.int (1 : Int32))])) _
          refine XS.ifYes X170.here hx rfl (pc0 := 319) (pc' := 338) rfl (hb hby at_319) rfl ((if0 _ _).trans (feq (by decide)).2) (by decide) (by decide) ?_
          show Steps p.tables e below (T170.setTop (mkF m 338 #[.val (.int p1), .val (.int p2), .val (.int p3), .val (.int M), .val (.int q1), .val (.int (0 : Int32)), .val (.int (1 : Int32)), .val (.ref w), .val (.ref w), .val (.ref u1), .val (.ref u2), .val (.int (Int32.ofNat tx.length)), .val (.ref T169.heap.size)] [])) _
          refine XS.iload X170.here hx rfl (hb hby at_338) rfl ?_
          show Steps p.tables e below (T170.setTop (mkF m 340 #[.val (.int p1), .val (.int p2), .val (.int p3), .val (.int M), .val (.int q1), .val (.int (0 : Int32)), .val (.int (1 : Int32)), .val (.ref w), .val (.ref w), .val (.ref u1), .val (.ref u2), .val (.int (Int32.ofNat tx.length)), .val (.ref T169.heap.size)] [(.int (1 : Int32))])) _
          refine XS.iconst X170.here hx rfl (hb hby at_340) ?_
          show Steps p.tables e below (T170.setTop (mkF m 341 #[.val (.int p1), .val (.int p2), .val (.int p3), .val (.int M), .val (.int q1), .val (.int (0 : Int32)), .val (.int (1 : Int32)), .val (.ref w), .val (.ref w), .val (.ref u1), .val (.ref u2), .val (.int (Int32.ofNat tx.length)), .val (.ref T169.heap.size)] [(.int (1 : Int32)), (.int (1 : Int32))])) _
          refine XS.icmpNo X170.here hx rfl (hb hby at_341) rfl (teq rfl).2 ?_
          show Steps p.tables e below (T170.setTop (mkF m 344 #[.val (.int p1), .val (.int p2), .val (.int p3), .val (.int M), .val (.int q1), .val (.int (0 : Int32)), .val (.int (1 : Int32)), .val (.ref w), .val (.ref w), .val (.ref u1), .val (.ref u2), .val (.int (Int32.ofNat tx.length)), .val (.ref T169.heap.size)] [])) _
          refine XS.iload X170.here hx rfl (hb hby at_344) rfl ?_
          show Steps p.tables e below (T170.setTop (mkF m 346 #[.val (.int p1), .val (.int p2), .val (.int p3), .val (.int M), .val (.int q1), .val (.int (0 : Int32)), .val (.int (1 : Int32)), .val (.ref w), .val (.ref w), .val (.ref u1), .val (.ref u2), .val (.int (Int32.ofNat tx.length)), .val (.ref T169.heap.size)] [(.int (0 : Int32))])) _
          refine XS.ifYes X170.here hx rfl (pc0 := 346) (pc' := 435) rfl (hb hby at_346) rfl ((if0 _ _).trans (teq rfl).1) (by decide) (by decide) ?_
          show Steps p.tables e below (T170.setTop (mkF m 435 #[.val (.int p1), .val (.int p2), .val (.int p3), .val (.int M), .val (.int q1), .val (.int (0 : Int32)), .val (.int (1 : Int32)), .val (.ref w), .val (.ref w), .val (.ref u1), .val (.ref u2), .val (.int (Int32.ofNat tx.length)), .val (.ref T169.heap.size)] [])) _
          refine XS.aload X170.here hx rfl (hb hby at_435) rfl rfl ?_
          exact kt
        obtain ⟨cq171, kq171, q171a, q171b, q171c⟩ := isOf hZ rfl St170.1
        obtain ⟨_, _, ⟨T171, L171, k171, n171⟩, -, X171, ⟨Lc171, hQ171, l171, y171, z171⟩, st171⟩ := X170.virtualBack hx (y := (⟨"java/lang/String", "length", "()I"⟩ : MethodName)) (z := (⟨"java/lang/String", "length", "()I"⟩ : MethodName)) hown (mvT hZ (hw _ (List.mem_of_getElem? (i := 134) rfl))) (mvT hZ (hw _ (List.mem_of_getElem? (i := 135) rfl))) (notFace_of_selects (args := #[]) (mvT hZ (hw _ (List.mem_of_getElem? (i := 137) rfl)))) (mvT hZ (hw _ (List.mem_of_getElem? (i := 137) rfl))) (mvT hZ (hw _ (List.mem_of_getElem? (i := 136) rfl))) (by decide) (backOf (W := 0) (str_length l Z a0 hw [] T169.heap.size d170 (tx ++ [44] ++ [102] ++ [97] ++ [108] ++ [115] ++ [101]).length (tf (tx ++ [44] ++ [102] ++ [97] ++ [108] ++ [115] ++ [101])) cs T170.heap n0 Zd S0 hcs Od St170) hZ (hw _ (List.mem_of_getElem? (i := 138) rfl)) (hw _ (List.mem_of_getElem? (i := 24) rfl)) (by decide) (by decide)) q171a q171c (g := (mkF m 437 #[.val (.int p1), .val (.int p2), .val (.int p3), .val (.int M), .val (.int q1), .val (.int (0 : Int32)), .val (.int (1 : Int32)), .val (.ref w), .val (.ref w), .val (.ref u1), .val (.ref u2), .val (.int (Int32.ofNat tx.length)), .val (.ref T169.heap.size)] [(.ref T169.heap.size)])) rfl (by rw [hml]; rfl) (Steps.refl _) (argsL := []) (rest := []) (lenOf pd_11 rfl) rfl (by show 2 * 0 + _ ≤ _; exact Nat.le_of_eq rfl) (hb hby at_437) (fun _ _ => ⟨rfl, rfl, (by decide : 9 + 0 ≤ _), (by decide : 334 + 0 ≤ _)⟩)
        dsimp only [Pt.U, Pt.locs, Pt.cells, Pt.slots] at X171 l171 y171 z171 st171 hQ171
        subst l171 y171 z171
        obtain ⟨rfl, N171q, e171⟩ := hQ171
        have N171 := Fr.app N170 N171q
        refine EndsW.st st171 ?_
        have hl2 : List.length (tx ++ [44] ++ [102] ++ [97] ++ [108] ++ [115] ++ [101]) = tx.length + 6 := by simp
        refine EndsW.of (F' := T171.setTop (mkF m 454 #[.val (.int p1), .val (.int p2), .val (.int p3), .val (.int M), .val (.int q1), .val (.int (0 : Int32)), .val (.int (1 : Int32)), .val (.ref w), .val (.ref w), .val (.ref u1), .val (.ref u2), .val (.int (Int32.ofNat tx.length)), .val (.ref T169.heap.size)] [(.int (44 : Int32)), (.int (Int32.ofNat tx.length)), (.ref T169.heap.size)])) (fun _ kt => ?_) ?_
        · show Steps p.tables e below (T171.setTop (mkF m 440 #[.val (.int p1), .val (.int p2), .val (.int p3), .val (.int M), .val (.int q1), .val (.int (0 : Int32)), .val (.int (1 : Int32)), .val (.ref w), .val (.ref w), .val (.ref u1), .val (.ref u2), .val (.int (Int32.ofNat tx.length)), .val (.ref T169.heap.size)] [(.int (Int32.ofNat (tx ++ [44] ++ [102] ++ [97] ++ [108] ++ [115] ++ [101]).length))])) _
          refine XS.iload X171.here hx rfl (hb hby at_440) rfl ?_
          show Steps p.tables e below (T171.setTop (mkF m 442 #[.val (.int p1), .val (.int p2), .val (.int p3), .val (.int M), .val (.int q1), .val (.int (0 : Int32)), .val (.int (1 : Int32)), .val (.ref w), .val (.ref w), .val (.ref u1), .val (.ref u2), .val (.int (Int32.ofNat tx.length)), .val (.ref T169.heap.size)] [(.int (Int32.ofNat tx.length)), (.int (Int32.ofNat (tx ++ [44] ++ [102] ++ [97] ++ [108] ++ [115] ++ [101]).length))])) _
          refine XS.bipush X171.here hx rfl (hb hby at_442) ?_
          show Steps p.tables e below (T171.setTop (mkF m 444 #[.val (.int p1), .val (.int p2), .val (.int p3), .val (.int M), .val (.int q1), .val (.int (0 : Int32)), .val (.int (1 : Int32)), .val (.ref w), .val (.ref w), .val (.ref u1), .val (.ref u2), .val (.int (Int32.ofNat tx.length)), .val (.ref T169.heap.size)] [(.int (6 : Int32)), (.int (Int32.ofNat tx.length)), (.int (Int32.ofNat (tx ++ [44] ++ [102] ++ [97] ++ [108] ++ [115] ++ [101]).length))])) _
          refine XS.iadd X171.here hx rfl (hb hby at_444) rfl ?_
          show Steps p.tables e below (T171.setTop (mkF m 445 #[.val (.int p1), .val (.int p2), .val (.int p3), .val (.int M), .val (.int q1), .val (.int (0 : Int32)), .val (.int (1 : Int32)), .val (.ref w), .val (.ref w), .val (.ref u1), .val (.ref u2), .val (.int (Int32.ofNat tx.length)), .val (.ref T169.heap.size)] [(.int ((Int32.ofNat tx.length) + (6 : Int32))), (.int (Int32.ofNat (tx ++ [44] ++ [102] ++ [97] ++ [108] ++ [115] ++ [101]).length))])) _
          refine XS.icmpNo X171.here hx rfl (hb hby at_445) rfl (teq (by rw [hl2]; exact (own_add tx.length 6).symm)).2 ?_
          show Steps p.tables e below (T171.setTop (mkF m 448 #[.val (.int p1), .val (.int p2), .val (.int p3), .val (.int M), .val (.int q1), .val (.int (0 : Int32)), .val (.int (1 : Int32)), .val (.ref w), .val (.ref w), .val (.ref u1), .val (.ref u2), .val (.int (Int32.ofNat tx.length)), .val (.ref T169.heap.size)] [])) _
          refine XS.aload X171.here hx rfl (hb hby at_448) rfl rfl ?_
          show Steps p.tables e below (T171.setTop (mkF m 450 #[.val (.int p1), .val (.int p2), .val (.int p3), .val (.int M), .val (.int q1), .val (.int (0 : Int32)), .val (.int (1 : Int32)), .val (.ref w), .val (.ref w), .val (.ref u1), .val (.ref u2), .val (.int (Int32.ofNat tx.length)), .val (.ref T169.heap.size)] [(.ref T169.heap.size)])) _
          refine XS.iload X171.here hx rfl (hb hby at_450) rfl ?_
          show Steps p.tables e below (T171.setTop (mkF m 452 #[.val (.int p1), .val (.int p2), .val (.int p3), .val (.int M), .val (.int q1), .val (.int (0 : Int32)), .val (.int (1 : Int32)), .val (.ref w), .val (.ref w), .val (.ref u1), .val (.ref u2), .val (.int (Int32.ofNat tx.length)), .val (.ref T169.heap.size)] [(.int (Int32.ofNat tx.length)), (.ref T169.heap.size)])) _
          refine XS.bipush X171.here hx rfl (hb hby at_452) ?_
          exact kt
        have hc0 : tf (tx ++ [44] ++ [102] ++ [97] ++ [108] ++ [115] ++ [101]) (tx.length + 0) = 44 := by
          have q := tf_at tx [44, 102, 97, 108, 115, 101] 0
          first | exact q | (simp only [List.append_assoc, List.cons_append, List.nil_append] at q ⊢; exact q)
        obtain ⟨_, _, ⟨T172, L172, k172, n172⟩, -, X172, ⟨Lc172, hQ172, l172, y172, z172⟩, st172⟩ := Jvm.LawKit.callS X171 hx (y := (⟨"com/example/tenantd/tenantd/server/JsonWriterEndArrayPinLaw", "at", "(Ljava/lang/String;IC)Z"⟩ : MethodName)) hown (mvT hZ (hw _ (List.mem_of_getElem? (i := 153) rfl))) (mvT hZ (hw _ (List.mem_of_getElem? (i := 154) rfl))) (mvT hZ (hw _ (List.mem_of_getElem? (i := 155) rfl))) (mvT hZ (hw _ (List.mem_of_getElem? (i := 156) rfl))) (by decide) (backOf (W := 0) (law_at l Z a0 hw [] T169.heap.size d170 tx.length (tx ++ [44] ++ [102] ++ [97] ++ [108] ++ [115] ++ [101]).length (tf (tx ++ [44] ++ [102] ++ [97] ++ [108] ++ [115] ++ [101])) (44 : Int32) cs fv T170.heap n0 Zd S0 hcs Od S1 hfv St170 (by rw [hl2]; omega) (by rw [show tf (tx ++ [44] ++ [102] ++ [97] ++ [108] ++ [115] ++ [101]) tx.length = 44 from hc0]; decide) (by decide)) hZ (hw _ (List.mem_of_getElem? (i := 156) rfl)) (hw _ (List.mem_of_getElem? (i := 155) rfl)) (by decide) (by decide)) (g := (mkF m 454 #[.val (.int p1), .val (.int p2), .val (.int p3), .val (.int M), .val (.int q1), .val (.int (0 : Int32)), .val (.int (1 : Int32)), .val (.ref w), .val (.ref w), .val (.ref u1), .val (.ref u2), .val (.int (Int32.ofNat tx.length)), .val (.ref T169.heap.size)] [(.int (44 : Int32)), (.int (Int32.ofNat tx.length)), (.ref T169.heap.size)])) rfl (by rw [hml]; rfl) (argsL := [(.ref T169.heap.size), (.int (Int32.ofNat tx.length)), (.int (44 : Int32))]) (rest := []) (lenOf pd_19 rfl) rfl (by show 2 * 0 + _ ≤ _; exact Nat.le_of_eq rfl) (hb hby at_454) (fun _ _ => ⟨rfl, e171, (by decide : 9 + 0 ≤ _), (by decide : 334 + 0 ≤ _)⟩)
        dsimp only [Pt.U, Pt.locs, Pt.cells, Pt.slots] at X172 l172 y172 z172 st172 hQ172
        subst l172 y172 z172
        obtain ⟨rfl, N172q, e172⟩ := hQ172
        have N172 := Fr.app N171 N172q
        refine EndsW.of st172 ?_
        refine EndsW.of (F' := T172.setTop (mkF m 468 #[.val (.int p1), .val (.int p2), .val (.int p3), .val (.int M), .val (.int q1), .val (.int (0 : Int32)), .val (.int (1 : Int32)), .val (.ref w), .val (.ref w), .val (.ref u1), .val (.ref u2), .val (.int (Int32.ofNat tx.length)), .val (.ref T169.heap.size)] [(.int (102 : Int32)), (.int ((Int32.ofNat tx.length) + (1 : Int32))), (.ref T169.heap.size)])) (fun _ kt => ?_) ?_
        · show Steps p.tables e below (T172.setTop (mkF m 457 #[.val (.int p1), .val (.int p2), .val (.int p3), .val (.int M), .val (.int q1), .val (.int (0 : Int32)), .val (.int (1 : Int32)), .val (.ref w), .val (.ref w), .val (.ref u1), .val (.ref u2), .val (.int (Int32.ofNat tx.length)), .val (.ref T169.heap.size)] [(.int (1 : Int32))])) _
          refine XS.ifNo X172.here hx rfl (hb hby at_457) rfl ((if0 _ _).trans (feq (by decide)).1) ?_
          show Steps p.tables e below (T172.setTop (mkF m 460 #[.val (.int p1), .val (.int p2), .val (.int p3), .val (.int M), .val (.int q1), .val (.int (0 : Int32)), .val (.int (1 : Int32)), .val (.ref w), .val (.ref w), .val (.ref u1), .val (.ref u2), .val (.int (Int32.ofNat tx.length)), .val (.ref T169.heap.size)] [])) _
          refine XS.aload X172.here hx rfl (hb hby at_460) rfl rfl ?_
          show Steps p.tables e below (T172.setTop (mkF m 462 #[.val (.int p1), .val (.int p2), .val (.int p3), .val (.int M), .val (.int q1), .val (.int (0 : Int32)), .val (.int (1 : Int32)), .val (.ref w), .val (.ref w), .val (.ref u1), .val (.ref u2), .val (.int (Int32.ofNat tx.length)), .val (.ref T169.heap.size)] [(.ref T169.heap.size)])) _
          refine XS.iload X172.here hx rfl (hb hby at_462) rfl ?_
          show Steps p.tables e below (T172.setTop (mkF m 464 #[.val (.int p1), .val (.int p2), .val (.int p3), .val (.int M), .val (.int q1), .val (.int (0 : Int32)), .val (.int (1 : Int32)), .val (.ref w), .val (.ref w), .val (.ref u1), .val (.ref u2), .val (.int (Int32.ofNat tx.length)), .val (.ref T169.heap.size)] [(.int (Int32.ofNat tx.length)), (.ref T169.heap.size)])) _
          refine XS.iconst X172.here hx rfl (hb hby at_464) ?_
          show Steps p.tables e below (T172.setTop (mkF m 465 #[.val (.int p1), .val (.int p2), .val (.int p3), .val (.int M), .val (.int q1), .val (.int (0 : Int32)), .val (.int (1 : Int32)), .val (.ref w), .val (.ref w), .val (.ref u1), .val (.ref u2), .val (.int (Int32.ofNat tx.length)), .val (.ref T169.heap.size)] [(.int (1 : Int32)), (.int (Int32.ofNat tx.length)), (.ref T169.heap.size)])) _
          refine XS.iadd X172.here hx rfl (hb hby at_465) rfl ?_
          show Steps p.tables e below (T172.setTop (mkF m 466 #[.val (.int p1), .val (.int p2), .val (.int p3), .val (.int M), .val (.int q1), .val (.int (0 : Int32)), .val (.int (1 : Int32)), .val (.ref w), .val (.ref w), .val (.ref u1), .val (.ref u2), .val (.int (Int32.ofNat tx.length)), .val (.ref T169.heap.size)] [(.int ((Int32.ofNat tx.length) + (1 : Int32))), (.ref T169.heap.size)])) _
          refine XS.bipush X172.here hx rfl (hb hby at_466) ?_
          exact kt
        rw [show Int32.ofNat tx.length + (1 : Int32) = Int32.ofNat (tx.length + 1) from own_add tx.length 1]
        have hc1 : tf (tx ++ [44] ++ [102] ++ [97] ++ [108] ++ [115] ++ [101]) (tx.length + 1) = 102 := by
          have q := tf_at tx [44, 102, 97, 108, 115, 101] 1
          first | exact q | (simp only [List.append_assoc, List.cons_append, List.nil_append] at q ⊢; exact q)
        obtain ⟨_, _, ⟨T173, L173, k173, n173⟩, -, X173, ⟨Lc173, hQ173, l173, y173, z173⟩, st173⟩ := Jvm.LawKit.callS X172 hx (y := (⟨"com/example/tenantd/tenantd/server/JsonWriterEndArrayPinLaw", "at", "(Ljava/lang/String;IC)Z"⟩ : MethodName)) hown (mvT hZ (hw _ (List.mem_of_getElem? (i := 153) rfl))) (mvT hZ (hw _ (List.mem_of_getElem? (i := 154) rfl))) (mvT hZ (hw _ (List.mem_of_getElem? (i := 155) rfl))) (mvT hZ (hw _ (List.mem_of_getElem? (i := 156) rfl))) (by decide) (backOf (W := 0) (law_at l Z a0 hw [] T169.heap.size d170 (tx.length + 1) (tx ++ [44] ++ [102] ++ [97] ++ [108] ++ [115] ++ [101]).length (tf (tx ++ [44] ++ [102] ++ [97] ++ [108] ++ [115] ++ [101])) (102 : Int32) cs fv T170.heap n0 Zd S0 hcs Od S1 hfv St170 (by rw [hl2]; omega) (by rw [show tf (tx ++ [44] ++ [102] ++ [97] ++ [108] ++ [115] ++ [101]) (tx.length + 1) = 102 from hc1]; decide) (by decide)) hZ (hw _ (List.mem_of_getElem? (i := 156) rfl)) (hw _ (List.mem_of_getElem? (i := 155) rfl)) (by decide) (by decide)) (g := (mkF m 468 #[.val (.int p1), .val (.int p2), .val (.int p3), .val (.int M), .val (.int q1), .val (.int (0 : Int32)), .val (.int (1 : Int32)), .val (.ref w), .val (.ref w), .val (.ref u1), .val (.ref u2), .val (.int (Int32.ofNat tx.length)), .val (.ref T169.heap.size)] [(.int (102 : Int32)), (.int (Int32.ofNat (tx.length + 1))), (.ref T169.heap.size)])) rfl (by rw [hml]; rfl) (argsL := [(.ref T169.heap.size), (.int (Int32.ofNat (tx.length + 1))), (.int (102 : Int32))]) (rest := []) (lenOf pd_19 rfl) rfl (by show 2 * 0 + _ ≤ _; exact Nat.le_of_eq rfl) (hb hby at_468) (fun _ _ => ⟨rfl, e172, (by decide : 9 + 0 ≤ _), (by decide : 334 + 0 ≤ _)⟩)
        dsimp only [Pt.U, Pt.locs, Pt.cells, Pt.slots] at X173 l173 y173 z173 st173 hQ173
        subst l173 y173 z173
        obtain ⟨rfl, N173q, e173⟩ := hQ173
        have N173 := Fr.app N172 N173q
        refine EndsW.of st173 ?_
        refine EndsW.of (F' := T173.setTop (mkF m 482 #[.val (.int p1), .val (.int p2), .val (.int p3), .val (.int M), .val (.int q1), .val (.int (0 : Int32)), .val (.int (1 : Int32)), .val (.ref w), .val (.ref w), .val (.ref u1), .val (.ref u2), .val (.int (Int32.ofNat tx.length)), .val (.ref T169.heap.size)] [(.int (97 : Int32)), (.int ((Int32.ofNat tx.length) + (2 : Int32))), (.ref T169.heap.size)])) (fun _ kt => ?_) ?_
        · show Steps p.tables e below (T173.setTop (mkF m 471 #[.val (.int p1), .val (.int p2), .val (.int p3), .val (.int M), .val (.int q1), .val (.int (0 : Int32)), .val (.int (1 : Int32)), .val (.ref w), .val (.ref w), .val (.ref u1), .val (.ref u2), .val (.int (Int32.ofNat tx.length)), .val (.ref T169.heap.size)] [(.int (1 : Int32))])) _
          refine XS.ifNo X173.here hx rfl (hb hby at_471) rfl ((if0 _ _).trans (feq (by decide)).1) ?_
          show Steps p.tables e below (T173.setTop (mkF m 474 #[.val (.int p1), .val (.int p2), .val (.int p3), .val (.int M), .val (.int q1), .val (.int (0 : Int32)), .val (.int (1 : Int32)), .val (.ref w), .val (.ref w), .val (.ref u1), .val (.ref u2), .val (.int (Int32.ofNat tx.length)), .val (.ref T169.heap.size)] [])) _
          refine XS.aload X173.here hx rfl (hb hby at_474) rfl rfl ?_
          show Steps p.tables e below (T173.setTop (mkF m 476 #[.val (.int p1), .val (.int p2), .val (.int p3), .val (.int M), .val (.int q1), .val (.int (0 : Int32)), .val (.int (1 : Int32)), .val (.ref w), .val (.ref w), .val (.ref u1), .val (.ref u2), .val (.int (Int32.ofNat tx.length)), .val (.ref T169.heap.size)] [(.ref T169.heap.size)])) _
          refine XS.iload X173.here hx rfl (hb hby at_476) rfl ?_
          show Steps p.tables e below (T173.setTop (mkF m 478 #[.val (.int p1), .val (.int p2), .val (.int p3), .val (.int M), .val (.int q1), .val (.int (0 : Int32)), .val (.int (1 : Int32)), .val (.ref w), .val (.ref w), .val (.ref u1), .val (.ref u2), .val (.int (Int32.ofNat tx.length)), .val (.ref T169.heap.size)] [(.int (Int32.ofNat tx.length)), (.ref T169.heap.size)])) _
          refine XS.iconst X173.here hx rfl (hb hby at_478) ?_
          show Steps p.tables e below (T173.setTop (mkF m 479 #[.val (.int p1), .val (.int p2), .val (.int p3), .val (.int M), .val (.int q1), .val (.int (0 : Int32)), .val (.int (1 : Int32)), .val (.ref w), .val (.ref w), .val (.ref u1), .val (.ref u2), .val (.int (Int32.ofNat tx.length)), .val (.ref T169.heap.size)] [(.int (2 : Int32)), (.int (Int32.ofNat tx.length)), (.ref T169.heap.size)])) _
          refine XS.iadd X173.here hx rfl (hb hby at_479) rfl ?_
          show Steps p.tables e below (T173.setTop (mkF m 480 #[.val (.int p1), .val (.int p2), .val (.int p3), .val (.int M), .val (.int q1), .val (.int (0 : Int32)), .val (.int (1 : Int32)), .val (.ref w), .val (.ref w), .val (.ref u1), .val (.ref u2), .val (.int (Int32.ofNat tx.length)), .val (.ref T169.heap.size)] [(.int ((Int32.ofNat tx.length) + (2 : Int32))), (.ref T169.heap.size)])) _
          refine XS.bipush X173.here hx rfl (hb hby at_480) ?_
          exact kt
        rw [show Int32.ofNat tx.length + (2 : Int32) = Int32.ofNat (tx.length + 2) from own_add tx.length 2]
        have hc2 : tf (tx ++ [44] ++ [102] ++ [97] ++ [108] ++ [115] ++ [101]) (tx.length + 2) = 97 := by
          have q := tf_at tx [44, 102, 97, 108, 115, 101] 2
          first | exact q | (simp only [List.append_assoc, List.cons_append, List.nil_append] at q ⊢; exact q)
        obtain ⟨_, _, ⟨T174, L174, k174, n174⟩, -, X174, ⟨Lc174, hQ174, l174, y174, z174⟩, st174⟩ := Jvm.LawKit.callS X173 hx (y := (⟨"com/example/tenantd/tenantd/server/JsonWriterEndArrayPinLaw", "at", "(Ljava/lang/String;IC)Z"⟩ : MethodName)) hown (mvT hZ (hw _ (List.mem_of_getElem? (i := 153) rfl))) (mvT hZ (hw _ (List.mem_of_getElem? (i := 154) rfl))) (mvT hZ (hw _ (List.mem_of_getElem? (i := 155) rfl))) (mvT hZ (hw _ (List.mem_of_getElem? (i := 156) rfl))) (by decide) (backOf (W := 0) (law_at l Z a0 hw [] T169.heap.size d170 (tx.length + 2) (tx ++ [44] ++ [102] ++ [97] ++ [108] ++ [115] ++ [101]).length (tf (tx ++ [44] ++ [102] ++ [97] ++ [108] ++ [115] ++ [101])) (97 : Int32) cs fv T170.heap n0 Zd S0 hcs Od S1 hfv St170 (by rw [hl2]; omega) (by rw [show tf (tx ++ [44] ++ [102] ++ [97] ++ [108] ++ [115] ++ [101]) (tx.length + 2) = 97 from hc2]; decide) (by decide)) hZ (hw _ (List.mem_of_getElem? (i := 156) rfl)) (hw _ (List.mem_of_getElem? (i := 155) rfl)) (by decide) (by decide)) (g := (mkF m 482 #[.val (.int p1), .val (.int p2), .val (.int p3), .val (.int M), .val (.int q1), .val (.int (0 : Int32)), .val (.int (1 : Int32)), .val (.ref w), .val (.ref w), .val (.ref u1), .val (.ref u2), .val (.int (Int32.ofNat tx.length)), .val (.ref T169.heap.size)] [(.int (97 : Int32)), (.int (Int32.ofNat (tx.length + 2))), (.ref T169.heap.size)])) rfl (by rw [hml]; rfl) (argsL := [(.ref T169.heap.size), (.int (Int32.ofNat (tx.length + 2))), (.int (97 : Int32))]) (rest := []) (lenOf pd_19 rfl) rfl (by show 2 * 0 + _ ≤ _; exact Nat.le_of_eq rfl) (hb hby at_482) (fun _ _ => ⟨rfl, e173, (by decide : 9 + 0 ≤ _), (by decide : 334 + 0 ≤ _)⟩)
        dsimp only [Pt.U, Pt.locs, Pt.cells, Pt.slots] at X174 l174 y174 z174 st174 hQ174
        subst l174 y174 z174
        obtain ⟨rfl, N174q, e174⟩ := hQ174
        have N174 := Fr.app N173 N174q
        refine EndsW.of st174 ?_
        refine EndsW.of (F' := T174.setTop (mkF m 496 #[.val (.int p1), .val (.int p2), .val (.int p3), .val (.int M), .val (.int q1), .val (.int (0 : Int32)), .val (.int (1 : Int32)), .val (.ref w), .val (.ref w), .val (.ref u1), .val (.ref u2), .val (.int (Int32.ofNat tx.length)), .val (.ref T169.heap.size)] [(.int (108 : Int32)), (.int ((Int32.ofNat tx.length) + (3 : Int32))), (.ref T169.heap.size)])) (fun _ kt => ?_) ?_
        · show Steps p.tables e below (T174.setTop (mkF m 485 #[.val (.int p1), .val (.int p2), .val (.int p3), .val (.int M), .val (.int q1), .val (.int (0 : Int32)), .val (.int (1 : Int32)), .val (.ref w), .val (.ref w), .val (.ref u1), .val (.ref u2), .val (.int (Int32.ofNat tx.length)), .val (.ref T169.heap.size)] [(.int (1 : Int32))])) _
          refine XS.ifNo X174.here hx rfl (hb hby at_485) rfl ((if0 _ _).trans (feq (by decide)).1) ?_
          show Steps p.tables e below (T174.setTop (mkF m 488 #[.val (.int p1), .val (.int p2), .val (.int p3), .val (.int M), .val (.int q1), .val (.int (0 : Int32)), .val (.int (1 : Int32)), .val (.ref w), .val (.ref w), .val (.ref u1), .val (.ref u2), .val (.int (Int32.ofNat tx.length)), .val (.ref T169.heap.size)] [])) _
          refine XS.aload X174.here hx rfl (hb hby at_488) rfl rfl ?_
          show Steps p.tables e below (T174.setTop (mkF m 490 #[.val (.int p1), .val (.int p2), .val (.int p3), .val (.int M), .val (.int q1), .val (.int (0 : Int32)), .val (.int (1 : Int32)), .val (.ref w), .val (.ref w), .val (.ref u1), .val (.ref u2), .val (.int (Int32.ofNat tx.length)), .val (.ref T169.heap.size)] [(.ref T169.heap.size)])) _
          refine XS.iload X174.here hx rfl (hb hby at_490) rfl ?_
          show Steps p.tables e below (T174.setTop (mkF m 492 #[.val (.int p1), .val (.int p2), .val (.int p3), .val (.int M), .val (.int q1), .val (.int (0 : Int32)), .val (.int (1 : Int32)), .val (.ref w), .val (.ref w), .val (.ref u1), .val (.ref u2), .val (.int (Int32.ofNat tx.length)), .val (.ref T169.heap.size)] [(.int (Int32.ofNat tx.length)), (.ref T169.heap.size)])) _
          refine XS.iconst X174.here hx rfl (hb hby at_492) ?_
          show Steps p.tables e below (T174.setTop (mkF m 493 #[.val (.int p1), .val (.int p2), .val (.int p3), .val (.int M), .val (.int q1), .val (.int (0 : Int32)), .val (.int (1 : Int32)), .val (.ref w), .val (.ref w), .val (.ref u1), .val (.ref u2), .val (.int (Int32.ofNat tx.length)), .val (.ref T169.heap.size)] [(.int (3 : Int32)), (.int (Int32.ofNat tx.length)), (.ref T169.heap.size)])) _
          refine XS.iadd X174.here hx rfl (hb hby at_493) rfl ?_
          show Steps p.tables e below (T174.setTop (mkF m 494 #[.val (.int p1), .val (.int p2), .val (.int p3), .val (.int M), .val (.int q1), .val (.int (0 : Int32)), .val (.int (1 : Int32)), .val (.ref w), .val (.ref w), .val (.ref u1), .val (.ref u2), .val (.int (Int32.ofNat tx.length)), .val (.ref T169.heap.size)] [(.int ((Int32.ofNat tx.length) + (3 : Int32))), (.ref T169.heap.size)])) _
          refine XS.bipush X174.here hx rfl (hb hby at_494) ?_
          exact kt
        rw [show Int32.ofNat tx.length + (3 : Int32) = Int32.ofNat (tx.length + 3) from own_add tx.length 3]
        have hc3 : tf (tx ++ [44] ++ [102] ++ [97] ++ [108] ++ [115] ++ [101]) (tx.length + 3) = 108 := by
          have q := tf_at tx [44, 102, 97, 108, 115, 101] 3
          first | exact q | (simp only [List.append_assoc, List.cons_append, List.nil_append] at q ⊢; exact q)
        obtain ⟨_, _, ⟨T175, L175, k175, n175⟩, -, X175, ⟨Lc175, hQ175, l175, y175, z175⟩, st175⟩ := Jvm.LawKit.callS X174 hx (y := (⟨"com/example/tenantd/tenantd/server/JsonWriterEndArrayPinLaw", "at", "(Ljava/lang/String;IC)Z"⟩ : MethodName)) hown (mvT hZ (hw _ (List.mem_of_getElem? (i := 153) rfl))) (mvT hZ (hw _ (List.mem_of_getElem? (i := 154) rfl))) (mvT hZ (hw _ (List.mem_of_getElem? (i := 155) rfl))) (mvT hZ (hw _ (List.mem_of_getElem? (i := 156) rfl))) (by decide) (backOf (W := 0) (law_at l Z a0 hw [] T169.heap.size d170 (tx.length + 3) (tx ++ [44] ++ [102] ++ [97] ++ [108] ++ [115] ++ [101]).length (tf (tx ++ [44] ++ [102] ++ [97] ++ [108] ++ [115] ++ [101])) (108 : Int32) cs fv T170.heap n0 Zd S0 hcs Od S1 hfv St170 (by rw [hl2]; omega) (by rw [show tf (tx ++ [44] ++ [102] ++ [97] ++ [108] ++ [115] ++ [101]) (tx.length + 3) = 108 from hc3]; decide) (by decide)) hZ (hw _ (List.mem_of_getElem? (i := 156) rfl)) (hw _ (List.mem_of_getElem? (i := 155) rfl)) (by decide) (by decide)) (g := (mkF m 496 #[.val (.int p1), .val (.int p2), .val (.int p3), .val (.int M), .val (.int q1), .val (.int (0 : Int32)), .val (.int (1 : Int32)), .val (.ref w), .val (.ref w), .val (.ref u1), .val (.ref u2), .val (.int (Int32.ofNat tx.length)), .val (.ref T169.heap.size)] [(.int (108 : Int32)), (.int (Int32.ofNat (tx.length + 3))), (.ref T169.heap.size)])) rfl (by rw [hml]; rfl) (argsL := [(.ref T169.heap.size), (.int (Int32.ofNat (tx.length + 3))), (.int (108 : Int32))]) (rest := []) (lenOf pd_19 rfl) rfl (by show 2 * 0 + _ ≤ _; exact Nat.le_of_eq rfl) (hb hby at_496) (fun _ _ => ⟨rfl, e174, (by decide : 9 + 0 ≤ _), (by decide : 334 + 0 ≤ _)⟩)
        dsimp only [Pt.U, Pt.locs, Pt.cells, Pt.slots] at X175 l175 y175 z175 st175 hQ175
        subst l175 y175 z175
        obtain ⟨rfl, N175q, e175⟩ := hQ175
        have N175 := Fr.app N174 N175q
        refine EndsW.of st175 ?_
        refine EndsW.of (F' := T175.setTop (mkF m 510 #[.val (.int p1), .val (.int p2), .val (.int p3), .val (.int M), .val (.int q1), .val (.int (0 : Int32)), .val (.int (1 : Int32)), .val (.ref w), .val (.ref w), .val (.ref u1), .val (.ref u2), .val (.int (Int32.ofNat tx.length)), .val (.ref T169.heap.size)] [(.int (115 : Int32)), (.int ((Int32.ofNat tx.length) + (4 : Int32))), (.ref T169.heap.size)])) (fun _ kt => ?_) ?_
        · show Steps p.tables e below (T175.setTop (mkF m 499 #[.val (.int p1), .val (.int p2), .val (.int p3), .val (.int M), .val (.int q1), .val (.int (0 : Int32)), .val (.int (1 : Int32)), .val (.ref w), .val (.ref w), .val (.ref u1), .val (.ref u2), .val (.int (Int32.ofNat tx.length)), .val (.ref T169.heap.size)] [(.int (1 : Int32))])) _
          refine XS.ifNo X175.here hx rfl (hb hby at_499) rfl ((if0 _ _).trans (feq (by decide)).1) ?_
          show Steps p.tables e below (T175.setTop (mkF m 502 #[.val (.int p1), .val (.int p2), .val (.int p3), .val (.int M), .val (.int q1), .val (.int (0 : Int32)), .val (.int (1 : Int32)), .val (.ref w), .val (.ref w), .val (.ref u1), .val (.ref u2), .val (.int (Int32.ofNat tx.length)), .val (.ref T169.heap.size)] [])) _
          refine XS.aload X175.here hx rfl (hb hby at_502) rfl rfl ?_
          show Steps p.tables e below (T175.setTop (mkF m 504 #[.val (.int p1), .val (.int p2), .val (.int p3), .val (.int M), .val (.int q1), .val (.int (0 : Int32)), .val (.int (1 : Int32)), .val (.ref w), .val (.ref w), .val (.ref u1), .val (.ref u2), .val (.int (Int32.ofNat tx.length)), .val (.ref T169.heap.size)] [(.ref T169.heap.size)])) _
          refine XS.iload X175.here hx rfl (hb hby at_504) rfl ?_
          show Steps p.tables e below (T175.setTop (mkF m 506 #[.val (.int p1), .val (.int p2), .val (.int p3), .val (.int M), .val (.int q1), .val (.int (0 : Int32)), .val (.int (1 : Int32)), .val (.ref w), .val (.ref w), .val (.ref u1), .val (.ref u2), .val (.int (Int32.ofNat tx.length)), .val (.ref T169.heap.size)] [(.int (Int32.ofNat tx.length)), (.ref T169.heap.size)])) _
          refine XS.iconst X175.here hx rfl (hb hby at_506) ?_
          show Steps p.tables e below (T175.setTop (mkF m 507 #[.val (.int p1), .val (.int p2), .val (.int p3), .val (.int M), .val (.int q1), .val (.int (0 : Int32)), .val (.int (1 : Int32)), .val (.ref w), .val (.ref w), .val (.ref u1), .val (.ref u2), .val (.int (Int32.ofNat tx.length)), .val (.ref T169.heap.size)] [(.int (4 : Int32)), (.int (Int32.ofNat tx.length)), (.ref T169.heap.size)])) _
          refine XS.iadd X175.here hx rfl (hb hby at_507) rfl ?_
          show Steps p.tables e below (T175.setTop (mkF m 508 #[.val (.int p1), .val (.int p2), .val (.int p3), .val (.int M), .val (.int q1), .val (.int (0 : Int32)), .val (.int (1 : Int32)), .val (.ref w), .val (.ref w), .val (.ref u1), .val (.ref u2), .val (.int (Int32.ofNat tx.length)), .val (.ref T169.heap.size)] [(.int ((Int32.ofNat tx.length) + (4 : Int32))), (.ref T169.heap.size)])) _
          refine XS.bipush X175.here hx rfl (hb hby at_508) ?_
          exact kt
        rw [show Int32.ofNat tx.length + (4 : Int32) = Int32.ofNat (tx.length + 4) from own_add tx.length 4]
        have hc4 : tf (tx ++ [44] ++ [102] ++ [97] ++ [108] ++ [115] ++ [101]) (tx.length + 4) = 115 := by
          have q := tf_at tx [44, 102, 97, 108, 115, 101] 4
          first | exact q | (simp only [List.append_assoc, List.cons_append, List.nil_append] at q ⊢; exact q)
        obtain ⟨_, _, ⟨T176, L176, k176, n176⟩, -, X176, ⟨Lc176, hQ176, l176, y176, z176⟩, st176⟩ := Jvm.LawKit.callS X175 hx (y := (⟨"com/example/tenantd/tenantd/server/JsonWriterEndArrayPinLaw", "at", "(Ljava/lang/String;IC)Z"⟩ : MethodName)) hown (mvT hZ (hw _ (List.mem_of_getElem? (i := 153) rfl))) (mvT hZ (hw _ (List.mem_of_getElem? (i := 154) rfl))) (mvT hZ (hw _ (List.mem_of_getElem? (i := 155) rfl))) (mvT hZ (hw _ (List.mem_of_getElem? (i := 156) rfl))) (by decide) (backOf (W := 0) (law_at l Z a0 hw [] T169.heap.size d170 (tx.length + 4) (tx ++ [44] ++ [102] ++ [97] ++ [108] ++ [115] ++ [101]).length (tf (tx ++ [44] ++ [102] ++ [97] ++ [108] ++ [115] ++ [101])) (115 : Int32) cs fv T170.heap n0 Zd S0 hcs Od S1 hfv St170 (by rw [hl2]; omega) (by rw [show tf (tx ++ [44] ++ [102] ++ [97] ++ [108] ++ [115] ++ [101]) (tx.length + 4) = 115 from hc4]; decide) (by decide)) hZ (hw _ (List.mem_of_getElem? (i := 156) rfl)) (hw _ (List.mem_of_getElem? (i := 155) rfl)) (by decide) (by decide)) (g := (mkF m 510 #[.val (.int p1), .val (.int p2), .val (.int p3), .val (.int M), .val (.int q1), .val (.int (0 : Int32)), .val (.int (1 : Int32)), .val (.ref w), .val (.ref w), .val (.ref u1), .val (.ref u2), .val (.int (Int32.ofNat tx.length)), .val (.ref T169.heap.size)] [(.int (115 : Int32)), (.int (Int32.ofNat (tx.length + 4))), (.ref T169.heap.size)])) rfl (by rw [hml]; rfl) (argsL := [(.ref T169.heap.size), (.int (Int32.ofNat (tx.length + 4))), (.int (115 : Int32))]) (rest := []) (lenOf pd_19 rfl) rfl (by show 2 * 0 + _ ≤ _; exact Nat.le_of_eq rfl) (hb hby at_510) (fun _ _ => ⟨rfl, e175, (by decide : 9 + 0 ≤ _), (by decide : 334 + 0 ≤ _)⟩)
        dsimp only [Pt.U, Pt.locs, Pt.cells, Pt.slots] at X176 l176 y176 z176 st176 hQ176
        subst l176 y176 z176
        obtain ⟨rfl, N176q, e176⟩ := hQ176
        have N176 := Fr.app N175 N176q
        refine EndsW.of st176 ?_
        refine EndsW.of (F' := T176.setTop (mkF m 524 #[.val (.int p1), .val (.int p2), .val (.int p3), .val (.int M), .val (.int q1), .val (.int (0 : Int32)), .val (.int (1 : Int32)), .val (.ref w), .val (.ref w), .val (.ref u1), .val (.ref u2), .val (.int (Int32.ofNat tx.length)), .val (.ref T169.heap.size)] [(.int (101 : Int32)), (.int ((Int32.ofNat tx.length) + (5 : Int32))), (.ref T169.heap.size)])) (fun _ kt => ?_) ?_
        · show Steps p.tables e below (T176.setTop (mkF m 513 #[.val (.int p1), .val (.int p2), .val (.int p3), .val (.int M), .val (.int q1), .val (.int (0 : Int32)), .val (.int (1 : Int32)), .val (.ref w), .val (.ref w), .val (.ref u1), .val (.ref u2), .val (.int (Int32.ofNat tx.length)), .val (.ref T169.heap.size)] [(.int (1 : Int32))])) _
          refine XS.ifNo X176.here hx rfl (hb hby at_513) rfl ((if0 _ _).trans (feq (by decide)).1) ?_
          show Steps p.tables e below (T176.setTop (mkF m 516 #[.val (.int p1), .val (.int p2), .val (.int p3), .val (.int M), .val (.int q1), .val (.int (0 : Int32)), .val (.int (1 : Int32)), .val (.ref w), .val (.ref w), .val (.ref u1), .val (.ref u2), .val (.int (Int32.ofNat tx.length)), .val (.ref T169.heap.size)] [])) _
          refine XS.aload X176.here hx rfl (hb hby at_516) rfl rfl ?_
          show Steps p.tables e below (T176.setTop (mkF m 518 #[.val (.int p1), .val (.int p2), .val (.int p3), .val (.int M), .val (.int q1), .val (.int (0 : Int32)), .val (.int (1 : Int32)), .val (.ref w), .val (.ref w), .val (.ref u1), .val (.ref u2), .val (.int (Int32.ofNat tx.length)), .val (.ref T169.heap.size)] [(.ref T169.heap.size)])) _
          refine XS.iload X176.here hx rfl (hb hby at_518) rfl ?_
          show Steps p.tables e below (T176.setTop (mkF m 520 #[.val (.int p1), .val (.int p2), .val (.int p3), .val (.int M), .val (.int q1), .val (.int (0 : Int32)), .val (.int (1 : Int32)), .val (.ref w), .val (.ref w), .val (.ref u1), .val (.ref u2), .val (.int (Int32.ofNat tx.length)), .val (.ref T169.heap.size)] [(.int (Int32.ofNat tx.length)), (.ref T169.heap.size)])) _
          refine XS.iconst X176.here hx rfl (hb hby at_520) ?_
          show Steps p.tables e below (T176.setTop (mkF m 521 #[.val (.int p1), .val (.int p2), .val (.int p3), .val (.int M), .val (.int q1), .val (.int (0 : Int32)), .val (.int (1 : Int32)), .val (.ref w), .val (.ref w), .val (.ref u1), .val (.ref u2), .val (.int (Int32.ofNat tx.length)), .val (.ref T169.heap.size)] [(.int (5 : Int32)), (.int (Int32.ofNat tx.length)), (.ref T169.heap.size)])) _
          refine XS.iadd X176.here hx rfl (hb hby at_521) rfl ?_
          show Steps p.tables e below (T176.setTop (mkF m 522 #[.val (.int p1), .val (.int p2), .val (.int p3), .val (.int M), .val (.int q1), .val (.int (0 : Int32)), .val (.int (1 : Int32)), .val (.ref w), .val (.ref w), .val (.ref u1), .val (.ref u2), .val (.int (Int32.ofNat tx.length)), .val (.ref T169.heap.size)] [(.int ((Int32.ofNat tx.length) + (5 : Int32))), (.ref T169.heap.size)])) _
          refine XS.bipush X176.here hx rfl (hb hby at_522) ?_
          exact kt
        rw [show Int32.ofNat tx.length + (5 : Int32) = Int32.ofNat (tx.length + 5) from own_add tx.length 5]
        have hc5 : tf (tx ++ [44] ++ [102] ++ [97] ++ [108] ++ [115] ++ [101]) (tx.length + 5) = 101 := by
          have q := tf_at tx [44, 102, 97, 108, 115, 101] 5
          first | exact q | (simp only [List.append_assoc, List.cons_append, List.nil_append] at q ⊢; exact q)
        obtain ⟨_, _, ⟨T177, L177, k177, n177⟩, -, X177, ⟨Lc177, hQ177, l177, y177, z177⟩, st177⟩ := Jvm.LawKit.callS X176 hx (y := (⟨"com/example/tenantd/tenantd/server/JsonWriterEndArrayPinLaw", "at", "(Ljava/lang/String;IC)Z"⟩ : MethodName)) hown (mvT hZ (hw _ (List.mem_of_getElem? (i := 153) rfl))) (mvT hZ (hw _ (List.mem_of_getElem? (i := 154) rfl))) (mvT hZ (hw _ (List.mem_of_getElem? (i := 155) rfl))) (mvT hZ (hw _ (List.mem_of_getElem? (i := 156) rfl))) (by decide) (backOf (W := 0) (law_at l Z a0 hw [] T169.heap.size d170 (tx.length + 5) (tx ++ [44] ++ [102] ++ [97] ++ [108] ++ [115] ++ [101]).length (tf (tx ++ [44] ++ [102] ++ [97] ++ [108] ++ [115] ++ [101])) (101 : Int32) cs fv T170.heap n0 Zd S0 hcs Od S1 hfv St170 (by rw [hl2]; omega) (by rw [show tf (tx ++ [44] ++ [102] ++ [97] ++ [108] ++ [115] ++ [101]) (tx.length + 5) = 101 from hc5]; decide) (by decide)) hZ (hw _ (List.mem_of_getElem? (i := 156) rfl)) (hw _ (List.mem_of_getElem? (i := 155) rfl)) (by decide) (by decide)) (g := (mkF m 524 #[.val (.int p1), .val (.int p2), .val (.int p3), .val (.int M), .val (.int q1), .val (.int (0 : Int32)), .val (.int (1 : Int32)), .val (.ref w), .val (.ref w), .val (.ref u1), .val (.ref u2), .val (.int (Int32.ofNat tx.length)), .val (.ref T169.heap.size)] [(.int (101 : Int32)), (.int (Int32.ofNat (tx.length + 5))), (.ref T169.heap.size)])) rfl (by rw [hml]; rfl) (argsL := [(.ref T169.heap.size), (.int (Int32.ofNat (tx.length + 5))), (.int (101 : Int32))]) (rest := []) (lenOf pd_19 rfl) rfl (by show 2 * 0 + _ ≤ _; exact Nat.le_of_eq rfl) (hb hby at_524) (fun _ _ => ⟨rfl, e176, (by decide : 9 + 0 ≤ _), (by decide : 334 + 0 ≤ _)⟩)
        dsimp only [Pt.U, Pt.locs, Pt.cells, Pt.slots] at X177 l177 y177 z177 st177 hQ177
        subst l177 y177 z177
        obtain ⟨rfl, N177q, e177⟩ := hQ177
        have N177 := Fr.app N176 N177q
        refine EndsW.of st177 ?_
        refine EndsW.of (F' := T177.setTop (mkF m 535 #[.val (.int p1), .val (.int p2), .val (.int p3), .val (.int M), .val (.int q1), .val (.int (0 : Int32)), .val (.int (1 : Int32)), .val (.ref w), .val (.ref w), .val (.ref u1), .val (.ref u2), .val (.int (Int32.ofNat tx.length)), .val (.ref T169.heap.size)] [(.int (1 : Int32))])) (fun _ kt => ?_) ?_
        · show Steps p.tables e below (T177.setTop (mkF m 527 #[.val (.int p1), .val (.int p2), .val (.int p3), .val (.int M), .val (.int q1), .val (.int (0 : Int32)), .val (.int (1 : Int32)), .val (.ref w), .val (.ref w), .val (.ref u1), .val (.ref u2), .val (.int (Int32.ofNat tx.length)), .val (.ref T169.heap.size)] [(.int (1 : Int32))])) _
          refine XS.ifNo X177.here hx rfl (hb hby at_527) rfl ((if0 _ _).trans (feq (by decide)).1) ?_
          show Steps p.tables e below (T177.setTop (mkF m 530 #[.val (.int p1), .val (.int p2), .val (.int p3), .val (.int M), .val (.int q1), .val (.int (0 : Int32)), .val (.int (1 : Int32)), .val (.ref w), .val (.ref w), .val (.ref u1), .val (.ref u2), .val (.int (Int32.ofNat tx.length)), .val (.ref T169.heap.size)] [])) _
          refine XS.iconst X177.here hx rfl (hb hby at_530) ?_
          show Steps p.tables e below (T177.setTop (mkF m 531 #[.val (.int p1), .val (.int p2), .val (.int p3), .val (.int M), .val (.int q1), .val (.int (0 : Int32)), .val (.int (1 : Int32)), .val (.ref w), .val (.ref w), .val (.ref u1), .val (.ref u2), .val (.int (Int32.ofNat tx.length)), .val (.ref T169.heap.size)] [(.int (1 : Int32))])) _
          refine XS.goto X177.here hx rfl (pc0 := 531) (pc' := 535) rfl (hb hby at_531) (by decide) (by decide) ?_
          exact kt
        obtain ⟨fs, hr, hrun, hended, hEW⟩ := X177.leaveW hS (by rw [e177]; exact hkz) (v := some (.int (1 : Int32))) (fun h => by rw [Bd.returns] at h; cases h)
        exact ⟨_, _, retN X177 hx (t := .boolean) Bd.returns (by simp) (hb hby at_535) hr, hrun, hended, _, _, rfl, ⟨rfl, N177⟩, hEW.1, hEW.2.1, hEW.2.2.1, hEW.2.2.2.mono (by decide) (by decide)⟩
      · refine EndsW.of (F' := T166.setTop (mkF m 276 #[.val (.int p1), .val (.int p2), .val (.int p3), .val (.int M), .val (.int q1), .val (.int (1 : Int32)), .val (.int (1 : Int32)), .val (.ref w), .val (.ref w), .val (.ref u1), .val (.ref u2), .val (.int (Int32.ofNat tx.length)), .unset] [(.int (1 : Int32)), (.ref w)])) (fun _ kt => ?_) ?_
        · show Steps p.tables e below (T166.setTop (mkF m 266 #[.val (.int p1), .val (.int p2), .val (.int p3), .val (.int M), .val (.int q1), .val (.int (1 : Int32)), .val (.int (1 : Int32)), .val (.ref w), .val (.ref w), .val (.ref u1), .val (.ref u2), .val (.int (Int32.ofNat tx.length)), .unset] [])) _
          refine XS.iload X166.here hx rfl (hb hby at_266) rfl ?_
          show Steps p.tables e below (T166.setTop (mkF m 268 #[.val (.int p1), .val (.int p2), .val (.int p3), .val (.int M), .val (.int q1), .val (.int (1 : Int32)), .val (.int (1 : Int32)), .val (.ref w), .val (.ref w), .val (.ref u1), .val (.ref u2), .val (.int (Int32.ofNat tx.length)), .unset] [(.int (1 : Int32))])) _
          refine XS.iconst X166.here hx rfl (hb hby at_268) ?_
          show Steps p.tables e below (T166.setTop (mkF m 269 #[.val (.int p1), .val (.int p2), .val (.int p3), .val (.int M), .val (.int q1), .val (.int (1 : Int32)), .val (.int (1 : Int32)), .val (.ref w), .val (.ref w), .val (.ref u1), .val (.ref u2), .val (.int (Int32.ofNat tx.length)), .unset] [(.int (1 : Int32)), (.int (1 : Int32))])) _
          refine XS.icmpNo X166.here hx rfl (hb hby at_269) rfl (teq rfl).2 ?_
          show Steps p.tables e below (T166.setTop (mkF m 272 #[.val (.int p1), .val (.int p2), .val (.int p3), .val (.int M), .val (.int q1), .val (.int (1 : Int32)), .val (.int (1 : Int32)), .val (.ref w), .val (.ref w), .val (.ref u1), .val (.ref u2), .val (.int (Int32.ofNat tx.length)), .unset] [])) _
          refine XS.aload X166.here hx rfl (hb hby at_272) rfl rfl ?_
          show Steps p.tables e below (T166.setTop (mkF m 274 #[.val (.int p1), .val (.int p2), .val (.int p3), .val (.int M), .val (.int q1), .val (.int (1 : Int32)), .val (.int (1 : Int32)), .val (.ref w), .val (.ref w), .val (.ref u1), .val (.ref u2), .val (.int (Int32.ofNat tx.length)), .unset] [(.ref w)])) _
          refine XS.iload X166.here hx rfl (hb hby at_274) rfl ?_
          exact kt
        obtain ⟨cq178, kq178, q178a, q178b, q178c⟩ := isOf hZ e166 Jb.1
        obtain ⟨_, _, ⟨T178, L178, k178, n178⟩, -, X178, ⟨Lc178, hQ178, l178, y178, z178⟩, st178⟩ := X166.virtualBack hx (y := (⟨"com/example/tenantd/tenantd/server/JsonWriter", "value", "(Z)Lcom/example/tenantd/tenantd/server/JsonWriter;"⟩ : MethodName)) (z := (⟨"com/example/tenantd/tenantd/server/JsonWriter", "value", "(Z)Lcom/example/tenantd/tenantd/server/JsonWriter;"⟩ : MethodName)) hown (mvT hZ (hw _ (List.mem_of_getElem? (i := 179) rfl))) (mvT hZ (hw _ (List.mem_of_getElem? (i := 180) rfl))) (notFace_of_selects (args := #[]) (mvT hZ (hw _ (List.mem_of_getElem? (i := 182) rfl)))) (mvT hZ (hw _ (List.mem_of_getElem? (i := 182) rfl))) (mvT hZ (hw _ (List.mem_of_getElem? (i := 181) rfl))) (by decide) (backOf (W := 0) (jw_val11 l Z a0 hw [] w a b tx cs hB n0 Zb S0 hcs Ob Jb (by omega) g_w g_a g_b) hZ (hw _ (List.mem_of_getElem? (i := 183) rfl)) (hw _ (List.mem_of_getElem? (i := 3) rfl)) (by decide) (by decide)) q178a q178c (g := (mkF m 276 #[.val (.int p1), .val (.int p2), .val (.int p3), .val (.int M), .val (.int q1), .val (.int (1 : Int32)), .val (.int (1 : Int32)), .val (.ref w), .val (.ref w), .val (.ref u1), .val (.ref u2), .val (.int (Int32.ofNat tx.length)), .unset] [(.int (1 : Int32)), (.ref w)])) rfl (by rw [hml]; rfl) (Steps.refl _) (argsL := [(.int (1 : Int32))]) (rest := []) (lenOf pd_23 rfl) rfl (by show 2 * 0 + _ ≤ _; exact Nat.le_of_eq rfl) (hb hby at_276) (fun _ _ => ⟨rfl, e166, (by decide : 7 + 0 ≤ _), (by decide : 314 + 0 ≤ _)⟩)
        dsimp only [Pt.U, Pt.locs, Pt.cells, Pt.slots] at X178 l178 y178 z178 st178 hQ178
        subst l178 y178 z178
        obtain ⟨rfl, N178q, K178, J178⟩ := hQ178
        have N178 := Fr.app N166 N178q
        refine EndsW.st st178 ?_
        have Zc : n0 ≤ T178.heap.size := Nat.le_trans Zb K178.1
        have Oc := Ob.keep K178 (allS g_w (allS g_a (allS g_b all0)))
        have gk : hB.size ≤ T178.heap.size := K178.1
        refine EndsW.of (F' := T178.setTop (mkF m 312 #[.val (.int p1), .val (.int p2), .val (.int p3), .val (.int M), .val (.int q1), .val (.int (1 : Int32)), .val (.int (1 : Int32)), .val (.ref w), .val (.ref w), .val (.ref u1), .val (.ref u2), .val (.int (Int32.ofNat tx.length)), .unset] [(.ref w)])) (fun _ kt => ?_) ?_
        · show Steps p.tables e below (T178.setTop (mkF m 279 #[.val (.int p1), .val (.int p2), .val (.int p3), .val (.int M), .val (.int q1), .val (.int (1 : Int32)), .val (.int (1 : Int32)), .val (.ref w), .val (.ref w), .val (.ref u1), .val (.ref u2), .val (.int (Int32.ofNat tx.length)), .unset] [(.ref w)])) _
          refine XS.pop X178.here hx rfl (hb hby at_279) rfl rfl ?_
          show Steps p.tables e below (T178.setTop (mkF m 280 #[.val (.int p1), .val (.int p2), .val (.int p3), .val (.int M), .val (.int q1), .val (.int (1 : Int32)), .val (.int (1 : Int32)), .val (.ref w), .val (.ref w), .val (.ref u1), .val (.ref u2), .val (.int (Int32.ofNat tx.length)), .unset] [])) _
          refine XS.goto X178.here hx rfl (pc0 := 280) (pc' := 310) rfl (hb hby at_280) (by decide) (by decide) ?_
          show Steps p.tables e below (T178.setTop (mkF m 310 #[.val (.int p1), .val (.int p2), .val (.int p3), .val (.int M), .val (.int q1), .val (.int (1 : Int32)), .val (.int (1 : Int32)), .val (.ref w), .val (.ref w), .val (.ref u1), .val (.ref u2), .val (.int (Int32.ofNat tx.length)), .unset] [])) _
          refine XS.aload X178.here hx rfl (hb hby at_310) rfl rfl ?_
          exact kt
        obtain ⟨cq179, kq179, q179a, q179b, q179c⟩ := isOf hZ rfl J178.1
        obtain ⟨_, _, ⟨T179, L179, k179, n179⟩, -, X179, ⟨Lc179, hQ179, l179, y179, z179⟩, st179⟩ := X178.virtualBack hx (y := (⟨"com/example/tenantd/tenantd/server/JsonWriter", "toString", "()Ljava/lang/String;"⟩ : MethodName)) (z := (⟨"com/example/tenantd/tenantd/server/JsonWriter", "toString", "()Ljava/lang/String;"⟩ : MethodName)) hown (mvT hZ (hw _ (List.mem_of_getElem? (i := 65) rfl))) (mvT hZ (hw _ (List.mem_of_getElem? (i := 66) rfl))) (notFace_of_selects (args := #[]) (mvT hZ (hw _ (List.mem_of_getElem? (i := 68) rfl)))) (mvT hZ (hw _ (List.mem_of_getElem? (i := 68) rfl))) (mvT hZ (hw _ (List.mem_of_getElem? (i := 67) rfl))) (by decide) (backOf (W := 0) (jw_str l Z a0 hw [] w a b (tx ++ [44] ++ [116] ++ [114] ++ [117] ++ [101]) cs (1 : Int32) T178.heap n0 Zc S0 hcs Oc J178 (by simp only [List.length_append, List.length_cons, List.length_nil]; omega)) hZ (hw _ (List.mem_of_getElem? (i := 69) rfl)) (hw _ (List.mem_of_getElem? (i := 3) rfl)) (by decide) (by decide)) q179a q179c (g := (mkF m 312 #[.val (.int p1), .val (.int p2), .val (.int p3), .val (.int M), .val (.int q1), .val (.int (1 : Int32)), .val (.int (1 : Int32)), .val (.ref w), .val (.ref w), .val (.ref u1), .val (.ref u2), .val (.int (Int32.ofNat tx.length)), .unset] [(.ref w)])) rfl (by rw [hml]; rfl) (Steps.refl _) (argsL := []) (rest := []) (lenOf pd_7 rfl) rfl (by show 2 * 0 + _ ≤ _; exact Nat.le_of_eq rfl) (hb hby at_312) (fun _ _ => ⟨rfl, rfl, (by decide : 7 + 2 ≤ _), (by decide : 314 + 20 ≤ _)⟩)
        dsimp only [Pt.U, Pt.locs, Pt.cells, Pt.slots] at X179 l179 y179 z179 st179 hQ179
        subst l179 y179 z179
        obtain ⟨d179, rfl, N179q, K179, St179, gd179⟩ := hQ179
        have N179 := Fr.app N178 N179q
        refine EndsW.st st179 ?_
        have Zd : n0 ≤ T179.heap.size := Nat.le_trans Zc K179.1
        have Od := Oc.keep K179 all0
        have hkz : k1 ≤ T179.heap.size := Nat.le_trans hk1 (Nat.le_trans gk K179.1)
        refine EndsW.of (F' := T179.setTop (mkF m 351 #[.val (.int p1), .val (.int p2), .val (.int p3), .val (.int M), .val (.int q1), .val (.int (1 : Int32)), .val (.int (1 : Int32)), .val (.ref w), .val (.ref w), .val (.ref u1), .val (.ref u2), .val (.int (Int32.ofNat tx.length)), .val (.ref T178.heap.size)] [(.ref T178.heap.size)])) (fun _ kt => ?_) ?_
        · show Steps p.tables e below (T179.setTop (mkF m 315 #[.val (.int p1), .val (.int p2), .val (.int p3), .val (.int M), .val (.int q1), .val (.int (1 : Int32)), .val (.int (1 : Int32)), .val (.ref w), .val (.ref w), .val (.ref u1), .val (.ref u2), .val (.int (Int32.ofNat tx.length)), .unset] [(.ref T178.heap.size)])) _
          refine XS.astore X179.here hx rfl (hb hby at_315) rfl rfl (l' := #[.val (.int p1), .val (.int p2), .val (.int p3), .val (.int M), .val (.int q1), .val (.int (1 : Int32)), .val (.int (1 : Int32)), .val (.ref w), .val (.ref w), .val (.ref u1), .val (.ref u2), .val (.int (Int32.ofNat tx.length)), .val (.ref T178.heap.size)]) rfl ?_
          show Steps p.tables e below (T179.setTop (mkF m 317 #[.val (.int p1), .val (.int p2), .val (.int p3), .val (.int M), .val (.int q1), .val (.int (1 : Int32)), .val (.int (1 : Int32)), .val (.ref w), .val (.ref w), .val (.ref u1), .val (.ref u2), .val (.int (Int32.ofNat tx.length)), .val (.ref T178.heap.size)] [])) _
          refine XS.iload X179.here hx rfl (hb hby at_317) rfl ?_
          show Steps p.tables e below (T179.setTop (mkF m 319 #[.val (.int p1), .val (.int p2), .val (.int p3), .val (.int M), .val (.int q1), .val (.int (1 : Int32)), .val (.int (1 : Int32)), .val (.ref w), .val (.ref w), .val (.ref u1), .val (.ref u2), .val (.int (Int32.ofNat tx.length)), .val (.ref T178.heap.size)] [(.int (1 : Int32))])) _
          refine XS.ifYes X179.here hx rfl (pc0 := 319) (pc' := 338) rfl (hb hby at_319) rfl ((if0 _ _).trans (feq (by decide)).2) (by decide) (by decide) ?_
          show Steps p.tables e below (T179.setTop (mkF m 338 #[.val (.int p1), .val (.int p2), .val (.int p3), .val (.int M), .val (.int q1), .val (.int (1 : Int32)), .val (.int (1 : Int32)), .val (.ref w), .val (.ref w), .val (.ref u1), .val (.ref u2), .val (.int (Int32.ofNat tx.length)), .val (.ref T178.heap.size)] [])) _
          refine XS.iload X179.here hx rfl (hb hby at_338) rfl ?_
          show Steps p.tables e below (T179.setTop (mkF m 340 #[.val (.int p1), .val (.int p2), .val (.int p3), .val (.int M), .val (.int q1), .val (.int (1 : Int32)), .val (.int (1 : Int32)), .val (.ref w), .val (.ref w), .val (.ref u1), .val (.ref u2), .val (.int (Int32.ofNat tx.length)), .val (.ref T178.heap.size)] [(.int (1 : Int32))])) _
          refine XS.iconst X179.here hx rfl (hb hby at_340) ?_
          show Steps p.tables e below (T179.setTop (mkF m 341 #[.val (.int p1), .val (.int p2), .val (.int p3), .val (.int M), .val (.int q1), .val (.int (1 : Int32)), .val (.int (1 : Int32)), .val (.ref w), .val (.ref w), .val (.ref u1), .val (.ref u2), .val (.int (Int32.ofNat tx.length)), .val (.ref T178.heap.size)] [(.int (1 : Int32)), (.int (1 : Int32))])) _
          refine XS.icmpNo X179.here hx rfl (hb hby at_341) rfl (teq rfl).2 ?_
          show Steps p.tables e below (T179.setTop (mkF m 344 #[.val (.int p1), .val (.int p2), .val (.int p3), .val (.int M), .val (.int q1), .val (.int (1 : Int32)), .val (.int (1 : Int32)), .val (.ref w), .val (.ref w), .val (.ref u1), .val (.ref u2), .val (.int (Int32.ofNat tx.length)), .val (.ref T178.heap.size)] [])) _
          refine XS.iload X179.here hx rfl (hb hby at_344) rfl ?_
          show Steps p.tables e below (T179.setTop (mkF m 346 #[.val (.int p1), .val (.int p2), .val (.int p3), .val (.int M), .val (.int q1), .val (.int (1 : Int32)), .val (.int (1 : Int32)), .val (.ref w), .val (.ref w), .val (.ref u1), .val (.ref u2), .val (.int (Int32.ofNat tx.length)), .val (.ref T178.heap.size)] [(.int (1 : Int32))])) _
          refine XS.ifNo X179.here hx rfl (hb hby at_346) rfl ((if0 _ _).trans (feq (by decide)).1) ?_
          show Steps p.tables e below (T179.setTop (mkF m 349 #[.val (.int p1), .val (.int p2), .val (.int p3), .val (.int M), .val (.int q1), .val (.int (1 : Int32)), .val (.int (1 : Int32)), .val (.ref w), .val (.ref w), .val (.ref u1), .val (.ref u2), .val (.int (Int32.ofNat tx.length)), .val (.ref T178.heap.size)] [])) _
          refine XS.aload X179.here hx rfl (hb hby at_349) rfl rfl ?_
          exact kt
        obtain ⟨cq180, kq180, q180a, q180b, q180c⟩ := isOf hZ rfl St179.1
        obtain ⟨_, _, ⟨T180, L180, k180, n180⟩, -, X180, ⟨Lc180, hQ180, l180, y180, z180⟩, st180⟩ := X179.virtualBack hx (y := (⟨"java/lang/String", "length", "()I"⟩ : MethodName)) (z := (⟨"java/lang/String", "length", "()I"⟩ : MethodName)) hown (mvT hZ (hw _ (List.mem_of_getElem? (i := 134) rfl))) (mvT hZ (hw _ (List.mem_of_getElem? (i := 135) rfl))) (notFace_of_selects (args := #[]) (mvT hZ (hw _ (List.mem_of_getElem? (i := 137) rfl)))) (mvT hZ (hw _ (List.mem_of_getElem? (i := 137) rfl))) (mvT hZ (hw _ (List.mem_of_getElem? (i := 136) rfl))) (by decide) (backOf (W := 0) (str_length l Z a0 hw [] T178.heap.size d179 (tx ++ [44] ++ [116] ++ [114] ++ [117] ++ [101]).length (tf (tx ++ [44] ++ [116] ++ [114] ++ [117] ++ [101])) cs T179.heap n0 Zd S0 hcs Od St179) hZ (hw _ (List.mem_of_getElem? (i := 138) rfl)) (hw _ (List.mem_of_getElem? (i := 24) rfl)) (by decide) (by decide)) q180a q180c (g := (mkF m 351 #[.val (.int p1), .val (.int p2), .val (.int p3), .val (.int M), .val (.int q1), .val (.int (1 : Int32)), .val (.int (1 : Int32)), .val (.ref w), .val (.ref w), .val (.ref u1), .val (.ref u2), .val (.int (Int32.ofNat tx.length)), .val (.ref T178.heap.size)] [(.ref T178.heap.size)])) rfl (by rw [hml]; rfl) (Steps.refl _) (argsL := []) (rest := []) (lenOf pd_11 rfl) rfl (by show 2 * 0 + _ ≤ _; exact Nat.le_of_eq rfl) (hb hby at_351) (fun _ _ => ⟨rfl, rfl, (by decide : 9 + 0 ≤ _), (by decide : 334 + 0 ≤ _)⟩)
        dsimp only [Pt.U, Pt.locs, Pt.cells, Pt.slots] at X180 l180 y180 z180 st180 hQ180
        subst l180 y180 z180
        obtain ⟨rfl, N180q, e180⟩ := hQ180
        have N180 := Fr.app N179 N180q
        refine EndsW.st st180 ?_
        have hl2 : List.length (tx ++ [44] ++ [116] ++ [114] ++ [117] ++ [101]) = tx.length + 5 := by simp
        refine EndsW.of (F' := T180.setTop (mkF m 367 #[.val (.int p1), .val (.int p2), .val (.int p3), .val (.int M), .val (.int q1), .val (.int (1 : Int32)), .val (.int (1 : Int32)), .val (.ref w), .val (.ref w), .val (.ref u1), .val (.ref u2), .val (.int (Int32.ofNat tx.length)), .val (.ref T178.heap.size)] [(.int (44 : Int32)), (.int (Int32.ofNat tx.length)), (.ref T178.heap.size)])) (fun _ kt => ?_) ?_
        · show Steps p.tables e below (T180.setTop (mkF m 354 #[.val (.int p1), .val (.int p2), .val (.int p3), .val (.int M), .val (.int q1), .val (.int (1 : Int32)), .val (.int (1 : Int32)), .val (.ref w), .val (.ref w), .val (.ref u1), .val (.ref u2), .val (.int (Int32.ofNat tx.length)), .val (.ref T178.heap.size)] [(.int (Int32.ofNat (tx ++ [44] ++ [116] ++ [114] ++ [117] ++ [101]).length))])) _
          refine XS.iload X180.here hx rfl (hb hby at_354) rfl ?_
          show Steps p.tables e below (T180.setTop (mkF m 356 #[.val (.int p1), .val (.int p2), .val (.int p3), .val (.int M), .val (.int q1), .val (.int (1 : Int32)), .val (.int (1 : Int32)), .val (.ref w), .val (.ref w), .val (.ref u1), .val (.ref u2), .val (.int (Int32.ofNat tx.length)), .val (.ref T178.heap.size)] [(.int (Int32.ofNat tx.length)), (.int (Int32.ofNat (tx ++ [44] ++ [116] ++ [114] ++ [117] ++ [101]).length))])) _
          refine XS.iconst X180.here hx rfl (hb hby at_356) ?_
          show Steps p.tables e below (T180.setTop (mkF m 357 #[.val (.int p1), .val (.int p2), .val (.int p3), .val (.int M), .val (.int q1), .val (.int (1 : Int32)), .val (.int (1 : Int32)), .val (.ref w), .val (.ref w), .val (.ref u1), .val (.ref u2), .val (.int (Int32.ofNat tx.length)), .val (.ref T178.heap.size)] [(.int (5 : Int32)), (.int (Int32.ofNat tx.length)), (.int (Int32.ofNat (tx ++ [44] ++ [116] ++ [114] ++ [117] ++ [101]).length))])) _
          refine XS.iadd X180.here hx rfl (hb hby at_357) rfl ?_
          show Steps p.tables e below (T180.setTop (mkF m 358 #[.val (.int p1), .val (.int p2), .val (.int p3), .val (.int M), .val (.int q1), .val (.int (1 : Int32)), .val (.int (1 : Int32)), .val (.ref w), .val (.ref w), .val (.ref u1), .val (.ref u2), .val (.int (Int32.ofNat tx.length)), .val (.ref T178.heap.size)] [(.int ((Int32.ofNat tx.length) + (5 : Int32))), (.int (Int32.ofNat (tx ++ [44] ++ [116] ++ [114] ++ [117] ++ [101]).length))])) _
          refine XS.icmpNo X180.here hx rfl (hb hby at_358) rfl (teq (by rw [hl2]; exact (own_add tx.length 5).symm)).2 ?_
          show Steps p.tables e below (T180.setTop (mkF m 361 #[.val (.int p1), .val (.int p2), .val (.int p3), .val (.int M), .val (.int q1), .val (.int (1 : Int32)), .val (.int (1 : Int32)), .val (.ref w), .val (.ref w), .val (.ref u1), .val (.ref u2), .val (.int (Int32.ofNat tx.length)), .val (.ref T178.heap.size)] [])) _
          refine XS.aload X180.here hx rfl (hb hby at_361) rfl rfl ?_
          show Steps p.tables e below (T180.setTop (mkF m 363 #[.val (.int p1), .val (.int p2), .val (.int p3), .val (.int M), .val (.int q1), .val (.int (1 : Int32)), .val (.int (1 : Int32)), .val (.ref w), .val (.ref w), .val (.ref u1), .val (.ref u2), .val (.int (Int32.ofNat tx.length)), .val (.ref T178.heap.size)] [(.ref T178.heap.size)])) _
          refine XS.iload X180.here hx rfl (hb hby at_363) rfl ?_
          show Steps p.tables e below (T180.setTop (mkF m 365 #[.val (.int p1), .val (.int p2), .val (.int p3), .val (.int M), .val (.int q1), .val (.int (1 : Int32)), .val (.int (1 : Int32)), .val (.ref w), .val (.ref w), .val (.ref u1), .val (.ref u2), .val (.int (Int32.ofNat tx.length)), .val (.ref T178.heap.size)] [(.int (Int32.ofNat tx.length)), (.ref T178.heap.size)])) _
          refine XS.bipush X180.here hx rfl (hb hby at_365) ?_
          exact kt
        have hc0 : tf (tx ++ [44] ++ [116] ++ [114] ++ [117] ++ [101]) (tx.length + 0) = 44 := by
          have q := tf_at tx [44, 116, 114, 117, 101] 0
          first | exact q | (simp only [List.append_assoc, List.cons_append, List.nil_append] at q ⊢; exact q)
        obtain ⟨_, _, ⟨T181, L181, k181, n181⟩, -, X181, ⟨Lc181, hQ181, l181, y181, z181⟩, st181⟩ := Jvm.LawKit.callS X180 hx (y := (⟨"com/example/tenantd/tenantd/server/JsonWriterEndArrayPinLaw", "at", "(Ljava/lang/String;IC)Z"⟩ : MethodName)) hown (mvT hZ (hw _ (List.mem_of_getElem? (i := 153) rfl))) (mvT hZ (hw _ (List.mem_of_getElem? (i := 154) rfl))) (mvT hZ (hw _ (List.mem_of_getElem? (i := 155) rfl))) (mvT hZ (hw _ (List.mem_of_getElem? (i := 156) rfl))) (by decide) (backOf (W := 0) (law_at l Z a0 hw [] T178.heap.size d179 tx.length (tx ++ [44] ++ [116] ++ [114] ++ [117] ++ [101]).length (tf (tx ++ [44] ++ [116] ++ [114] ++ [117] ++ [101])) (44 : Int32) cs fv T179.heap n0 Zd S0 hcs Od S1 hfv St179 (by rw [hl2]; omega) (by rw [show tf (tx ++ [44] ++ [116] ++ [114] ++ [117] ++ [101]) tx.length = 44 from hc0]; decide) (by decide)) hZ (hw _ (List.mem_of_getElem? (i := 156) rfl)) (hw _ (List.mem_of_getElem? (i := 155) rfl)) (by decide) (by decide)) (g := (mkF m 367 #[.val (.int p1), .val (.int p2), .val (.int p3), .val (.int M), .val (.int q1), .val (.int (1 : Int32)), .val (.int (1 : Int32)), .val (.ref w), .val (.ref w), .val (.ref u1), .val (.ref u2), .val (.int (Int32.ofNat tx.length)), .val (.ref T178.heap.size)] [(.int (44 : Int32)), (.int (Int32.ofNat tx.length)), (.ref T178.heap.size)])) rfl (by rw [hml]; rfl) (argsL := [(.ref T178.heap.size), (.int (Int32.ofNat tx.length)), (.int (44 : Int32))]) (rest := []) (lenOf pd_19 rfl) rfl (by show 2 * 0 + _ ≤ _; exact Nat.le_of_eq rfl) (hb hby at_367) (fun _ _ => ⟨rfl, e180, (by decide : 9 + 0 ≤ _), (by decide : 334 + 0 ≤ _)⟩)
        dsimp only [Pt.U, Pt.locs, Pt.cells, Pt.slots] at X181 l181 y181 z181 st181 hQ181
        subst l181 y181 z181
        obtain ⟨rfl, N181q, e181⟩ := hQ181
        have N181 := Fr.app N180 N181q
        refine EndsW.of st181 ?_
        refine EndsW.of (F' := T181.setTop (mkF m 381 #[.val (.int p1), .val (.int p2), .val (.int p3), .val (.int M), .val (.int q1), .val (.int (1 : Int32)), .val (.int (1 : Int32)), .val (.ref w), .val (.ref w), .val (.ref u1), .val (.ref u2), .val (.int (Int32.ofNat tx.length)), .val (.ref T178.heap.size)] [(.int (116 : Int32)), (.int ((Int32.ofNat tx.length) + (1 : Int32))), (.ref T178.heap.size)])) (fun _ kt => ?_) ?_
        · show Steps p.tables e below (T181.setTop (mkF m 370 #[.val (.int p1), .val (.int p2), .val (.int p3), .val (.int M), .val (.int q1), .val (.int (1 : Int32)), .val (.int (1 : Int32)), .val (.ref w), .val (.ref w), .val (.ref u1), .val (.ref u2), .val (.int (Int32.ofNat tx.length)), .val (.ref T178.heap.size)] [(.int (1 : Int32))])) _
          refine XS.ifNo X181.here hx rfl (hb hby at_370) rfl ((if0 _ _).trans (feq (by decide)).1) ?_
          show Steps p.tables e below (T181.setTop (mkF m 373 #[.val (.int p1), .val (.int p2), .val (.int p3), .val (.int M), .val (.int q1), .val (.int (1 : Int32)), .val (.int (1 : Int32)), .val (.ref w), .val (.ref w), .val (.ref u1), .val (.ref u2), .val (.int (Int32.ofNat tx.length)), .val (.ref T178.heap.size)] [])) _
          refine XS.aload X181.here hx rfl (hb hby at_373) rfl rfl ?_
          show Steps p.tables e below (T181.setTop (mkF m 375 #[.val (.int p1), .val (.int p2), .val (.int p3), .val (.int M), .val (.int q1), .val (.int (1 : Int32)), .val (.int (1 : Int32)), .val (.ref w), .val (.ref w), .val (.ref u1), .val (.ref u2), .val (.int (Int32.ofNat tx.length)), .val (.ref T178.heap.size)] [(.ref T178.heap.size)])) _
          refine XS.iload X181.here hx rfl (hb hby at_375) rfl ?_
          show Steps p.tables e below (T181.setTop (mkF m 377 #[.val (.int p1), .val (.int p2), .val (.int p3), .val (.int M), .val (.int q1), .val (.int (1 : Int32)), .val (.int (1 : Int32)), .val (.ref w), .val (.ref w), .val (.ref u1), .val (.ref u2), .val (.int (Int32.ofNat tx.length)), .val (.ref T178.heap.size)] [(.int (Int32.ofNat tx.length)), (.ref T178.heap.size)])) _
          refine XS.iconst X181.here hx rfl (hb hby at_377) ?_
          show Steps p.tables e below (T181.setTop (mkF m 378 #[.val (.int p1), .val (.int p2), .val (.int p3), .val (.int M), .val (.int q1), .val (.int (1 : Int32)), .val (.int (1 : Int32)), .val (.ref w), .val (.ref w), .val (.ref u1), .val (.ref u2), .val (.int (Int32.ofNat tx.length)), .val (.ref T178.heap.size)] [(.int (1 : Int32)), (.int (Int32.ofNat tx.length)), (.ref T178.heap.size)])) _
          refine XS.iadd X181.here hx rfl (hb hby at_378) rfl ?_
          show Steps p.tables e below (T181.setTop (mkF m 379 #[.val (.int p1), .val (.int p2), .val (.int p3), .val (.int M), .val (.int q1), .val (.int (1 : Int32)), .val (.int (1 : Int32)), .val (.ref w), .val (.ref w), .val (.ref u1), .val (.ref u2), .val (.int (Int32.ofNat tx.length)), .val (.ref T178.heap.size)] [(.int ((Int32.ofNat tx.length) + (1 : Int32))), (.ref T178.heap.size)])) _
          refine XS.bipush X181.here hx rfl (hb hby at_379) ?_
          exact kt
        rw [show Int32.ofNat tx.length + (1 : Int32) = Int32.ofNat (tx.length + 1) from own_add tx.length 1]
        have hc1 : tf (tx ++ [44] ++ [116] ++ [114] ++ [117] ++ [101]) (tx.length + 1) = 116 := by
          have q := tf_at tx [44, 116, 114, 117, 101] 1
          first | exact q | (simp only [List.append_assoc, List.cons_append, List.nil_append] at q ⊢; exact q)
        obtain ⟨_, _, ⟨T182, L182, k182, n182⟩, -, X182, ⟨Lc182, hQ182, l182, y182, z182⟩, st182⟩ := Jvm.LawKit.callS X181 hx (y := (⟨"com/example/tenantd/tenantd/server/JsonWriterEndArrayPinLaw", "at", "(Ljava/lang/String;IC)Z"⟩ : MethodName)) hown (mvT hZ (hw _ (List.mem_of_getElem? (i := 153) rfl))) (mvT hZ (hw _ (List.mem_of_getElem? (i := 154) rfl))) (mvT hZ (hw _ (List.mem_of_getElem? (i := 155) rfl))) (mvT hZ (hw _ (List.mem_of_getElem? (i := 156) rfl))) (by decide) (backOf (W := 0) (law_at l Z a0 hw [] T178.heap.size d179 (tx.length + 1) (tx ++ [44] ++ [116] ++ [114] ++ [117] ++ [101]).length (tf (tx ++ [44] ++ [116] ++ [114] ++ [117] ++ [101])) (116 : Int32) cs fv T179.heap n0 Zd S0 hcs Od S1 hfv St179 (by rw [hl2]; omega) (by rw [show tf (tx ++ [44] ++ [116] ++ [114] ++ [117] ++ [101]) (tx.length + 1) = 116 from hc1]; decide) (by decide)) hZ (hw _ (List.mem_of_getElem? (i := 156) rfl)) (hw _ (List.mem_of_getElem? (i := 155) rfl)) (by decide) (by decide)) (g := (mkF m 381 #[.val (.int p1), .val (.int p2), .val (.int p3), .val (.int M), .val (.int q1), .val (.int (1 : Int32)), .val (.int (1 : Int32)), .val (.ref w), .val (.ref w), .val (.ref u1), .val (.ref u2), .val (.int (Int32.ofNat tx.length)), .val (.ref T178.heap.size)] [(.int (116 : Int32)), (.int (Int32.ofNat (tx.length + 1))), (.ref T178.heap.size)])) rfl (by rw [hml]; rfl) (argsL := [(.ref T178.heap.size), (.int (Int32.ofNat (tx.length + 1))), (.int (116 : Int32))]) (rest := []) (lenOf pd_19 rfl) rfl (by show 2 * 0 + _ ≤ _; exact Nat.le_of_eq rfl) (hb hby at_381) (fun _ _ => ⟨rfl, e181, (by decide : 9 + 0 ≤ _), (by decide : 334 + 0 ≤ _)⟩)
        dsimp only [Pt.U, Pt.locs, Pt.cells, Pt.slots] at X182 l182 y182 z182 st182 hQ182
        subst l182 y182 z182
        obtain ⟨rfl, N182q, e182⟩ := hQ182
        have N182 := Fr.app N181 N182q
        refine EndsW.of st182 ?_
        refine EndsW.of (F' := T182.setTop (mkF m 395 #[.val (.int p1), .val (.int p2), .val (.int p3), .val (.int M), .val (.int q1), .val (.int (1 : Int32)), .val (.int (1 : Int32)), .val (.ref w), .val (.ref w), .val (.ref u1), .val (.ref u2), .val (.int (Int32.ofNat tx.length)), .val (.ref T178.heap.size)] [(.int (114 : Int32)), (.int ((Int32.ofNat tx.length) + (2 : Int32))), (.ref T178.heap.size)])) (fun _ kt => ?_) ?_
        · show Steps p.tables e below (T182.setTop (mkF m 384 #[.val (.int p1), .val (.int p2), .val (.int p3), .val (.int M), .val (.int q1), .val (.int (1 : Int32)), .val (.int (1 : Int32)), .val (.ref w), .val (.ref w), .val (.ref u1), .val (.ref u2), .val (.int (Int32.ofNat tx.length)), .val (.ref T178.heap.size)] [(.int (1 : Int32))])) _
          refine XS.ifNo X182.here hx rfl (hb hby at_384) rfl ((if0 _ _).trans (feq (by decide)).1) ?_
          show Steps p.tables e below (T182.setTop (mkF m 387 #[.val (.int p1), .val (.int p2), .val (.int p3), .val (.int M), .val (.int q1), .val (.int (1 : Int32)), .val (.int (1 : Int32)), .val (.ref w), .val (.ref w), .val (.ref u1), .val (.ref u2), .val (.int (Int32.ofNat tx.length)), .val (.ref T178.heap.size)] [])) _
          refine XS.aload X182.here hx rfl (hb hby at_387) rfl rfl ?_
          show Steps p.tables e below (T182.setTop (mkF m 389 #[.val (.int p1), .val (.int p2), .val (.int p3), .val (.int M), .val (.int q1), .val (.int (1 : Int32)), .val (.int (1 : Int32)), .val (.ref w), .val (.ref w), .val (.ref u1), .val (.ref u2), .val (.int (Int32.ofNat tx.length)), .val (.ref T178.heap.size)] [(.ref T178.heap.size)])) _
          refine XS.iload X182.here hx rfl (hb hby at_389) rfl ?_
          show Steps p.tables e below (T182.setTop (mkF m 391 #[.val (.int p1), .val (.int p2), .val (.int p3), .val (.int M), .val (.int q1), .val (.int (1 : Int32)), .val (.int (1 : Int32)), .val (.ref w), .val (.ref w), .val (.ref u1), .val (.ref u2), .val (.int (Int32.ofNat tx.length)), .val (.ref T178.heap.size)] [(.int (Int32.ofNat tx.length)), (.ref T178.heap.size)])) _
          refine XS.iconst X182.here hx rfl (hb hby at_391) ?_
          show Steps p.tables e below (T182.setTop (mkF m 392 #[.val (.int p1), .val (.int p2), .val (.int p3), .val (.int M), .val (.int q1), .val (.int (1 : Int32)), .val (.int (1 : Int32)), .val (.ref w), .val (.ref w), .val (.ref u1), .val (.ref u2), .val (.int (Int32.ofNat tx.length)), .val (.ref T178.heap.size)] [(.int (2 : Int32)), (.int (Int32.ofNat tx.length)), (.ref T178.heap.size)])) _
          refine XS.iadd X182.here hx rfl (hb hby at_392) rfl ?_
          show Steps p.tables e below (T182.setTop (mkF m 393 #[.val (.int p1), .val (.int p2), .val (.int p3), .val (.int M), .val (.int q1), .val (.int (1 : Int32)), .val (.int (1 : Int32)), .val (.ref w), .val (.ref w), .val (.ref u1), .val (.ref u2), .val (.int (Int32.ofNat tx.length)), .val (.ref T178.heap.size)] [(.int ((Int32.ofNat tx.length) + (2 : Int32))), (.ref T178.heap.size)])) _
          refine XS.bipush X182.here hx rfl (hb hby at_393) ?_
          exact kt
        rw [show Int32.ofNat tx.length + (2 : Int32) = Int32.ofNat (tx.length + 2) from own_add tx.length 2]
        have hc2 : tf (tx ++ [44] ++ [116] ++ [114] ++ [117] ++ [101]) (tx.length + 2) = 114 := by
          have q := tf_at tx [44, 116, 114, 117, 101] 2
          first | exact q | (simp only [List.append_assoc, List.cons_append, List.nil_append] at q ⊢; exact q)
        obtain ⟨_, _, ⟨T183, L183, k183, n183⟩, -, X183, ⟨Lc183, hQ183, l183, y183, z183⟩, st183⟩ := Jvm.LawKit.callS X182 hx (y := (⟨"com/example/tenantd/tenantd/server/JsonWriterEndArrayPinLaw", "at", "(Ljava/lang/String;IC)Z"⟩ : MethodName)) hown (mvT hZ (hw _ (List.mem_of_getElem? (i := 153) rfl))) (mvT hZ (hw _ (List.mem_of_getElem? (i := 154) rfl))) (mvT hZ (hw _ (List.mem_of_getElem? (i := 155) rfl))) (mvT hZ (hw _ (List.mem_of_getElem? (i := 156) rfl))) (by decide) (backOf (W := 0) (law_at l Z a0 hw [] T178.heap.size d179 (tx.length + 2) (tx ++ [44] ++ [116] ++ [114] ++ [117] ++ [101]).length (tf (tx ++ [44] ++ [116] ++ [114] ++ [117] ++ [101])) (114 : Int32) cs fv T179.heap n0 Zd S0 hcs Od S1 hfv St179 (by rw [hl2]; omega) (by rw [show tf (tx ++ [44] ++ [116] ++ [114] ++ [117] ++ [101]) (tx.length + 2) = 114 from hc2]; decide) (by decide)) hZ (hw _ (List.mem_of_getElem? (i := 156) rfl)) (hw _ (List.mem_of_getElem? (i := 155) rfl)) (by decide) (by decide)) (g := (mkF m 395 #[.val (.int p1), .val (.int p2), .val (.int p3), .val (.int M), .val (.int q1), .val (.int (1 : Int32)), .val (.int (1 : Int32)), .val (.ref w), .val (.ref w), .val (.ref u1), .val (.ref u2), .val (.int (Int32.ofNat tx.length)), .val (.ref T178.heap.size)] [(.int (114 : Int32)), (.int (Int32.ofNat (tx.length + 2))), (.ref T178.heap.size)])) rfl (by rw [hml]; rfl) (argsL := [(.ref T178.heap.size), (.int (Int32.ofNat (tx.length + 2))), (.int (114 : Int32))]) (rest := []) (lenOf pd_19 rfl) rfl (by show 2 * 0 + _ ≤ _; exact Nat.le_of_eq rfl) (hb hby at_395) (fun _ _ => ⟨rfl, e182, (by decide : 9 + 0 ≤ _), (by decide : 334 + 0 ≤ _)⟩)
        dsimp only [Pt.U, Pt.locs, Pt.cells, Pt.slots] at X183 l183 y183 z183 st183 hQ183
        subst l183 y183 z183
        obtain ⟨rfl, N183q, e183⟩ := hQ183
        have N183 := Fr.app N182 N183q
        refine EndsW.of st183 ?_
        refine EndsW.of (F' := T183.setTop (mkF m 409 #[.val (.int p1), .val (.int p2), .val (.int p3), .val (.int M), .val (.int q1), .val (.int (1 : Int32)), .val (.int (1 : Int32)), .val (.ref w), .val (.ref w), .val (.ref u1), .val (.ref u2), .val (.int (Int32.ofNat tx.length)), .val (.ref T178.heap.size)] [(.int (117 : Int32)), (.int ((Int32.ofNat tx.length) + (3 : Int32))), (.ref T178.heap.size)])) (fun _ kt => ?_) ?_
        · show Steps p.tables e below (T183.setTop (mkF m 398 #[.val (.int p1), .val (.int p2), .val (.int p3), .val (.int M), .val (.int q1), .val (.int (1 : Int32)), .val (.int (1 : Int32)), .val (.ref w), .val (.ref w), .val (.ref u1), .val (.ref u2), .val (.int (Int32.ofNat tx.length)), .val (.ref T178.heap.size)] [(.int (1 : Int32))])) _
          refine XS.ifNo X183.here hx rfl (hb hby at_398) rfl ((if0 _ _).trans (feq (by decide)).1) ?_
          show Steps p.tables e below (T183.setTop (mkF m 401 #[.val (.int p1), .val (.int p2), .val (.int p3), .val (.int M), .val (.int q1), .val (.int (1 : Int32)), .val (.int (1 : Int32)), .val (.ref w), .val (.ref w), .val (.ref u1), .val (.ref u2), .val (.int (Int32.ofNat tx.length)), .val (.ref T178.heap.size)] [])) _
          refine XS.aload X183.here hx rfl (hb hby at_401) rfl rfl ?_
          show Steps p.tables e below (T183.setTop (mkF m 403 #[.val (.int p1), .val (.int p2), .val (.int p3), .val (.int M), .val (.int q1), .val (.int (1 : Int32)), .val (.int (1 : Int32)), .val (.ref w), .val (.ref w), .val (.ref u1), .val (.ref u2), .val (.int (Int32.ofNat tx.length)), .val (.ref T178.heap.size)] [(.ref T178.heap.size)])) _
          refine XS.iload X183.here hx rfl (hb hby at_403) rfl ?_
          show Steps p.tables e below (T183.setTop (mkF m 405 #[.val (.int p1), .val (.int p2), .val (.int p3), .val (.int M), .val (.int q1), .val (.int (1 : Int32)), .val (.int (1 : Int32)), .val (.ref w), .val (.ref w), .val (.ref u1), .val (.ref u2), .val (.int (Int32.ofNat tx.length)), .val (.ref T178.heap.size)] [(.int (Int32.ofNat tx.length)), (.ref T178.heap.size)])) _
          refine XS.iconst X183.here hx rfl (hb hby at_405) ?_
          show Steps p.tables e below (T183.setTop (mkF m 406 #[.val (.int p1), .val (.int p2), .val (.int p3), .val (.int M), .val (.int q1), .val (.int (1 : Int32)), .val (.int (1 : Int32)), .val (.ref w), .val (.ref w), .val (.ref u1), .val (.ref u2), .val (.int (Int32.ofNat tx.length)), .val (.ref T178.heap.size)] [(.int (3 : Int32)), (.int (Int32.ofNat tx.length)), (.ref T178.heap.size)])) _
          refine XS.iadd X183.here hx rfl (hb hby at_406) rfl ?_
          show Steps p.tables e below (T183.setTop (mkF m 407 #[.val (.int p1), .val (.int p2), .val (.int p3), .val (.int M), .val (.int q1), .val (.int (1 : Int32)), .val (.int (1 : Int32)), .val (.ref w), .val (.ref w), .val (.ref u1), .val (.ref u2), .val (.int (Int32.ofNat tx.length)), .val (.ref T178.heap.size)] [(.int ((Int32.ofNat tx.length) + (3 : Int32))), (.ref T178.heap.size)])) _
          refine XS.bipush X183.here hx rfl (hb hby at_407) ?_
          exact kt
        rw [show Int32.ofNat tx.length + (3 : Int32) = Int32.ofNat (tx.length + 3) from own_add tx.length 3]
        have hc3 : tf (tx ++ [44] ++ [116] ++ [114] ++ [117] ++ [101]) (tx.length + 3) = 117 := by
          have q := tf_at tx [44, 116, 114, 117, 101] 3
          first | exact q | (simp only [List.append_assoc, List.cons_append, List.nil_append] at q ⊢; exact q)
        obtain ⟨_, _, ⟨T184, L184, k184, n184⟩, -, X184, ⟨Lc184, hQ184, l184, y184, z184⟩, st184⟩ := Jvm.LawKit.callS X183 hx (y := (⟨"com/example/tenantd/tenantd/server/JsonWriterEndArrayPinLaw", "at", "(Ljava/lang/String;IC)Z"⟩ : MethodName)) hown (mvT hZ (hw _ (List.mem_of_getElem? (i := 153) rfl))) (mvT hZ (hw _ (List.mem_of_getElem? (i := 154) rfl))) (mvT hZ (hw _ (List.mem_of_getElem? (i := 155) rfl))) (mvT hZ (hw _ (List.mem_of_getElem? (i := 156) rfl))) (by decide) (backOf (W := 0) (law_at l Z a0 hw [] T178.heap.size d179 (tx.length + 3) (tx ++ [44] ++ [116] ++ [114] ++ [117] ++ [101]).length (tf (tx ++ [44] ++ [116] ++ [114] ++ [117] ++ [101])) (117 : Int32) cs fv T179.heap n0 Zd S0 hcs Od S1 hfv St179 (by rw [hl2]; omega) (by rw [show tf (tx ++ [44] ++ [116] ++ [114] ++ [117] ++ [101]) (tx.length + 3) = 117 from hc3]; decide) (by decide)) hZ (hw _ (List.mem_of_getElem? (i := 156) rfl)) (hw _ (List.mem_of_getElem? (i := 155) rfl)) (by decide) (by decide)) (g := (mkF m 409 #[.val (.int p1), .val (.int p2), .val (.int p3), .val (.int M), .val (.int q1), .val (.int (1 : Int32)), .val (.int (1 : Int32)), .val (.ref w), .val (.ref w), .val (.ref u1), .val (.ref u2), .val (.int (Int32.ofNat tx.length)), .val (.ref T178.heap.size)] [(.int (117 : Int32)), (.int (Int32.ofNat (tx.length + 3))), (.ref T178.heap.size)])) rfl (by rw [hml]; rfl) (argsL := [(.ref T178.heap.size), (.int (Int32.ofNat (tx.length + 3))), (.int (117 : Int32))]) (rest := []) (lenOf pd_19 rfl) rfl (by show 2 * 0 + _ ≤ _; exact Nat.le_of_eq rfl) (hb hby at_409) (fun _ _ => ⟨rfl, e183, (by decide : 9 + 0 ≤ _), (by decide : 334 + 0 ≤ _)⟩)
        dsimp only [Pt.U, Pt.locs, Pt.cells, Pt.slots] at X184 l184 y184 z184 st184 hQ184
        subst l184 y184 z184
        obtain ⟨rfl, N184q, e184⟩ := hQ184
        have N184 := Fr.app N183 N184q
        refine EndsW.of st184 ?_
        refine EndsW.of (F' := T184.setTop (mkF m 423 #[.val (.int p1), .val (.int p2), .val (.int p3), .val (.int M), .val (.int q1), .val (.int (1 : Int32)), .val (.int (1 : Int32)), .val (.ref w), .val (.ref w), .val (.ref u1), .val (.ref u2), .val (.int (Int32.ofNat tx.length)), .val (.ref T178.heap.size)] [(.int (101 : Int32)), (.int ((Int32.ofNat tx.length) + (4 : Int32))), (.ref T178.heap.size)])) (fun _ kt => ?_) ?_
        · show Steps p.tables e below (T184.setTop (mkF m 412 #[.val (.int p1), .val (.int p2), .val (.int p3), .val (.int M), .val (.int q1), .val (.int (1 : Int32)), .val (.int (1 : Int32)), .val (.ref w), .val (.ref w), .val (.ref u1), .val (.ref u2), .val (.int (Int32.ofNat tx.length)), .val (.ref T178.heap.size)] [(.int (1 : Int32))])) _
          refine XS.ifNo X184.here hx rfl (hb hby at_412) rfl ((if0 _ _).trans (feq (by decide)).1) ?_
          show Steps p.tables e below (T184.setTop (mkF m 415 #[.val (.int p1), .val (.int p2), .val (.int p3), .val (.int M), .val (.int q1), .val (.int (1 : Int32)), .val (.int (1 : Int32)), .val (.ref w), .val (.ref w), .val (.ref u1), .val (.ref u2), .val (.int (Int32.ofNat tx.length)), .val (.ref T178.heap.size)] [])) _
          refine XS.aload X184.here hx rfl (hb hby at_415) rfl rfl ?_
          show Steps p.tables e below (T184.setTop (mkF m 417 #[.val (.int p1), .val (.int p2), .val (.int p3), .val (.int M), .val (.int q1), .val (.int (1 : Int32)), .val (.int (1 : Int32)), .val (.ref w), .val (.ref w), .val (.ref u1), .val (.ref u2), .val (.int (Int32.ofNat tx.length)), .val (.ref T178.heap.size)] [(.ref T178.heap.size)])) _
          refine XS.iload X184.here hx rfl (hb hby at_417) rfl ?_
          show Steps p.tables e below (T184.setTop (mkF m 419 #[.val (.int p1), .val (.int p2), .val (.int p3), .val (.int M), .val (.int q1), .val (.int (1 : Int32)), .val (.int (1 : Int32)), .val (.ref w), .val (.ref w), .val (.ref u1), .val (.ref u2), .val (.int (Int32.ofNat tx.length)), .val (.ref T178.heap.size)] [(.int (Int32.ofNat tx.length)), (.ref T178.heap.size)])) _
          refine XS.iconst X184.here hx rfl (hb hby at_419) ?_
          show Steps p.tables e below (T184.setTop (mkF m 420 #[.val (.int p1), .val (.int p2), .val (.int p3), .val (.int M), .val (.int q1), .val (.int (1 : Int32)), .val (.int (1 : Int32)), .val (.ref w), .val (.ref w), .val (.ref u1), .val (.ref u2), .val (.int (Int32.ofNat tx.length)), .val (.ref T178.heap.size)] [(.int (4 : Int32)), (.int (Int32.ofNat tx.length)), (.ref T178.heap.size)])) _
          refine XS.iadd X184.here hx rfl (hb hby at_420) rfl ?_
          show Steps p.tables e below (T184.setTop (mkF m 421 #[.val (.int p1), .val (.int p2), .val (.int p3), .val (.int M), .val (.int q1), .val (.int (1 : Int32)), .val (.int (1 : Int32)), .val (.ref w), .val (.ref w), .val (.ref u1), .val (.ref u2), .val (.int (Int32.ofNat tx.length)), .val (.ref T178.heap.size)] [(.int ((Int32.ofNat tx.length) + (4 : Int32))), (.ref T178.heap.size)])) _
          refine XS.bipush X184.here hx rfl (hb hby at_421) ?_
          exact kt
        rw [show Int32.ofNat tx.length + (4 : Int32) = Int32.ofNat (tx.length + 4) from own_add tx.length 4]
        have hc4 : tf (tx ++ [44] ++ [116] ++ [114] ++ [117] ++ [101]) (tx.length + 4) = 101 := by
          have q := tf_at tx [44, 116, 114, 117, 101] 4
          first | exact q | (simp only [List.append_assoc, List.cons_append, List.nil_append] at q ⊢; exact q)
        obtain ⟨_, _, ⟨T185, L185, k185, n185⟩, -, X185, ⟨Lc185, hQ185, l185, y185, z185⟩, st185⟩ := Jvm.LawKit.callS X184 hx (y := (⟨"com/example/tenantd/tenantd/server/JsonWriterEndArrayPinLaw", "at", "(Ljava/lang/String;IC)Z"⟩ : MethodName)) hown (mvT hZ (hw _ (List.mem_of_getElem? (i := 153) rfl))) (mvT hZ (hw _ (List.mem_of_getElem? (i := 154) rfl))) (mvT hZ (hw _ (List.mem_of_getElem? (i := 155) rfl))) (mvT hZ (hw _ (List.mem_of_getElem? (i := 156) rfl))) (by decide) (backOf (W := 0) (law_at l Z a0 hw [] T178.heap.size d179 (tx.length + 4) (tx ++ [44] ++ [116] ++ [114] ++ [117] ++ [101]).length (tf (tx ++ [44] ++ [116] ++ [114] ++ [117] ++ [101])) (101 : Int32) cs fv T179.heap n0 Zd S0 hcs Od S1 hfv St179 (by rw [hl2]; omega) (by rw [show tf (tx ++ [44] ++ [116] ++ [114] ++ [117] ++ [101]) (tx.length + 4) = 101 from hc4]; decide) (by decide)) hZ (hw _ (List.mem_of_getElem? (i := 156) rfl)) (hw _ (List.mem_of_getElem? (i := 155) rfl)) (by decide) (by decide)) (g := (mkF m 423 #[.val (.int p1), .val (.int p2), .val (.int p3), .val (.int M), .val (.int q1), .val (.int (1 : Int32)), .val (.int (1 : Int32)), .val (.ref w), .val (.ref w), .val (.ref u1), .val (.ref u2), .val (.int (Int32.ofNat tx.length)), .val (.ref T178.heap.size)] [(.int (101 : Int32)), (.int (Int32.ofNat (tx.length + 4))), (.ref T178.heap.size)])) rfl (by rw [hml]; rfl) (argsL := [(.ref T178.heap.size), (.int (Int32.ofNat (tx.length + 4))), (.int (101 : Int32))]) (rest := []) (lenOf pd_19 rfl) rfl (by show 2 * 0 + _ ≤ _; exact Nat.le_of_eq rfl) (hb hby at_423) (fun _ _ => ⟨rfl, e184, (by decide : 9 + 0 ≤ _), (by decide : 334 + 0 ≤ _)⟩)
        dsimp only [Pt.U, Pt.locs, Pt.cells, Pt.slots] at X185 l185 y185 z185 st185 hQ185
        subst l185 y185 z185
        obtain ⟨rfl, N185q, e185⟩ := hQ185
        have N185 := Fr.app N184 N185q
        refine EndsW.of st185 ?_
        refine EndsW.of (F' := T185.setTop (mkF m 434 #[.val (.int p1), .val (.int p2), .val (.int p3), .val (.int M), .val (.int q1), .val (.int (1 : Int32)), .val (.int (1 : Int32)), .val (.ref w), .val (.ref w), .val (.ref u1), .val (.ref u2), .val (.int (Int32.ofNat tx.length)), .val (.ref T178.heap.size)] [(.int (1 : Int32))])) (fun _ kt => ?_) ?_
        · show Steps p.tables e below (T185.setTop (mkF m 426 #[.val (.int p1), .val (.int p2), .val (.int p3), .val (.int M), .val (.int q1), .val (.int (1 : Int32)), .val (.int (1 : Int32)), .val (.ref w), .val (.ref w), .val (.ref u1), .val (.ref u2), .val (.int (Int32.ofNat tx.length)), .val (.ref T178.heap.size)] [(.int (1 : Int32))])) _
          refine XS.ifNo X185.here hx rfl (hb hby at_426) rfl ((if0 _ _).trans (feq (by decide)).1) ?_
          show Steps p.tables e below (T185.setTop (mkF m 429 #[.val (.int p1), .val (.int p2), .val (.int p3), .val (.int M), .val (.int q1), .val (.int (1 : Int32)), .val (.int (1 : Int32)), .val (.ref w), .val (.ref w), .val (.ref u1), .val (.ref u2), .val (.int (Int32.ofNat tx.length)), .val (.ref T178.heap.size)] [])) _
          refine XS.iconst X185.here hx rfl (hb hby at_429) ?_
          show Steps p.tables e below (T185.setTop (mkF m 430 #[.val (.int p1), .val (.int p2), .val (.int p3), .val (.int M), .val (.int q1), .val (.int (1 : Int32)), .val (.int (1 : Int32)), .val (.ref w), .val (.ref w), .val (.ref u1), .val (.ref u2), .val (.int (Int32.ofNat tx.length)), .val (.ref T178.heap.size)] [(.int (1 : Int32))])) _
          refine XS.goto X185.here hx rfl (pc0 := 430) (pc' := 434) rfl (hb hby at_430) (by decide) (by decide) ?_
          exact kt
        obtain ⟨fs, hr, hrun, hended, hEW⟩ := X185.leaveW hS (by rw [e185]; exact hkz) (v := some (.int (1 : Int32))) (fun h => by rw [Bd.returns] at h; cases h)
        exact ⟨_, _, retN X185 hx (t := .boolean) Bd.returns (by simp) (hb hby at_434) hr, hrun, hended, _, _, rfl, ⟨rfl, N185⟩, hEW.1, hEW.2.1, hEW.2.2.1, hEW.2.2.2.mono (by decide) (by decide)⟩
    · refine EndsW.of (F' := T166.setTop (mkF m 291 #[.val (.int p1), .val (.int p2), .val (.int p3), .val (.int M), .val (.int q1), .val (.int q2), .val (.int (2 : Int32)), .val (.ref w), .val (.ref w), .val (.ref u1), .val (.ref u2), .val (.int (Int32.ofNat tx.length)), .unset] [(.ref w)])) (fun _ kt => ?_) ?_
      · show Steps p.tables e below (T166.setTop (mkF m 266 #[.val (.int p1), .val (.int p2), .val (.int p3), .val (.int M), .val (.int q1), .val (.int q2), .val (.int (2 : Int32)), .val (.ref w), .val (.ref w), .val (.ref u1), .val (.ref u2), .val (.int (Int32.ofNat tx.length)), .unset] [])) _
        refine XS.iload X166.here hx rfl (hb hby at_266) rfl ?_
        show Steps p.tables e below (T166.setTop (mkF m 268 #[.val (.int p1), .val (.int p2), .val (.int p3), .val (.int M), .val (.int q1), .val (.int q2), .val (.int (2 : Int32)), .val (.ref w), .val (.ref w), .val (.ref u1), .val (.ref u2), .val (.int (Int32.ofNat tx.length)), .unset] [(.int (2 : Int32))])) _
        refine XS.iconst X166.here hx rfl (hb hby at_268) ?_
        show Steps p.tables e below (T166.setTop (mkF m 269 #[.val (.int p1), .val (.int p2), .val (.int p3), .val (.int M), .val (.int q1), .val (.int q2), .val (.int (2 : Int32)), .val (.ref w), .val (.ref w), .val (.ref u1), .val (.ref u2), .val (.int (Int32.ofNat tx.length)), .unset] [(.int (1 : Int32)), (.int (2 : Int32))])) _
        refine XS.icmpYes X166.here hx rfl (pc0 := 269) (pc' := 283) rfl (hb hby at_269) rfl (feq (by decide)).2 (by decide) (by decide) ?_
        show Steps p.tables e below (T166.setTop (mkF m 283 #[.val (.int p1), .val (.int p2), .val (.int p3), .val (.int M), .val (.int q1), .val (.int q2), .val (.int (2 : Int32)), .val (.ref w), .val (.ref w), .val (.ref u1), .val (.ref u2), .val (.int (Int32.ofNat tx.length)), .unset] [])) _
        refine XS.iload X166.here hx rfl (hb hby at_283) rfl ?_
        show Steps p.tables e below (T166.setTop (mkF m 285 #[.val (.int p1), .val (.int p2), .val (.int p3), .val (.int M), .val (.int q1), .val (.int q2), .val (.int (2 : Int32)), .val (.ref w), .val (.ref w), .val (.ref u1), .val (.ref u2), .val (.int (Int32.ofNat tx.length)), .unset] [(.int (2 : Int32))])) _
        refine XS.iconst X166.here hx rfl (hb hby at_285) ?_
        show Steps p.tables e below (T166.setTop (mkF m 286 #[.val (.int p1), .val (.int p2), .val (.int p3), .val (.int M), .val (.int q1), .val (.int q2), .val (.int (2 : Int32)), .val (.ref w), .val (.ref w), .val (.ref u1), .val (.ref u2), .val (.int (Int32.ofNat tx.length)), .unset] [(.int (2 : Int32)), (.int (2 : Int32))])) _
        refine XS.icmpNo X166.here hx rfl (hb hby at_286) rfl (teq rfl).2 ?_
        show Steps p.tables e below (T166.setTop (mkF m 289 #[.val (.int p1), .val (.int p2), .val (.int p3), .val (.int M), .val (.int q1), .val (.int q2), .val (.int (2 : Int32)), .val (.ref w), .val (.ref w), .val (.ref u1), .val (.ref u2), .val (.int (Int32.ofNat tx.length)), .unset] [])) _
        refine XS.aload X166.here hx rfl (hb hby at_289) rfl rfl ?_
        exact kt
      obtain ⟨cq186, kq186, q186a, q186b, q186c⟩ := isOf hZ e166 Jb.1
      obtain ⟨_, _, ⟨T186, L186, k186, n186⟩, -, X186, ⟨Lc186, hQ186, l186, y186, z186⟩, st186⟩ := X166.virtualBack hx (y := (⟨"com/example/tenantd/tenantd/server/JsonWriter", "array", "()Lcom/example/tenantd/tenantd/server/JsonWriter;"⟩ : MethodName)) (z := (⟨"com/example/tenantd/tenantd/server/JsonWriter", "array", "()Lcom/example/tenantd/tenantd/server/JsonWriter;"⟩ : MethodName)) hown (mvT hZ (hw _ (List.mem_of_getElem? (i := 144) rfl))) (mvT hZ (hw _ (List.mem_of_getElem? (i := 145) rfl))) (notFace_of_selects (args := #[]) (mvT hZ (hw _ (List.mem_of_getElem? (i := 147) rfl)))) (mvT hZ (hw _ (List.mem_of_getElem? (i := 147) rfl))) (mvT hZ (hw _ (List.mem_of_getElem? (i := 146) rfl))) (by decide) (backOf (W := 0) (jw_arr1 l Z a0 hw [] w a b tx cs hB n0 Zb S0 hcs Ob Jb (by omega) g_w g_a g_b) hZ (hw _ (List.mem_of_getElem? (i := 148) rfl)) (hw _ (List.mem_of_getElem? (i := 3) rfl)) (by decide) (by decide)) q186a q186c (g := (mkF m 291 #[.val (.int p1), .val (.int p2), .val (.int p3), .val (.int M), .val (.int q1), .val (.int q2), .val (.int (2 : Int32)), .val (.ref w), .val (.ref w), .val (.ref u1), .val (.ref u2), .val (.int (Int32.ofNat tx.length)), .unset] [(.ref w)])) rfl (by rw [hml]; rfl) (Steps.refl _) (argsL := []) (rest := []) (lenOf pd_2 rfl) rfl (by show 2 * 0 + _ ≤ _; exact Nat.le_of_eq rfl) (hb hby at_291) (fun _ _ => ⟨rfl, e166, (by decide : 7 + 0 ≤ _), (by decide : 314 + 0 ≤ _)⟩)
      dsimp only [Pt.U, Pt.locs, Pt.cells, Pt.slots] at X186 l186 y186 z186 st186 hQ186
      subst l186 y186 z186
      obtain ⟨rfl, N186q, K186, J186⟩ := hQ186
      have N186 := Fr.app N166 N186q
      refine EndsW.st st186 ?_
      have Zc : n0 ≤ T186.heap.size := Nat.le_trans Zb K186.1
      have Oc := Ob.keep K186 (allS g_w (allS g_a (allS g_b all0)))
      have gk : hB.size ≤ T186.heap.size := K186.1
      refine EndsW.of (F' := T186.setTop (mkF m 312 #[.val (.int p1), .val (.int p2), .val (.int p3), .val (.int M), .val (.int q1), .val (.int q2), .val (.int (2 : Int32)), .val (.ref w), .val (.ref w), .val (.ref u1), .val (.ref u2), .val (.int (Int32.ofNat tx.length)), .unset] [(.ref w)])) (fun _ kt => ?_) ?_
      · show Steps p.tables e below (T186.setTop (mkF m 294 #[.val (.int p1), .val (.int p2), .val (.int p3), .val (.int M), .val (.int q1), .val (.int q2), .val (.int (2 : Int32)), .val (.ref w), .val (.ref w), .val (.ref u1), .val (.ref u2), .val (.int (Int32.ofNat tx.length)), .unset] [(.ref w)])) _
        refine XS.pop X186.here hx rfl (hb hby at_294) rfl rfl ?_
        show Steps p.tables e below (T186.setTop (mkF m 295 #[.val (.int p1), .val (.int p2), .val (.int p3), .val (.int M), .val (.int q1), .val (.int q2), .val (.int (2 : Int32)), .val (.ref w), .val (.ref w), .val (.ref u1), .val (.ref u2), .val (.int (Int32.ofNat tx.length)), .unset] [])) _
        refine XS.goto X186.here hx rfl (pc0 := 295) (pc' := 310) rfl (hb hby at_295) (by decide) (by decide) ?_
        show Steps p.tables e below (T186.setTop (mkF m 310 #[.val (.int p1), .val (.int p2), .val (.int p3), .val (.int M), .val (.int q1), .val (.int q2), .val (.int (2 : Int32)), .val (.ref w), .val (.ref w), .val (.ref u1), .val (.ref u2), .val (.int (Int32.ofNat tx.length)), .unset] [])) _
        refine XS.aload X186.here hx rfl (hb hby at_310) rfl rfl ?_
        exact kt
      obtain ⟨cq187, kq187, q187a, q187b, q187c⟩ := isOf hZ rfl J186.1
      obtain ⟨_, _, ⟨T187, L187, k187, n187⟩, -, X187, ⟨Lc187, hQ187, l187, y187, z187⟩, st187⟩ := X186.virtualBack hx (y := (⟨"com/example/tenantd/tenantd/server/JsonWriter", "toString", "()Ljava/lang/String;"⟩ : MethodName)) (z := (⟨"com/example/tenantd/tenantd/server/JsonWriter", "toString", "()Ljava/lang/String;"⟩ : MethodName)) hown (mvT hZ (hw _ (List.mem_of_getElem? (i := 65) rfl))) (mvT hZ (hw _ (List.mem_of_getElem? (i := 66) rfl))) (notFace_of_selects (args := #[]) (mvT hZ (hw _ (List.mem_of_getElem? (i := 68) rfl)))) (mvT hZ (hw _ (List.mem_of_getElem? (i := 68) rfl))) (mvT hZ (hw _ (List.mem_of_getElem? (i := 67) rfl))) (by decide) (backOf (W := 0) (jw_str l Z a0 hw [] w a b (tx ++ [44] ++ [91]) cs (0 : Int32) T186.heap n0 Zc S0 hcs Oc J186 (by simp only [List.length_append, List.length_cons, List.length_nil]; omega)) hZ (hw _ (List.mem_of_getElem? (i := 69) rfl)) (hw _ (List.mem_of_getElem? (i := 3) rfl)) (by decide) (by decide)) q187a q187c (g := (mkF m 312 #[.val (.int p1), .val (.int p2), .val (.int p3), .val (.int M), .val (.int q1), .val (.int q2), .val (.int (2 : Int32)), .val (.ref w), .val (.ref w), .val (.ref u1), .val (.ref u2), .val (.int (Int32.ofNat tx.length)), .unset] [(.ref w)])) rfl (by rw [hml]; rfl) (Steps.refl _) (argsL := []) (rest := []) (lenOf pd_7 rfl) rfl (by show 2 * 0 + _ ≤ _; exact Nat.le_of_eq rfl) (hb hby at_312) (fun _ _ => ⟨rfl, rfl, (by decide : 7 + 2 ≤ _), (by decide : 314 + 20 ≤ _)⟩)
      dsimp only [Pt.U, Pt.locs, Pt.cells, Pt.slots] at X187 l187 y187 z187 st187 hQ187
      subst l187 y187 z187
      obtain ⟨d187, rfl, N187q, K187, St187, gd187⟩ := hQ187
      have N187 := Fr.app N186 N187q
      refine EndsW.st st187 ?_
      have Zd : n0 ≤ T187.heap.size := Nat.le_trans Zc K187.1
      have Od := Oc.keep K187 all0
      have hkz : k1 ≤ T187.heap.size := Nat.le_trans hk1 (Nat.le_trans gk K187.1)
      refine EndsW.of (F' := T187.setTop (mkF m 544 #[.val (.int p1), .val (.int p2), .val (.int p3), .val (.int M), .val (.int q1), .val (.int q2), .val (.int (2 : Int32)), .val (.ref w), .val (.ref w), .val (.ref u1), .val (.ref u2), .val (.int (Int32.ofNat tx.length)), .val (.ref T186.heap.size)] [(.ref T186.heap.size)])) (fun _ kt => ?_) ?_
      · show Steps p.tables e below (T187.setTop (mkF m 315 #[.val (.int p1), .val (.int p2), .val (.int p3), .val (.int M), .val (.int q1), .val (.int q2), .val (.int (2 : Int32)), .val (.ref w), .val (.ref w), .val (.ref u1), .val (.ref u2), .val (.int (Int32.ofNat tx.length)), .unset] [(.ref T186.heap.size)])) _
        refine XS.astore X187.here hx rfl (hb hby at_315) rfl rfl (l' := #[.val (.int p1), .val (.int p2), .val (.int p3), .val (.int M), .val (.int q1), .val (.int q2), .val (.int (2 : Int32)), .val (.ref w), .val (.ref w), .val (.ref u1), .val (.ref u2), .val (.int (Int32.ofNat tx.length)), .val (.ref T186.heap.size)]) rfl ?_
        show Steps p.tables e below (T187.setTop (mkF m 317 #[.val (.int p1), .val (.int p2), .val (.int p3), .val (.int M), .val (.int q1), .val (.int q2), .val (.int (2 : Int32)), .val (.ref w), .val (.ref w), .val (.ref u1), .val (.ref u2), .val (.int (Int32.ofNat tx.length)), .val (.ref T186.heap.size)] [])) _
        refine XS.iload X187.here hx rfl (hb hby at_317) rfl ?_
        show Steps p.tables e below (T187.setTop (mkF m 319 #[.val (.int p1), .val (.int p2), .val (.int p3), .val (.int M), .val (.int q1), .val (.int q2), .val (.int (2 : Int32)), .val (.ref w), .val (.ref w), .val (.ref u1), .val (.ref u2), .val (.int (Int32.ofNat tx.length)), .val (.ref T186.heap.size)] [(.int (2 : Int32))])) _
        refine XS.ifYes X187.here hx rfl (pc0 := 319) (pc' := 338) rfl (hb hby at_319) rfl ((if0 _ _).trans (feq (by decide)).2) (by decide) (by decide) ?_
        show Steps p.tables e below (T187.setTop (mkF m 338 #[.val (.int p1), .val (.int p2), .val (.int p3), .val (.int M), .val (.int q1), .val (.int q2), .val (.int (2 : Int32)), .val (.ref w), .val (.ref w), .val (.ref u1), .val (.ref u2), .val (.int (Int32.ofNat tx.length)), .val (.ref T186.heap.size)] [])) _
        refine XS.iload X187.here hx rfl (hb hby at_338) rfl ?_
        show Steps p.tables e below (T187.setTop (mkF m 340 #[.val (.int p1), .val (.int p2), .val (.int p3), .val (.int M), .val (.int q1), .val (.int q2), .val (.int (2 : Int32)), .val (.ref w), .val (.ref w), .val (.ref u1), .val (.ref u2), .val (.int (Int32.ofNat tx.length)), .val (.ref T186.heap.size)] [(.int (2 : Int32))])) _
        refine XS.iconst X187.here hx rfl (hb hby at_340) ?_
        show Steps p.tables e below (T187.setTop (mkF m 341 #[.val (.int p1), .val (.int p2), .val (.int p3), .val (.int M), .val (.int q1), .val (.int q2), .val (.int (2 : Int32)), .val (.ref w), .val (.ref w), .val (.ref u1), .val (.ref u2), .val (.int (Int32.ofNat tx.length)), .val (.ref T186.heap.size)] [(.int (1 : Int32)), (.int (2 : Int32))])) _
        refine XS.icmpYes X187.here hx rfl (pc0 := 341) (pc' := 536) rfl (hb hby at_341) rfl (feq (by decide)).2 (by decide) (by decide) ?_
        show Steps p.tables e below (T187.setTop (mkF m 536 #[.val (.int p1), .val (.int p2), .val (.int p3), .val (.int M), .val (.int q1), .val (.int q2), .val (.int (2 : Int32)), .val (.ref w), .val (.ref w), .val (.ref u1), .val (.ref u2), .val (.int (Int32.ofNat tx.length)), .val (.ref T186.heap.size)] [])) _
        refine XS.iload X187.here hx rfl (hb hby at_536) rfl ?_
        show Steps p.tables e below (T187.setTop (mkF m 538 #[.val (.int p1), .val (.int p2), .val (.int p3), .val (.int M), .val (.int q1), .val (.int q2), .val (.int (2 : Int32)), .val (.ref w), .val (.ref w), .val (.ref u1), .val (.ref u2), .val (.int (Int32.ofNat tx.length)), .val (.ref T186.heap.size)] [(.int (2 : Int32))])) _
        refine XS.iconst X187.here hx rfl (hb hby at_538) ?_
        show Steps p.tables e below (T187.setTop (mkF m 539 #[.val (.int p1), .val (.int p2), .val (.int p3), .val (.int M), .val (.int q1), .val (.int q2), .val (.int (2 : Int32)), .val (.ref w), .val (.ref w), .val (.ref u1), .val (.ref u2), .val (.int (Int32.ofNat tx.length)), .val (.ref T186.heap.size)] [(.int (2 : Int32)), (.int (2 : Int32))])) _
        refine XS.icmpNo X187.here hx rfl (hb hby at_539) rfl (teq rfl).2 ?_
        show Steps p.tables e below (T187.setTop (mkF m 542 #[.val (.int p1), .val (.int p2), .val (.int p3), .val (.int M), .val (.int q1), .val (.int q2), .val (.int (2 : Int32)), .val (.ref w), .val (.ref w), .val (.ref u1), .val (.ref u2), .val (.int (Int32.ofNat tx.length)), .val (.ref T186.heap.size)] [])) _
        refine XS.aload X187.here hx rfl (hb hby at_542) rfl rfl ?_
        exact kt
      obtain ⟨cq188, kq188, q188a, q188b, q188c⟩ := isOf hZ rfl St187.1
      obtain ⟨_, _, ⟨T188, L188, k188, n188⟩, -, X188, ⟨Lc188, hQ188, l188, y188, z188⟩, st188⟩ := X187.virtualBack hx (y := (⟨"java/lang/String", "length", "()I"⟩ : MethodName)) (z := (⟨"java/lang/String", "length", "()I"⟩ : MethodName)) hown (mvT hZ (hw _ (List.mem_of_getElem? (i := 134) rfl))) (mvT hZ (hw _ (List.mem_of_getElem? (i := 135) rfl))) (notFace_of_selects (args := #[]) (mvT hZ (hw _ (List.mem_of_getElem? (i := 137) rfl)))) (mvT hZ (hw _ (List.mem_of_getElem? (i := 137) rfl))) (mvT hZ (hw _ (List.mem_of_getElem? (i := 136) rfl))) (by decide) (backOf (W := 0) (str_length l Z a0 hw [] T186.heap.size d187 (tx ++ [44] ++ [91]).length (tf (tx ++ [44] ++ [91])) cs T187.heap n0 Zd S0 hcs Od St187) hZ (hw _ (List.mem_of_getElem? (i := 138) rfl)) (hw _ (List.mem_of_getElem? (i := 24) rfl)) (by decide) (by decide)) q188a q188c (g := (mkF m 544 #[.val (.int p1), .val (.int p2), .val (.int p3), .val (.int M), .val (.int q1), .val (.int q2), .val (.int (2 : Int32)), .val (.ref w), .val (.ref w), .val (.ref u1), .val (.ref u2), .val (.int (Int32.ofNat tx.length)), .val (.ref T186.heap.size)] [(.ref T186.heap.size)])) rfl (by rw [hml]; rfl) (Steps.refl _) (argsL := []) (rest := []) (lenOf pd_11 rfl) rfl (by show 2 * 0 + _ ≤ _; exact Nat.le_of_eq rfl) (hb hby at_544) (fun _ _ => ⟨rfl, rfl, (by decide : 9 + 0 ≤ _), (by decide : 334 + 0 ≤ _)⟩)
      dsimp only [Pt.U, Pt.locs, Pt.cells, Pt.slots] at X188 l188 y188 z188 st188 hQ188
      subst l188 y188 z188
      obtain ⟨rfl, N188q, e188⟩ := hQ188
      have N188 := Fr.app N187 N188q
      refine EndsW.st st188 ?_
      have hl2 : List.length (tx ++ [44] ++ [91]) = tx.length + 2 := by simp
      refine EndsW.of (F' := T188.setTop (mkF m 560 #[.val (.int p1), .val (.int p2), .val (.int p3), .val (.int M), .val (.int q1), .val (.int q2), .val (.int (2 : Int32)), .val (.ref w), .val (.ref w), .val (.ref u1), .val (.ref u2), .val (.int (Int32.ofNat tx.length)), .val (.ref T186.heap.size)] [(.int (44 : Int32)), (.int (Int32.ofNat tx.length)), (.ref T186.heap.size)])) (fun _ kt => ?_) ?_
      · show Steps p.tables e below (T188.setTop (mkF m 547 #[.val (.int p1), .val (.int p2), .val (.int p3), .val (.int M), .val (.int q1), .val (.int q2), .val (.int (2 : Int32)), .val (.ref w), .val (.ref w), .val (.ref u1), .val (.ref u2), .val (.int (Int32.ofNat tx.length)), .val (.ref T186.heap.size)] [(.int (Int32.ofNat (tx ++ [44] ++ [91]).length))])) _
        refine XS.iload X188.here hx rfl (hb hby at_547) rfl ?_
        show Steps p.tables e below (T188.setTop (mkF m 549 #[.val (.int p1), .val (.int p2), .val (.int p3), .val (.int M), .val (.int q1), .val (.int q2), .val (.int (2 : Int32)), .val (.ref w), .val (.ref w), .val (.ref u1), .val (.ref u2), .val (.int (Int32.ofNat tx.length)), .val (.ref T186.heap.size)] [(.int (Int32.ofNat tx.length)), (.int (Int32.ofNat (tx ++ [44] ++ [91]).length))])) _
        refine XS.iconst X188.here hx rfl (hb hby at_549) ?_
        show Steps p.tables e below (T188.setTop (mkF m 550 #[.val (.int p1), .val (.int p2), .val (.int p3), .val (.int M), .val (.int q1), .val (.int q2), .val (.int (2 : Int32)), .val (.ref w), .val (.ref w), .val (.ref u1), .val (.ref u2), .val (.int (Int32.ofNat tx.length)), .val (.ref T186.heap.size)] [(.int (2 : Int32)), (.int (Int32.ofNat tx.length)), (.int (Int32.ofNat (tx ++ [44] ++ [91]).length))])) _
        refine XS.iadd X188.here hx rfl (hb hby at_550) rfl ?_
        show Steps p.tables e below (T188.setTop (mkF m 551 #[.val (.int p1), .val (.int p2), .val (.int p3), .val (.int M), .val (.int q1), .val (.int q2), .val (.int (2 : Int32)), .val (.ref w), .val (.ref w), .val (.ref u1), .val (.ref u2), .val (.int (Int32.ofNat tx.length)), .val (.ref T186.heap.size)] [(.int ((Int32.ofNat tx.length) + (2 : Int32))), (.int (Int32.ofNat (tx ++ [44] ++ [91]).length))])) _
        refine XS.icmpNo X188.here hx rfl (hb hby at_551) rfl (teq (by rw [hl2]; exact (own_add tx.length 2).symm)).2 ?_
        show Steps p.tables e below (T188.setTop (mkF m 554 #[.val (.int p1), .val (.int p2), .val (.int p3), .val (.int M), .val (.int q1), .val (.int q2), .val (.int (2 : Int32)), .val (.ref w), .val (.ref w), .val (.ref u1), .val (.ref u2), .val (.int (Int32.ofNat tx.length)), .val (.ref T186.heap.size)] [])) _
        refine XS.aload X188.here hx rfl (hb hby at_554) rfl rfl ?_
        show Steps p.tables e below (T188.setTop (mkF m 556 #[.val (.int p1), .val (.int p2), .val (.int p3), .val (.int M), .val (.int q1), .val (.int q2), .val (.int (2 : Int32)), .val (.ref w), .val (.ref w), .val (.ref u1), .val (.ref u2), .val (.int (Int32.ofNat tx.length)), .val (.ref T186.heap.size)] [(.ref T186.heap.size)])) _
        refine XS.iload X188.here hx rfl (hb hby at_556) rfl ?_
        show Steps p.tables e below (T188.setTop (mkF m 558 #[.val (.int p1), .val (.int p2), .val (.int p3), .val (.int M), .val (.int q1), .val (.int q2), .val (.int (2 : Int32)), .val (.ref w), .val (.ref w), .val (.ref u1), .val (.ref u2), .val (.int (Int32.ofNat tx.length)), .val (.ref T186.heap.size)] [(.int (Int32.ofNat tx.length)), (.ref T186.heap.size)])) _
        refine XS.bipush X188.here hx rfl (hb hby at_558) ?_
        exact kt
      have hc0 : tf (tx ++ [44] ++ [91]) (tx.length + 0) = 44 := by
        have q := tf_at tx [44, 91] 0
        first | exact q | (simp only [List.append_assoc, List.cons_append, List.nil_append] at q ⊢; exact q)
      obtain ⟨_, _, ⟨T189, L189, k189, n189⟩, -, X189, ⟨Lc189, hQ189, l189, y189, z189⟩, st189⟩ := Jvm.LawKit.callS X188 hx (y := (⟨"com/example/tenantd/tenantd/server/JsonWriterEndArrayPinLaw", "at", "(Ljava/lang/String;IC)Z"⟩ : MethodName)) hown (mvT hZ (hw _ (List.mem_of_getElem? (i := 153) rfl))) (mvT hZ (hw _ (List.mem_of_getElem? (i := 154) rfl))) (mvT hZ (hw _ (List.mem_of_getElem? (i := 155) rfl))) (mvT hZ (hw _ (List.mem_of_getElem? (i := 156) rfl))) (by decide) (backOf (W := 0) (law_at l Z a0 hw [] T186.heap.size d187 tx.length (tx ++ [44] ++ [91]).length (tf (tx ++ [44] ++ [91])) (44 : Int32) cs fv T187.heap n0 Zd S0 hcs Od S1 hfv St187 (by rw [hl2]; omega) (by rw [show tf (tx ++ [44] ++ [91]) tx.length = 44 from hc0]; decide) (by decide)) hZ (hw _ (List.mem_of_getElem? (i := 156) rfl)) (hw _ (List.mem_of_getElem? (i := 155) rfl)) (by decide) (by decide)) (g := (mkF m 560 #[.val (.int p1), .val (.int p2), .val (.int p3), .val (.int M), .val (.int q1), .val (.int q2), .val (.int (2 : Int32)), .val (.ref w), .val (.ref w), .val (.ref u1), .val (.ref u2), .val (.int (Int32.ofNat tx.length)), .val (.ref T186.heap.size)] [(.int (44 : Int32)), (.int (Int32.ofNat tx.length)), (.ref T186.heap.size)])) rfl (by rw [hml]; rfl) (argsL := [(.ref T186.heap.size), (.int (Int32.ofNat tx.length)), (.int (44 : Int32))]) (rest := []) (lenOf pd_19 rfl) rfl (by show 2 * 0 + _ ≤ _; exact Nat.le_of_eq rfl) (hb hby at_560) (fun _ _ => ⟨rfl, e188, (by decide : 9 + 0 ≤ _), (by decide : 334 + 0 ≤ _)⟩)
      dsimp only [Pt.U, Pt.locs, Pt.cells, Pt.slots] at X189 l189 y189 z189 st189 hQ189
      subst l189 y189 z189
      obtain ⟨rfl, N189q, e189⟩ := hQ189
      have N189 := Fr.app N188 N189q
      refine EndsW.of st189 ?_
      refine EndsW.of (F' := T189.setTop (mkF m 574 #[.val (.int p1), .val (.int p2), .val (.int p3), .val (.int M), .val (.int q1), .val (.int q2), .val (.int (2 : Int32)), .val (.ref w), .val (.ref w), .val (.ref u1), .val (.ref u2), .val (.int (Int32.ofNat tx.length)), .val (.ref T186.heap.size)] [(.int (91 : Int32)), (.int ((Int32.ofNat tx.length) + (1 : Int32))), (.ref T186.heap.size)])) (fun _ kt => ?_) ?_
      · show Steps p.tables e below (T189.setTop (mkF m 563 #[.val (.int p1), .val (.int p2), .val (.int p3), .val (.int M), .val (.int q1), .val (.int q2), .val (.int (2 : Int32)), .val (.ref w), .val (.ref w), .val (.ref u1), .val (.ref u2), .val (.int (Int32.ofNat tx.length)), .val (.ref T186.heap.size)] [(.int (1 : Int32))])) _
        refine XS.ifNo X189.here hx rfl (hb hby at_563) rfl ((if0 _ _).trans (feq (by decide)).1) ?_
        show Steps p.tables e below (T189.setTop (mkF m 566 #[.val (.int p1), .val (.int p2), .val (.int p3), .val (.int M), .val (.int q1), .val (.int q2), .val (.int (2 : Int32)), .val (.ref w), .val (.ref w), .val (.ref u1), .val (.ref u2), .val (.int (Int32.ofNat tx.length)), .val (.ref T186.heap.size)] [])) _
        refine XS.aload X189.here hx rfl (hb hby at_566) rfl rfl ?_
        show Steps p.tables e below (T189.setTop (mkF m 568 #[.val (.int p1), .val (.int p2), .val (.int p3), .val (.int M), .val (.int q1), .val (.int q2), .val (.int (2 : Int32)), .val (.ref w), .val (.ref w), .val (.ref u1), .val (.ref u2), .val (.int (Int32.ofNat tx.length)), .val (.ref T186.heap.size)] [(.ref T186.heap.size)])) _
        refine XS.iload X189.here hx rfl (hb hby at_568) rfl ?_
        show Steps p.tables e below (T189.setTop (mkF m 570 #[.val (.int p1), .val (.int p2), .val (.int p3), .val (.int M), .val (.int q1), .val (.int q2), .val (.int (2 : Int32)), .val (.ref w), .val (.ref w), .val (.ref u1), .val (.ref u2), .val (.int (Int32.ofNat tx.length)), .val (.ref T186.heap.size)] [(.int (Int32.ofNat tx.length)), (.ref T186.heap.size)])) _
        refine XS.iconst X189.here hx rfl (hb hby at_570) ?_
        show Steps p.tables e below (T189.setTop (mkF m 571 #[.val (.int p1), .val (.int p2), .val (.int p3), .val (.int M), .val (.int q1), .val (.int q2), .val (.int (2 : Int32)), .val (.ref w), .val (.ref w), .val (.ref u1), .val (.ref u2), .val (.int (Int32.ofNat tx.length)), .val (.ref T186.heap.size)] [(.int (1 : Int32)), (.int (Int32.ofNat tx.length)), (.ref T186.heap.size)])) _
        refine XS.iadd X189.here hx rfl (hb hby at_571) rfl ?_
        show Steps p.tables e below (T189.setTop (mkF m 572 #[.val (.int p1), .val (.int p2), .val (.int p3), .val (.int M), .val (.int q1), .val (.int q2), .val (.int (2 : Int32)), .val (.ref w), .val (.ref w), .val (.ref u1), .val (.ref u2), .val (.int (Int32.ofNat tx.length)), .val (.ref T186.heap.size)] [(.int ((Int32.ofNat tx.length) + (1 : Int32))), (.ref T186.heap.size)])) _
        refine XS.bipush X189.here hx rfl (hb hby at_572) ?_
        exact kt
      rw [show Int32.ofNat tx.length + (1 : Int32) = Int32.ofNat (tx.length + 1) from own_add tx.length 1]
      have hc1 : tf (tx ++ [44] ++ [91]) (tx.length + 1) = 91 := by
        have q := tf_at tx [44, 91] 1
        first | exact q | (simp only [List.append_assoc, List.cons_append, List.nil_append] at q ⊢; exact q)
      obtain ⟨_, _, ⟨T190, L190, k190, n190⟩, -, X190, ⟨Lc190, hQ190, l190, y190, z190⟩, st190⟩ := Jvm.LawKit.callS X189 hx (y := (⟨"com/example/tenantd/tenantd/server/JsonWriterEndArrayPinLaw", "at", "(Ljava/lang/String;IC)Z"⟩ : MethodName)) hown (mvT hZ (hw _ (List.mem_of_getElem? (i := 153) rfl))) (mvT hZ (hw _ (List.mem_of_getElem? (i := 154) rfl))) (mvT hZ (hw _ (List.mem_of_getElem? (i := 155) rfl))) (mvT hZ (hw _ (List.mem_of_getElem? (i := 156) rfl))) (by decide) (backOf (W := 0) (law_at l Z a0 hw [] T186.heap.size d187 (tx.length + 1) (tx ++ [44] ++ [91]).length (tf (tx ++ [44] ++ [91])) (91 : Int32) cs fv T187.heap n0 Zd S0 hcs Od S1 hfv St187 (by rw [hl2]; omega) (by rw [show tf (tx ++ [44] ++ [91]) (tx.length + 1) = 91 from hc1]; decide) (by decide)) hZ (hw _ (List.mem_of_getElem? (i := 156) rfl)) (hw _ (List.mem_of_getElem? (i := 155) rfl)) (by decide) (by decide)) (g := (mkF m 574 #[.val (.int p1), .val (.int p2), .val (.int p3), .val (.int M), .val (.int q1), .val (.int q2), .val (.int (2 : Int32)), .val (.ref w), .val (.ref w), .val (.ref u1), .val (.ref u2), .val (.int (Int32.ofNat tx.length)), .val (.ref T186.heap.size)] [(.int (91 : Int32)), (.int (Int32.ofNat (tx.length + 1))), (.ref T186.heap.size)])) rfl (by rw [hml]; rfl) (argsL := [(.ref T186.heap.size), (.int (Int32.ofNat (tx.length + 1))), (.int (91 : Int32))]) (rest := []) (lenOf pd_19 rfl) rfl (by show 2 * 0 + _ ≤ _; exact Nat.le_of_eq rfl) (hb hby at_574) (fun _ _ => ⟨rfl, e189, (by decide : 9 + 0 ≤ _), (by decide : 334 + 0 ≤ _)⟩)
      dsimp only [Pt.U, Pt.locs, Pt.cells, Pt.slots] at X190 l190 y190 z190 st190 hQ190
      subst l190 y190 z190
      obtain ⟨rfl, N190q, e190⟩ := hQ190
      have N190 := Fr.app N189 N190q
      refine EndsW.of st190 ?_
      refine EndsW.of (F' := T190.setTop (mkF m 585 #[.val (.int p1), .val (.int p2), .val (.int p3), .val (.int M), .val (.int q1), .val (.int q2), .val (.int (2 : Int32)), .val (.ref w), .val (.ref w), .val (.ref u1), .val (.ref u2), .val (.int (Int32.ofNat tx.length)), .val (.ref T186.heap.size)] [(.int (1 : Int32))])) (fun _ kt => ?_) ?_
      · show Steps p.tables e below (T190.setTop (mkF m 577 #[.val (.int p1), .val (.int p2), .val (.int p3), .val (.int M), .val (.int q1), .val (.int q2), .val (.int (2 : Int32)), .val (.ref w), .val (.ref w), .val (.ref u1), .val (.ref u2), .val (.int (Int32.ofNat tx.length)), .val (.ref T186.heap.size)] [(.int (1 : Int32))])) _
        refine XS.ifNo X190.here hx rfl (hb hby at_577) rfl ((if0 _ _).trans (feq (by decide)).1) ?_
        show Steps p.tables e below (T190.setTop (mkF m 580 #[.val (.int p1), .val (.int p2), .val (.int p3), .val (.int M), .val (.int q1), .val (.int q2), .val (.int (2 : Int32)), .val (.ref w), .val (.ref w), .val (.ref u1), .val (.ref u2), .val (.int (Int32.ofNat tx.length)), .val (.ref T186.heap.size)] [])) _
        refine XS.iconst X190.here hx rfl (hb hby at_580) ?_
        show Steps p.tables e below (T190.setTop (mkF m 581 #[.val (.int p1), .val (.int p2), .val (.int p3), .val (.int M), .val (.int q1), .val (.int q2), .val (.int (2 : Int32)), .val (.ref w), .val (.ref w), .val (.ref u1), .val (.ref u2), .val (.int (Int32.ofNat tx.length)), .val (.ref T186.heap.size)] [(.int (1 : Int32))])) _
        refine XS.goto X190.here hx rfl (pc0 := 581) (pc' := 585) rfl (hb hby at_581) (by decide) (by decide) ?_
        exact kt
      obtain ⟨fs, hr, hrun, hended, hEW⟩ := X190.leaveW hS (by rw [e190]; exact hkz) (v := some (.int (1 : Int32))) (fun h => by rw [Bd.returns] at h; cases h)
      exact ⟨_, _, retN X190 hx (t := .boolean) Bd.returns (by simp) (hb hby at_585) hr, hrun, hended, _, _, rfl, ⟨rfl, N190⟩, hEW.1, hEW.2.1, hEW.2.2.1, hEW.2.2.2.mono (by decide) (by decide)⟩
    · refine EndsW.of (F' := T166.setTop (mkF m 306 #[.val (.int p1), .val (.int p2), .val (.int p3), .val (.int M), .val (.int q1), .val (.int q2), .val (.int (3 : Int32)), .val (.ref w), .val (.ref w), .val (.ref u1), .val (.ref u2), .val (.int (Int32.ofNat tx.length)), .unset] [(.ref w)])) (fun _ kt => ?_) ?_
      · show Steps p.tables e below (T166.setTop (mkF m 266 #[.val (.int p1), .val (.int p2), .val (.int p3), .val (.int M), .val (.int q1), .val (.int q2), .val (.int (3 : Int32)), .val (.ref w), .val (.ref w), .val (.ref u1), .val (.ref u2), .val (.int (Int32.ofNat tx.length)), .unset] [])) _
        refine XS.iload X166.here hx rfl (hb hby at_266) rfl ?_
        show Steps p.tables e below (T166.setTop (mkF m 268 #[.val (.int p1), .val (.int p2), .val (.int p3), .val (.int M), .val (.int q1), .val (.int q2), .val (.int (3 : Int32)), .val (.ref w), .val (.ref w), .val (.ref u1), .val (.ref u2), .val (.int (Int32.ofNat tx.length)), .unset] [(.int (3 : Int32))])) _
        refine XS.iconst X166.here hx rfl (hb hby at_268) ?_
        show Steps p.tables e below (T166.setTop (mkF m 269 #[.val (.int p1), .val (.int p2), .val (.int p3), .val (.int M), .val (.int q1), .val (.int q2), .val (.int (3 : Int32)), .val (.ref w), .val (.ref w), .val (.ref u1), .val (.ref u2), .val (.int (Int32.ofNat tx.length)), .unset] [(.int (1 : Int32)), (.int (3 : Int32))])) _
        refine XS.icmpYes X166.here hx rfl (pc0 := 269) (pc' := 283) rfl (hb hby at_269) rfl (feq (by decide)).2 (by decide) (by decide) ?_
        show Steps p.tables e below (T166.setTop (mkF m 283 #[.val (.int p1), .val (.int p2), .val (.int p3), .val (.int M), .val (.int q1), .val (.int q2), .val (.int (3 : Int32)), .val (.ref w), .val (.ref w), .val (.ref u1), .val (.ref u2), .val (.int (Int32.ofNat tx.length)), .unset] [])) _
        refine XS.iload X166.here hx rfl (hb hby at_283) rfl ?_
        show Steps p.tables e below (T166.setTop (mkF m 285 #[.val (.int p1), .val (.int p2), .val (.int p3), .val (.int M), .val (.int q1), .val (.int q2), .val (.int (3 : Int32)), .val (.ref w), .val (.ref w), .val (.ref u1), .val (.ref u2), .val (.int (Int32.ofNat tx.length)), .unset] [(.int (3 : Int32))])) _
        refine XS.iconst X166.here hx rfl (hb hby at_285) ?_
        show Steps p.tables e below (T166.setTop (mkF m 286 #[.val (.int p1), .val (.int p2), .val (.int p3), .val (.int M), .val (.int q1), .val (.int q2), .val (.int (3 : Int32)), .val (.ref w), .val (.ref w), .val (.ref u1), .val (.ref u2), .val (.int (Int32.ofNat tx.length)), .unset] [(.int (2 : Int32)), (.int (3 : Int32))])) _
        refine XS.icmpYes X166.here hx rfl (pc0 := 286) (pc' := 298) rfl (hb hby at_286) rfl (feq (by decide)).2 (by decide) (by decide) ?_
        show Steps p.tables e below (T166.setTop (mkF m 298 #[.val (.int p1), .val (.int p2), .val (.int p3), .val (.int M), .val (.int q1), .val (.int q2), .val (.int (3 : Int32)), .val (.ref w), .val (.ref w), .val (.ref u1), .val (.ref u2), .val (.int (Int32.ofNat tx.length)), .unset] [])) _
        refine XS.iload X166.here hx rfl (hb hby at_298) rfl ?_
        show Steps p.tables e below (T166.setTop (mkF m 300 #[.val (.int p1), .val (.int p2), .val (.int p3), .val (.int M), .val (.int q1), .val (.int q2), .val (.int (3 : Int32)), .val (.ref w), .val (.ref w), .val (.ref u1), .val (.ref u2), .val (.int (Int32.ofNat tx.length)), .unset] [(.int (3 : Int32))])) _
        refine XS.iconst X166.here hx rfl (hb hby at_300) ?_
        show Steps p.tables e below (T166.setTop (mkF m 301 #[.val (.int p1), .val (.int p2), .val (.int p3), .val (.int M), .val (.int q1), .val (.int q2), .val (.int (3 : Int32)), .val (.ref w), .val (.ref w), .val (.ref u1), .val (.ref u2), .val (.int (Int32.ofNat tx.length)), .unset] [(.int (3 : Int32)), (.int (3 : Int32))])) _
        refine XS.icmpNo X166.here hx rfl (hb hby at_301) rfl (teq rfl).2 ?_
        show Steps p.tables e below (T166.setTop (mkF m 304 #[.val (.int p1), .val (.int p2), .val (.int p3), .val (.int M), .val (.int q1), .val (.int q2), .val (.int (3 : Int32)), .val (.ref w), .val (.ref w), .val (.ref u1), .val (.ref u2), .val (.int (Int32.ofNat tx.length)), .unset] [])) _
        refine XS.aload X166.here hx rfl (hb hby at_304) rfl rfl ?_
        exact kt
      obtain ⟨cq191, kq191, q191a, q191b, q191c⟩ := isOf hZ e166 Jb.1
      obtain ⟨_, _, ⟨T191, L191, k191, n191⟩, -, X191, ⟨Lc191, hQ191, l191, y191, z191⟩, st191⟩ := X166.virtualBack hx (y := (⟨"com/example/tenantd/tenantd/server/JsonWriter", "endArray", "()Lcom/example/tenantd/tenantd/server/JsonWriter;"⟩ : MethodName)) (z := (⟨"com/example/tenantd/tenantd/server/JsonWriter", "endArray", "()Lcom/example/tenantd/tenantd/server/JsonWriter;"⟩ : MethodName)) hown (mvT hZ (hw _ (List.mem_of_getElem? (i := 32) rfl))) (mvT hZ (hw _ (List.mem_of_getElem? (i := 33) rfl))) (notFace_of_selects (args := #[]) (mvT hZ (hw _ (List.mem_of_getElem? (i := 35) rfl)))) (mvT hZ (hw _ (List.mem_of_getElem? (i := 35) rfl))) (mvT hZ (hw _ (List.mem_of_getElem? (i := 34) rfl))) (by decide) (backOf (W := 0) (jw_endA l Z a0 hw [] w a b tx cs (1 : Int32) hB n0 Zb S0 hcs Ob Jb (by omega) g_w g_a g_b) hZ (hw _ (List.mem_of_getElem? (i := 36) rfl)) (hw _ (List.mem_of_getElem? (i := 3) rfl)) (by decide) (by decide)) q191a q191c (g := (mkF m 306 #[.val (.int p1), .val (.int p2), .val (.int p3), .val (.int M), .val (.int q1), .val (.int q2), .val (.int (3 : Int32)), .val (.ref w), .val (.ref w), .val (.ref u1), .val (.ref u2), .val (.int (Int32.ofNat tx.length)), .unset] [(.ref w)])) rfl (by rw [hml]; rfl) (Steps.refl _) (argsL := []) (rest := []) (lenOf pd_2 rfl) rfl (by show 2 * 0 + _ ≤ _; exact Nat.le_of_eq rfl) (hb hby at_306) (fun _ _ => ⟨rfl, e166, (by decide : 7 + 0 ≤ _), (by decide : 314 + 0 ≤ _)⟩)
      dsimp only [Pt.U, Pt.locs, Pt.cells, Pt.slots] at X191 l191 y191 z191 st191 hQ191
      subst l191 y191 z191
      obtain ⟨rfl, N191q, K191, J191⟩ := hQ191
      have N191 := Fr.app N166 N191q
      refine EndsW.st st191 ?_
      have Zc : n0 ≤ T191.heap.size := Nat.le_trans Zb K191.1
      have Oc := Ob.keep K191 (allS g_w (allS g_a (allS g_b all0)))
      have gk : hB.size ≤ T191.heap.size := K191.1
      refine EndsW.of (F' := T191.setTop (mkF m 312 #[.val (.int p1), .val (.int p2), .val (.int p3), .val (.int M), .val (.int q1), .val (.int q2), .val (.int (3 : Int32)), .val (.ref w), .val (.ref w), .val (.ref u1), .val (.ref u2), .val (.int (Int32.ofNat tx.length)), .unset] [(.ref w)])) (fun _ kt => ?_) ?_
      · show Steps p.tables e below (T191.setTop (mkF m 309 #[.val (.int p1), .val (.int p2), .val (.int p3), .val (.int M), .val (.int q1), .val (.int q2), .val (.int (3 : Int32)), .val (.ref w), .val (.ref w), .val (.ref u1), .val (.ref u2), .val (.int (Int32.ofNat tx.length)), .unset] [(.ref w)])) _
        refine XS.pop X191.here hx rfl (hb hby at_309) rfl rfl ?_
        show Steps p.tables e below (T191.setTop (mkF m 310 #[.val (.int p1), .val (.int p2), .val (.int p3), .val (.int M), .val (.int q1), .val (.int q2), .val (.int (3 : Int32)), .val (.ref w), .val (.ref w), .val (.ref u1), .val (.ref u2), .val (.int (Int32.ofNat tx.length)), .unset] [])) _
        refine XS.aload X191.here hx rfl (hb hby at_310) rfl rfl ?_
        exact kt
      obtain ⟨cq192, kq192, q192a, q192b, q192c⟩ := isOf hZ rfl J191.1
      obtain ⟨_, _, ⟨T192, L192, k192, n192⟩, -, X192, ⟨Lc192, hQ192, l192, y192, z192⟩, st192⟩ := X191.virtualBack hx (y := (⟨"com/example/tenantd/tenantd/server/JsonWriter", "toString", "()Ljava/lang/String;"⟩ : MethodName)) (z := (⟨"com/example/tenantd/tenantd/server/JsonWriter", "toString", "()Ljava/lang/String;"⟩ : MethodName)) hown (mvT hZ (hw _ (List.mem_of_getElem? (i := 65) rfl))) (mvT hZ (hw _ (List.mem_of_getElem? (i := 66) rfl))) (notFace_of_selects (args := #[]) (mvT hZ (hw _ (List.mem_of_getElem? (i := 68) rfl)))) (mvT hZ (hw _ (List.mem_of_getElem? (i := 68) rfl))) (mvT hZ (hw _ (List.mem_of_getElem? (i := 67) rfl))) (by decide) (backOf (W := 0) (jw_str l Z a0 hw [] w a b (tx ++ [93]) cs (1 : Int32) T191.heap n0 Zc S0 hcs Oc J191 (by simp only [List.length_append, List.length_cons, List.length_nil]; omega)) hZ (hw _ (List.mem_of_getElem? (i := 69) rfl)) (hw _ (List.mem_of_getElem? (i := 3) rfl)) (by decide) (by decide)) q192a q192c (g := (mkF m 312 #[.val (.int p1), .val (.int p2), .val (.int p3), .val (.int M), .val (.int q1), .val (.int q2), .val (.int (3 : Int32)), .val (.ref w), .val (.ref w), .val (.ref u1), .val (.ref u2), .val (.int (Int32.ofNat tx.length)), .unset] [(.ref w)])) rfl (by rw [hml]; rfl) (Steps.refl _) (argsL := []) (rest := []) (lenOf pd_7 rfl) rfl (by show 2 * 0 + _ ≤ _; exact Nat.le_of_eq rfl) (hb hby at_312) (fun _ _ => ⟨rfl, rfl, (by decide : 7 + 2 ≤ _), (by decide : 314 + 20 ≤ _)⟩)
      dsimp only [Pt.U, Pt.locs, Pt.cells, Pt.slots] at X192 l192 y192 z192 st192 hQ192
      subst l192 y192 z192
      obtain ⟨d192, rfl, N192q, K192, St192, gd192⟩ := hQ192
      have N192 := Fr.app N191 N192q
      refine EndsW.st st192 ?_
      have Zd : n0 ≤ T192.heap.size := Nat.le_trans Zc K192.1
      have Od := Oc.keep K192 all0
      have hkz : k1 ≤ T192.heap.size := Nat.le_trans hk1 (Nat.le_trans gk K192.1)
      refine EndsW.of (F' := T192.setTop (mkF m 588 #[.val (.int p1), .val (.int p2), .val (.int p3), .val (.int M), .val (.int q1), .val (.int q2), .val (.int (3 : Int32)), .val (.ref w), .val (.ref w), .val (.ref u1), .val (.ref u2), .val (.int (Int32.ofNat tx.length)), .val (.ref T191.heap.size)] [(.ref T191.heap.size)])) (fun _ kt => ?_) ?_
      · show Steps p.tables e below (T192.setTop (mkF m 315 #[.val (.int p1), .val (.int p2), .val (.int p3), .val (.int M), .val (.int q1), .val (.int q2), .val (.int (3 : Int32)), .val (.ref w), .val (.ref w), .val (.ref u1), .val (.ref u2), .val (.int (Int32.ofNat tx.length)), .unset] [(.ref T191.heap.size)])) _
        refine XS.astore X192.here hx rfl (hb hby at_315) rfl rfl (l' := #[.val (.int p1), .val (.int p2), .val (.int p3), .val (.int M), .val (.int q1), .val (.int q2), .val (.int (3 : Int32)), .val (.ref w), .val (.ref w), .val (.ref u1), .val (.ref u2), .val (.int (Int32.ofNat tx.length)), .val (.ref T191.heap.size)]) rfl ?_
        show Steps p.tables e below (T192.setTop (mkF m 317 #[.val (.int p1), .val (.int p2), .val (.int p3), .val (.int M), .val (.int q1), .val (.int q2), .val (.int (3 : Int32)), .val (.ref w), .val (.ref w), .val (.ref u1), .val (.ref u2), .val (.int (Int32.ofNat tx.length)), .val (.ref T191.heap.size)] [])) _
        refine XS.iload X192.here hx rfl (hb hby at_317) rfl ?_
        show Steps p.tables e below (T192.setTop (mkF m 319 #[.val (.int p1), .val (.int p2), .val (.int p3), .val (.int M), .val (.int q1), .val (.int q2), .val (.int (3 : Int32)), .val (.ref w), .val (.ref w), .val (.ref u1), .val (.ref u2), .val (.int (Int32.ofNat tx.length)), .val (.ref T191.heap.size)] [(.int (3 : Int32))])) _
        refine XS.ifYes X192.here hx rfl (pc0 := 319) (pc' := 338) rfl (hb hby at_319) rfl ((if0 _ _).trans (feq (by decide)).2) (by decide) (by decide) ?_
        show Steps p.tables e below (T192.setTop (mkF m 338 #[.val (.int p1), .val (.int p2), .val (.int p3), .val (.int M), .val (.int q1), .val (.int q2), .val (.int (3 : Int32)), .val (.ref w), .val (.ref w), .val (.ref u1), .val (.ref u2), .val (.int (Int32.ofNat tx.length)), .val (.ref T191.heap.size)] [])) _
        refine XS.iload X192.here hx rfl (hb hby at_338) rfl ?_
        show Steps p.tables e below (T192.setTop (mkF m 340 #[.val (.int p1), .val (.int p2), .val (.int p3), .val (.int M), .val (.int q1), .val (.int q2), .val (.int (3 : Int32)), .val (.ref w), .val (.ref w), .val (.ref u1), .val (.ref u2), .val (.int (Int32.ofNat tx.length)), .val (.ref T191.heap.size)] [(.int (3 : Int32))])) _
        refine XS.iconst X192.here hx rfl (hb hby at_340) ?_
        show Steps p.tables e below (T192.setTop (mkF m 341 #[.val (.int p1), .val (.int p2), .val (.int p3), .val (.int M), .val (.int q1), .val (.int q2), .val (.int (3 : Int32)), .val (.ref w), .val (.ref w), .val (.ref u1), .val (.ref u2), .val (.int (Int32.ofNat tx.length)), .val (.ref T191.heap.size)] [(.int (1 : Int32)), (.int (3 : Int32))])) _
        refine XS.icmpYes X192.here hx rfl (pc0 := 341) (pc' := 536) rfl (hb hby at_341) rfl (feq (by decide)).2 (by decide) (by decide) ?_
        show Steps p.tables e below (T192.setTop (mkF m 536 #[.val (.int p1), .val (.int p2), .val (.int p3), .val (.int M), .val (.int q1), .val (.int q2), .val (.int (3 : Int32)), .val (.ref w), .val (.ref w), .val (.ref u1), .val (.ref u2), .val (.int (Int32.ofNat tx.length)), .val (.ref T191.heap.size)] [])) _
        refine XS.iload X192.here hx rfl (hb hby at_536) rfl ?_
        show Steps p.tables e below (T192.setTop (mkF m 538 #[.val (.int p1), .val (.int p2), .val (.int p3), .val (.int M), .val (.int q1), .val (.int q2), .val (.int (3 : Int32)), .val (.ref w), .val (.ref w), .val (.ref u1), .val (.ref u2), .val (.int (Int32.ofNat tx.length)), .val (.ref T191.heap.size)] [(.int (3 : Int32))])) _
        refine XS.iconst X192.here hx rfl (hb hby at_538) ?_
        show Steps p.tables e below (T192.setTop (mkF m 539 #[.val (.int p1), .val (.int p2), .val (.int p3), .val (.int M), .val (.int q1), .val (.int q2), .val (.int (3 : Int32)), .val (.ref w), .val (.ref w), .val (.ref u1), .val (.ref u2), .val (.int (Int32.ofNat tx.length)), .val (.ref T191.heap.size)] [(.int (2 : Int32)), (.int (3 : Int32))])) _
        refine XS.icmpYes X192.here hx rfl (pc0 := 539) (pc' := 586) rfl (hb hby at_539) rfl (feq (by decide)).2 (by decide) (by decide) ?_
        show Steps p.tables e below (T192.setTop (mkF m 586 #[.val (.int p1), .val (.int p2), .val (.int p3), .val (.int M), .val (.int q1), .val (.int q2), .val (.int (3 : Int32)), .val (.ref w), .val (.ref w), .val (.ref u1), .val (.ref u2), .val (.int (Int32.ofNat tx.length)), .val (.ref T191.heap.size)] [])) _
        refine XS.aload X192.here hx rfl (hb hby at_586) rfl rfl ?_
        exact kt
      obtain ⟨cq193, kq193, q193a, q193b, q193c⟩ := isOf hZ rfl St192.1
      obtain ⟨_, _, ⟨T193, L193, k193, n193⟩, -, X193, ⟨Lc193, hQ193, l193, y193, z193⟩, st193⟩ := X192.virtualBack hx (y := (⟨"java/lang/String", "length", "()I"⟩ : MethodName)) (z := (⟨"java/lang/String", "length", "()I"⟩ : MethodName)) hown (mvT hZ (hw _ (List.mem_of_getElem? (i := 134) rfl))) (mvT hZ (hw _ (List.mem_of_getElem? (i := 135) rfl))) (notFace_of_selects (args := #[]) (mvT hZ (hw _ (List.mem_of_getElem? (i := 137) rfl)))) (mvT hZ (hw _ (List.mem_of_getElem? (i := 137) rfl))) (mvT hZ (hw _ (List.mem_of_getElem? (i := 136) rfl))) (by decide) (backOf (W := 0) (str_length l Z a0 hw [] T191.heap.size d192 (tx ++ [93]).length (tf (tx ++ [93])) cs T192.heap n0 Zd S0 hcs Od St192) hZ (hw _ (List.mem_of_getElem? (i := 138) rfl)) (hw _ (List.mem_of_getElem? (i := 24) rfl)) (by decide) (by decide)) q193a q193c (g := (mkF m 588 #[.val (.int p1), .val (.int p2), .val (.int p3), .val (.int M), .val (.int q1), .val (.int q2), .val (.int (3 : Int32)), .val (.ref w), .val (.ref w), .val (.ref u1), .val (.ref u2), .val (.int (Int32.ofNat tx.length)), .val (.ref T191.heap.size)] [(.ref T191.heap.size)])) rfl (by rw [hml]; rfl) (Steps.refl _) (argsL := []) (rest := []) (lenOf pd_11 rfl) rfl (by show 2 * 0 + _ ≤ _; exact Nat.le_of_eq rfl) (hb hby at_588) (fun _ _ => ⟨rfl, rfl, (by decide : 9 + 0 ≤ _), (by decide : 334 + 0 ≤ _)⟩)
      dsimp only [Pt.U, Pt.locs, Pt.cells, Pt.slots] at X193 l193 y193 z193 st193 hQ193
      subst l193 y193 z193
      obtain ⟨rfl, N193q, e193⟩ := hQ193
      have N193 := Fr.app N192 N193q
      refine EndsW.st st193 ?_
      have hl2 : List.length (tx ++ [93]) = tx.length + 1 := by simp
      refine EndsW.of (F' := T193.setTop (mkF m 604 #[.val (.int p1), .val (.int p2), .val (.int p3), .val (.int M), .val (.int q1), .val (.int q2), .val (.int (3 : Int32)), .val (.ref w), .val (.ref w), .val (.ref u1), .val (.ref u2), .val (.int (Int32.ofNat tx.length)), .val (.ref T191.heap.size)] [(.int (93 : Int32)), (.int (Int32.ofNat tx.length)), (.ref T191.heap.size)])) (fun _ kt => ?_) ?_
      · show Steps p.tables e below (T193.setTop (mkF m 591 #[.val (.int p1), .val (.int p2), .val (.int p3), .val (.int M), .val (.int q1), .val (.int q2), .val (.int (3 : Int32)), .val (.ref w), .val (.ref w), .val (.ref u1), .val (.ref u2), .val (.int (Int32.ofNat tx.length)), .val (.ref T191.heap.size)] [(.int (Int32.ofNat (tx ++ [93]).length))])) _
        refine XS.iload X193.here hx rfl (hb hby at_591) rfl ?_
        show Steps p.tables e below (T193.setTop (mkF m 593 #[.val (.int p1), .val (.int p2), .val (.int p3), .val (.int M), .val (.int q1), .val (.int q2), .val (.int (3 : Int32)), .val (.ref w), .val (.ref w), .val (.ref u1), .val (.ref u2), .val (.int (Int32.ofNat tx.length)), .val (.ref T191.heap.size)] [(.int (Int32.ofNat tx.length)), (.int (Int32.ofNat (tx ++ [93]).length))])) _
        refine XS.iconst X193.here hx rfl (hb hby at_593) ?_
        show Steps p.tables e below (T193.setTop (mkF m 594 #[.val (.int p1), .val (.int p2), .val (.int p3), .val (.int M), .val (.int q1), .val (.int q2), .val (.int (3 : Int32)), .val (.ref w), .val (.ref w), .val (.ref u1), .val (.ref u2), .val (.int (Int32.ofNat tx.length)), .val (.ref T191.heap.size)] [(.int (1 : Int32)), (.int (Int32.ofNat tx.length)), (.int (Int32.ofNat (tx ++ [93]).length))])) _
        refine XS.iadd X193.here hx rfl (hb hby at_594) rfl ?_
        show Steps p.tables e below (T193.setTop (mkF m 595 #[.val (.int p1), .val (.int p2), .val (.int p3), .val (.int M), .val (.int q1), .val (.int q2), .val (.int (3 : Int32)), .val (.ref w), .val (.ref w), .val (.ref u1), .val (.ref u2), .val (.int (Int32.ofNat tx.length)), .val (.ref T191.heap.size)] [(.int ((Int32.ofNat tx.length) + (1 : Int32))), (.int (Int32.ofNat (tx ++ [93]).length))])) _
        refine XS.icmpNo X193.here hx rfl (hb hby at_595) rfl (teq (by rw [hl2]; exact (own_add tx.length 1).symm)).2 ?_
        show Steps p.tables e below (T193.setTop (mkF m 598 #[.val (.int p1), .val (.int p2), .val (.int p3), .val (.int M), .val (.int q1), .val (.int q2), .val (.int (3 : Int32)), .val (.ref w), .val (.ref w), .val (.ref u1), .val (.ref u2), .val (.int (Int32.ofNat tx.length)), .val (.ref T191.heap.size)] [])) _
        refine XS.aload X193.here hx rfl (hb hby at_598) rfl rfl ?_
        show Steps p.tables e below (T193.setTop (mkF m 600 #[.val (.int p1), .val (.int p2), .val (.int p3), .val (.int M), .val (.int q1), .val (.int q2), .val (.int (3 : Int32)), .val (.ref w), .val (.ref w), .val (.ref u1), .val (.ref u2), .val (.int (Int32.ofNat tx.length)), .val (.ref T191.heap.size)] [(.ref T191.heap.size)])) _
        refine XS.iload X193.here hx rfl (hb hby at_600) rfl ?_
        show Steps p.tables e below (T193.setTop (mkF m 602 #[.val (.int p1), .val (.int p2), .val (.int p3), .val (.int M), .val (.int q1), .val (.int q2), .val (.int (3 : Int32)), .val (.ref w), .val (.ref w), .val (.ref u1), .val (.ref u2), .val (.int (Int32.ofNat tx.length)), .val (.ref T191.heap.size)] [(.int (Int32.ofNat tx.length)), (.ref T191.heap.size)])) _
        refine XS.bipush X193.here hx rfl (hb hby at_602) ?_
        exact kt
      have hc0 : tf (tx ++ [93]) (tx.length + 0) = 93 := by
        have q := tf_at tx [93] 0
        first | exact q | (simp only [List.append_assoc, List.cons_append, List.nil_append] at q ⊢; exact q)
      obtain ⟨_, _, ⟨T194, L194, k194, n194⟩, -, X194, ⟨Lc194, hQ194, l194, y194, z194⟩, st194⟩ := Jvm.LawKit.callS X193 hx (y := (⟨"com/example/tenantd/tenantd/server/JsonWriterEndArrayPinLaw", "at", "(Ljava/lang/String;IC)Z"⟩ : MethodName)) hown (mvT hZ (hw _ (List.mem_of_getElem? (i := 153) rfl))) (mvT hZ (hw _ (List.mem_of_getElem? (i := 154) rfl))) (mvT hZ (hw _ (List.mem_of_getElem? (i := 155) rfl))) (mvT hZ (hw _ (List.mem_of_getElem? (i := 156) rfl))) (by decide) (backOf (W := 0) (law_at l Z a0 hw [] T191.heap.size d192 tx.length (tx ++ [93]).length (tf (tx ++ [93])) (93 : Int32) cs fv T192.heap n0 Zd S0 hcs Od S1 hfv St192 (by rw [hl2]; omega) (by rw [show tf (tx ++ [93]) tx.length = 93 from hc0]; decide) (by decide)) hZ (hw _ (List.mem_of_getElem? (i := 156) rfl)) (hw _ (List.mem_of_getElem? (i := 155) rfl)) (by decide) (by decide)) (g := (mkF m 604 #[.val (.int p1), .val (.int p2), .val (.int p3), .val (.int M), .val (.int q1), .val (.int q2), .val (.int (3 : Int32)), .val (.ref w), .val (.ref w), .val (.ref u1), .val (.ref u2), .val (.int (Int32.ofNat tx.length)), .val (.ref T191.heap.size)] [(.int (93 : Int32)), (.int (Int32.ofNat tx.length)), (.ref T191.heap.size)])) rfl (by rw [hml]; rfl) (argsL := [(.ref T191.heap.size), (.int (Int32.ofNat tx.length)), (.int (93 : Int32))]) (rest := []) (lenOf pd_19 rfl) rfl (by show 2 * 0 + _ ≤ _; exact Nat.le_of_eq rfl) (hb hby at_604) (fun _ _ => ⟨rfl, e193, (by decide : 9 + 0 ≤ _), (by decide : 334 + 0 ≤ _)⟩)
      dsimp only [Pt.U, Pt.locs, Pt.cells, Pt.slots] at X194 l194 y194 z194 st194 hQ194
      subst l194 y194 z194
      obtain ⟨rfl, N194q, e194⟩ := hQ194
      have N194 := Fr.app N193 N194q
      refine EndsW.of st194 ?_
      refine EndsW.of (F' := T194.setTop (mkF m 615 #[.val (.int p1), .val (.int p2), .val (.int p3), .val (.int M), .val (.int q1), .val (.int q2), .val (.int (3 : Int32)), .val (.ref w), .val (.ref w), .val (.ref u1), .val (.ref u2), .val (.int (Int32.ofNat tx.length)), .val (.ref T191.heap.size)] [(.int (1 : Int32))])) (fun _ kt => ?_) ?_
      · show Steps p.tables e below (T194.setTop (mkF m 607 #[.val (.int p1), .val (.int p2), .val (.int p3), .val (.int M), .val (.int q1), .val (.int q2), .val (.int (3 : Int32)), .val (.ref w), .val (.ref w), .val (.ref u1), .val (.ref u2), .val (.int (Int32.ofNat tx.length)), .val (.ref T191.heap.size)] [(.int (1 : Int32))])) _
        refine XS.ifNo X194.here hx rfl (hb hby at_607) rfl ((if0 _ _).trans (feq (by decide)).1) ?_
        show Steps p.tables e below (T194.setTop (mkF m 610 #[.val (.int p1), .val (.int p2), .val (.int p3), .val (.int M), .val (.int q1), .val (.int q2), .val (.int (3 : Int32)), .val (.ref w), .val (.ref w), .val (.ref u1), .val (.ref u2), .val (.int (Int32.ofNat tx.length)), .val (.ref T191.heap.size)] [])) _
        refine XS.iconst X194.here hx rfl (hb hby at_610) ?_
        show Steps p.tables e below (T194.setTop (mkF m 611 #[.val (.int p1), .val (.int p2), .val (.int p3), .val (.int M), .val (.int q1), .val (.int q2), .val (.int (3 : Int32)), .val (.ref w), .val (.ref w), .val (.ref u1), .val (.ref u2), .val (.int (Int32.ofNat tx.length)), .val (.ref T191.heap.size)] [(.int (1 : Int32))])) _
        refine XS.goto X194.here hx rfl (pc0 := 611) (pc' := 615) rfl (hb hby at_611) (by decide) (by decide) ?_
        exact kt
      obtain ⟨fs, hr, hrun, hended, hEW⟩ := X194.leaveW hS (by rw [e194]; exact hkz) (v := some (.int (1 : Int32))) (fun h => by rw [Bd.returns] at h; cases h)
      exact ⟨_, _, retN X194 hx (t := .boolean) Bd.returns (by simp) (hb hby at_615) hr, hrun, hended, _, _, rfl, ⟨rfl, N194⟩, hEW.1, hEW.2.1, hEW.2.2.1, hEW.2.2.2.mono (by decide) (by decide)⟩
  have mid : ∀ (M q1 q2 fol : Int32), (M = 0 ∨ M = 1 ∨ M = 2 ∨ M = 3 ∨ M = 4 ∨ M = 5) → (q1 = 0 ∨ q1 = 1) → (q2 = 0 ∨ q2 = 1) → (fol = 0 ∨ fol = 1 ∨ fol = 2 ∨ fol = 3) → EndsW p e below s room_1 (Q0 Z p1 p2 p3 cs fv h0 n0) (s₁.setTop (mkF m 39 #[.val (.int p1), .val (.int p2), .val (.int p3), .val (.int M), .val (.int q1), .val (.int q2), .val (.int fol), .unset, .unset, .unset, .unset, .unset, .unset] [])) := by
    intro M q1 q2 fol hM hq1 hq2 hfol
    obtain ⟨T129, h129, X129, e129, E129, A129, D129, -, st129⟩ := newO X0 hx hZ hown (hw _ (List.mem_of_getElem? (i := 1) rfl)) (hw _ (List.mem_of_getElem? (i := 2) rfl)) (hw _ (List.mem_of_getElem? (i := 3) rfl)) e0 (g := (mkF m 39 #[.val (.int p1), .val (.int p2), .val (.int p3), .val (.int M), .val (.int q1), .val (.int q2), .val (.int fol), .unset, .unset, .unset, .unset, .unset, .unset] [])) rfl (hb hby at_39) (by decide) (by decide)
    obtain ⟨b129, g129⟩ : ∃ z, z = h0.size := ⟨_, rfl⟩
    rw [← g129] at A129 D129 st129
    have F_text_b129 : Fld Z h129 b129 "com/example/tenantd/tenantd/server/JsonWriter" "text" "Ljava/lang/StringBuilder;" .null := D129 (Or.inr (hw _ (List.mem_of_getElem? (i := 31) rfl))) (ty := (.object "java/lang/StringBuilder")) (by decide)
    have F_afterValue_b129 : Fld Z h129 b129 "com/example/tenantd/tenantd/server/JsonWriter" "afterValue" "Z" (.int (0 : Int32)) := D129 (Or.inl (hw _ (List.mem_of_getElem? (i := 64) rfl))) (ty := .boolean) (by decide)
    refine EndsW.of st129 ?_
    have Z1 : n0 ≤ h129.size := Nat.le_trans Z0 E129.1
    have g_w : n0 ≤ b129 := Nat.le_trans Z0 (Nat.le_of_eq g129.symm)
    refine EndsW.of (F' := T129.setTop (mkF m 43 #[.val (.int p1), .val (.int p2), .val (.int p3), .val (.int M), .val (.int q1), .val (.int q2), .val (.int fol), .unset, .unset, .unset, .unset, .unset, .unset] [(.ref b129), (.ref b129)])) (fun _ kt => ?_) ?_
    · show Steps p.tables e below (T129.setTop (mkF m 42 #[.val (.int p1), .val (.int p2), .val (.int p3), .val (.int M), .val (.int q1), .val (.int q2), .val (.int fol), .unset, .unset, .unset, .unset, .unset, .unset] [(.ref b129)])) _
      refine XS.dup X129.here hx rfl (hb hby at_42) rfl rfl ?_
      exact kt
    obtain ⟨_, _, ⟨T130, L130, k130, n130⟩, -, X130, ⟨Lc130, hQ130, l130, y130, z130⟩, st130⟩ := X129.specialBack hx (y := (⟨"com/example/tenantd/tenantd/server/JsonWriter", "<init>", "()V"⟩ : MethodName)) rfl hown (mvT hZ (hw _ (List.mem_of_getElem? (i := 4) rfl))) (mvT hZ (hw _ (List.mem_of_getElem? (i := 5) rfl))) (mvT hZ (hw _ (List.mem_of_getElem? (i := 6) rfl))) (by decide) (backOf (W := 1) (jw_init l Z a0 hw [] b129 cs h129 n0 Z1 S0 hcs (O.ext E129) A129 F_text_b129 F_afterValue_b129 g_w) hZ (hw _ (List.mem_of_getElem? (i := 6) rfl)) (hw _ (List.mem_of_getElem? (i := 3) rfl)) (by decide) (by decide)) (g := (mkF m 43 #[.val (.int p1), .val (.int p2), .val (.int p3), .val (.int M), .val (.int q1), .val (.int q2), .val (.int fol), .unset, .unset, .unset, .unset, .unset, .unset] [(.ref b129), (.ref b129)])) rfl (by rw [hml]; rfl) (Steps.refl _) (a := b129) (argsL := []) (rest := [(.ref b129)]) (lenOf pd_0 rfl) rfl (by show 2 * 0 + _ ≤ _; exact Nat.le_of_eq rfl) (hb hby at_43) (fun _ _ => ⟨rfl, e129, (by decide : 1 + 2 ≤ _), (by decide : 2 + 260 ≤ _)⟩)
    dsimp only [Pt.U, Pt.locs, Pt.cells, Pt.slots] at X130 l130 y130 z130 st130 hQ130
    subst l130 y130 z130
    obtain ⟨rfl, N130q, K130, a, b, J0, ga, gb⟩ := hQ130
    have N130 := Fr.app N0 N130q
    refine EndsW.st st130 ?_
    have g_a : n0 ≤ a := Nat.le_trans Z1 ga
    have g_b : n0 ≤ b := Nat.le_trans Z1 gb
    have Z2 : n0 ≤ T130.heap.size := Nat.le_trans Z1 K130.1
    have O2 := (O.ext E129).keep K130 (allS g_w all0)
    refine EndsW.of (F' := T130.setTop (mkF m 48 #[.val (.int p1), .val (.int p2), .val (.int p3), .val (.int M), .val (.int q1), .val (.int q2), .val (.int fol), .val (.ref b129), .unset, .unset, .unset, .unset, .unset] [])) (fun _ kt => ?_) ?_
    · show Steps p.tables e below (T130.setTop (mkF m 46 #[.val (.int p1), .val (.int p2), .val (.int p3), .val (.int M), .val (.int q1), .val (.int q2), .val (.int fol), .unset, .unset, .unset, .unset, .unset, .unset] [(.ref b129)])) _
      refine XS.astore X130.here hx rfl (hb hby at_46) rfl rfl (l' := #[.val (.int p1), .val (.int p2), .val (.int p3), .val (.int M), .val (.int q1), .val (.int q2), .val (.int fol), .val (.ref b129), .unset, .unset, .unset, .unset, .unset]) rfl ?_
      exact kt
    rcases hM with rfl | rfl | rfl | rfl | rfl | rfl
    · refine EndsW.of (F' := T130.setTop (mkF m 155 #[.val (.int p1), .val (.int p2), .val (.int p3), .val (.int (0 : Int32)), .val (.int q1), .val (.int q2), .val (.int fol), .val (.ref b129), .unset, .unset, .unset, .unset, .unset] [(.ref b129)])) (fun _ kt => ?_) ?_
      · show Steps p.tables e below (T130.setTop (mkF m 48 #[.val (.int p1), .val (.int p2), .val (.int p3), .val (.int (0 : Int32)), .val (.int q1), .val (.int q2), .val (.int fol), .val (.ref b129), .unset, .unset, .unset, .unset, .unset] [])) _
        refine XS.iloadN X130.here hx rfl (hb hby at_48) rfl ?_
        show Steps p.tables e below (T130.setTop (mkF m 49 #[.val (.int p1), .val (.int p2), .val (.int p3), .val (.int (0 : Int32)), .val (.int q1), .val (.int q2), .val (.int fol), .val (.ref b129), .unset, .unset, .unset, .unset, .unset] [(.int (0 : Int32))])) _
        refine XS.iconst X130.here hx rfl (hb hby at_49) ?_
        show Steps p.tables e below (T130.setTop (mkF m 50 #[.val (.int p1), .val (.int p2), .val (.int p3), .val (.int (0 : Int32)), .val (.int q1), .val (.int q2), .val (.int fol), .val (.ref b129), .unset, .unset, .unset, .unset, .unset] [(.int (1 : Int32)), (.int (0 : Int32))])) _
        refine XS.icmpYes X130.here hx rfl (pc0 := 50) (pc' := 62) rfl (hb hby at_50) rfl (feq (by decide)).2 (by decide) (by decide) ?_
        show Steps p.tables e below (T130.setTop (mkF m 62 #[.val (.int p1), .val (.int p2), .val (.int p3), .val (.int (0 : Int32)), .val (.int q1), .val (.int q2), .val (.int fol), .val (.ref b129), .unset, .unset, .unset, .unset, .unset] [])) _
        refine XS.iloadN X130.here hx rfl (hb hby at_62) rfl ?_
        show Steps p.tables e below (T130.setTop (mkF m 63 #[.val (.int p1), .val (.int p2), .val (.int p3), .val (.int (0 : Int32)), .val (.int q1), .val (.int q2), .val (.int fol), .val (.ref b129), .unset, .unset, .unset, .unset, .unset] [(.int (0 : Int32))])) _
        refine XS.iconst X130.here hx rfl (hb hby at_63) ?_
        show Steps p.tables e below (T130.setTop (mkF m 64 #[.val (.int p1), .val (.int p2), .val (.int p3), .val (.int (0 : Int32)), .val (.int q1), .val (.int q2), .val (.int fol), .val (.ref b129), .unset, .unset, .unset, .unset, .unset] [(.int (2 : Int32)), (.int (0 : Int32))])) _
        refine XS.icmpYes X130.here hx rfl (pc0 := 64) (pc' := 84) rfl (hb hby at_64) rfl (feq (by decide)).2 (by decide) (by decide) ?_
        show Steps p.tables e below (T130.setTop (mkF m 84 #[.val (.int p1), .val (.int p2), .val (.int p3), .val (.int (0 : Int32)), .val (.int q1), .val (.int q2), .val (.int fol), .val (.ref b129), .unset, .unset, .unset, .unset, .unset] [])) _
        refine XS.iloadN X130.here hx rfl (hb hby at_84) rfl ?_
        show Steps p.tables e below (T130.setTop (mkF m 85 #[.val (.int p1), .val (.int p2), .val (.int p3), .val (.int (0 : Int32)), .val (.int q1), .val (.int q2), .val (.int fol), .val (.ref b129), .unset, .unset, .unset, .unset, .unset] [(.int (0 : Int32))])) _
        refine XS.iconst X130.here hx rfl (hb hby at_85) ?_
        show Steps p.tables e below (T130.setTop (mkF m 86 #[.val (.int p1), .val (.int p2), .val (.int p3), .val (.int (0 : Int32)), .val (.int q1), .val (.int q2), .val (.int fol), .val (.ref b129), .unset, .unset, .unset, .unset, .unset] [(.int (3 : Int32)), (.int (0 : Int32))])) _
        refine XS.icmpYes X130.here hx rfl (pc0 := 86) (pc' := 104) rfl (hb hby at_86) rfl (feq (by decide)).2 (by decide) (by decide) ?_
        show Steps p.tables e below (T130.setTop (mkF m 104 #[.val (.int p1), .val (.int p2), .val (.int p3), .val (.int (0 : Int32)), .val (.int q1), .val (.int q2), .val (.int fol), .val (.ref b129), .unset, .unset, .unset, .unset, .unset] [])) _
        refine XS.iloadN X130.here hx rfl (hb hby at_104) rfl ?_
        show Steps p.tables e below (T130.setTop (mkF m 105 #[.val (.int p1), .val (.int p2), .val (.int p3), .val (.int (0 : Int32)), .val (.int q1), .val (.int q2), .val (.int fol), .val (.ref b129), .unset, .unset, .unset, .unset, .unset] [(.int (0 : Int32))])) _
        refine XS.iconst X130.here hx rfl (hb hby at_105) ?_
        show Steps p.tables e below (T130.setTop (mkF m 106 #[.val (.int p1), .val (.int p2), .val (.int p3), .val (.int (0 : Int32)), .val (.int q1), .val (.int q2), .val (.int fol), .val (.ref b129), .unset, .unset, .unset, .unset, .unset] [(.int (4 : Int32)), (.int (0 : Int32))])) _
        refine XS.icmpYes X130.here hx rfl (pc0 := 106) (pc' := 130) rfl (hb hby at_106) rfl (feq (by decide)).2 (by decide) (by decide) ?_
        show Steps p.tables e below (T130.setTop (mkF m 130 #[.val (.int p1), .val (.int p2), .val (.int p3), .val (.int (0 : Int32)), .val (.int q1), .val (.int q2), .val (.int fol), .val (.ref b129), .unset, .unset, .unset, .unset, .unset] [])) _
        refine XS.iloadN X130.here hx rfl (hb hby at_130) rfl ?_
        show Steps p.tables e below (T130.setTop (mkF m 131 #[.val (.int p1), .val (.int p2), .val (.int p3), .val (.int (0 : Int32)), .val (.int q1), .val (.int q2), .val (.int fol), .val (.ref b129), .unset, .unset, .unset, .unset, .unset] [(.int (0 : Int32))])) _
        refine XS.iconst X130.here hx rfl (hb hby at_131) ?_
        show Steps p.tables e below (T130.setTop (mkF m 132 #[.val (.int p1), .val (.int p2), .val (.int p3), .val (.int (0 : Int32)), .val (.int q1), .val (.int q2), .val (.int fol), .val (.ref b129), .unset, .unset, .unset, .unset, .unset] [(.int (5 : Int32)), (.int (0 : Int32))])) _
        refine XS.icmpYes X130.here hx rfl (pc0 := 132) (pc' := 153) rfl (hb hby at_132) rfl (feq (by decide)).2 (by decide) (by decide) ?_
        show Steps p.tables e below (T130.setTop (mkF m 153 #[.val (.int p1), .val (.int p2), .val (.int p3), .val (.int (0 : Int32)), .val (.int q1), .val (.int q2), .val (.int fol), .val (.ref b129), .unset, .unset, .unset, .unset, .unset] [])) _
        refine XS.aload X130.here hx rfl (hb hby at_153) rfl rfl ?_
        exact kt
      obtain ⟨cq131, kq131, q131a, q131b, q131c⟩ := isOf hZ rfl J0.1
      obtain ⟨_, _, ⟨T131, L131, k131, n131⟩, -, X131, ⟨Lc131, hQ131, l131, y131, z131⟩, st131⟩ := X130.virtualBack hx (y := (⟨"com/example/tenantd/tenantd/server/JsonWriter", "endArray", "()Lcom/example/tenantd/tenantd/server/JsonWriter;"⟩ : MethodName)) (z := (⟨"com/example/tenantd/tenantd/server/JsonWriter", "endArray", "()Lcom/example/tenantd/tenantd/server/JsonWriter;"⟩ : MethodName)) hown (mvT hZ (hw _ (List.mem_of_getElem? (i := 32) rfl))) (mvT hZ (hw _ (List.mem_of_getElem? (i := 33) rfl))) (notFace_of_selects (args := #[]) (mvT hZ (hw _ (List.mem_of_getElem? (i := 35) rfl)))) (mvT hZ (hw _ (List.mem_of_getElem? (i := 35) rfl))) (mvT hZ (hw _ (List.mem_of_getElem? (i := 34) rfl))) (by decide) (backOf (W := 0) (jw_endA l Z a0 hw [] b129 a b [] cs (0 : Int32) T130.heap n0 Z2 S0 hcs O2 J0 (by decide) g_w g_a g_b) hZ (hw _ (List.mem_of_getElem? (i := 36) rfl)) (hw _ (List.mem_of_getElem? (i := 3) rfl)) (by decide) (by decide)) q131a q131c (g := (mkF m 155 #[.val (.int p1), .val (.int p2), .val (.int p3), .val (.int (0 : Int32)), .val (.int q1), .val (.int q2), .val (.int fol), .val (.ref b129), .unset, .unset, .unset, .unset, .unset] [(.ref b129)])) rfl (by rw [hml]; rfl) (Steps.refl _) (argsL := []) (rest := []) (lenOf pd_2 rfl) rfl (by show 2 * 0 + _ ≤ _; exact Nat.le_of_eq rfl) (hb hby at_155) (fun _ _ => ⟨rfl, rfl, (by decide : 3 + 0 ≤ _), (by decide : 262 + 0 ≤ _)⟩)
      dsimp only [Pt.U, Pt.locs, Pt.cells, Pt.slots] at X131 l131 y131 z131 st131 hQ131
      subst l131 y131 z131
      obtain ⟨rfl, N131q, K131, J131⟩ := hQ131
      have N131 := Fr.app N130 N131q
      refine EndsW.st st131 ?_
      have Jx1 : JWr Z T131.heap b129 a b [(93 : Int32)] (1 : Int32) := J131
      have Zx1 : n0 ≤ T131.heap.size := Nat.le_trans Z2 K131.1
      have Ox1 := O2.keep K131 (allS g_w (allS g_a (allS g_b all0)))
      refine EndsW.of (F' := T131.setTop (mkF m 162 #[.val (.int p1), .val (.int p2), .val (.int p3), .val (.int (0 : Int32)), .val (.int q1), .val (.int q2), .val (.int fol), .val (.ref b129), .val (.ref b129), .unset, .unset, .unset, .unset] [(.ref b129)])) (fun _ kt => ?_) ?_
      · show Steps p.tables e below (T131.setTop (mkF m 158 #[.val (.int p1), .val (.int p2), .val (.int p3), .val (.int (0 : Int32)), .val (.int q1), .val (.int q2), .val (.int fol), .val (.ref b129), .unset, .unset, .unset, .unset, .unset] [(.ref b129)])) _
        refine XS.astore X131.here hx rfl (hb hby at_158) rfl rfl (l' := #[.val (.int p1), .val (.int p2), .val (.int p3), .val (.int (0 : Int32)), .val (.int q1), .val (.int q2), .val (.int fol), .val (.ref b129), .val (.ref b129), .unset, .unset, .unset, .unset]) rfl ?_
        show Steps p.tables e below (T131.setTop (mkF m 160 #[.val (.int p1), .val (.int p2), .val (.int p3), .val (.int (0 : Int32)), .val (.int q1), .val (.int q2), .val (.int fol), .val (.ref b129), .val (.ref b129), .unset, .unset, .unset, .unset] [])) _
        refine XS.aload X131.here hx rfl (hb hby at_160) rfl rfl ?_
        exact kt
      obtain ⟨cq132, kq132, q132a, q132b, q132c⟩ := isOf hZ rfl Jx1.1
      obtain ⟨_, _, ⟨T132, L132, k132, n132⟩, -, X132, ⟨Lc132, hQ132, l132, y132, z132⟩, st132⟩ := X131.virtualBack hx (y := (⟨"com/example/tenantd/tenantd/server/JsonWriter", "toString", "()Ljava/lang/String;"⟩ : MethodName)) (z := (⟨"com/example/tenantd/tenantd/server/JsonWriter", "toString", "()Ljava/lang/String;"⟩ : MethodName)) hown (mvT hZ (hw _ (List.mem_of_getElem? (i := 65) rfl))) (mvT hZ (hw _ (List.mem_of_getElem? (i := 66) rfl))) (notFace_of_selects (args := #[]) (mvT hZ (hw _ (List.mem_of_getElem? (i := 68) rfl)))) (mvT hZ (hw _ (List.mem_of_getElem? (i := 68) rfl))) (mvT hZ (hw _ (List.mem_of_getElem? (i := 67) rfl))) (by decide) (backOf (W := 0) (jw_str l Z a0 hw [] b129 a b [(93 : Int32)] cs (1 : Int32) T131.heap n0 Zx1 S0 hcs Ox1 Jx1 (by decide)) hZ (hw _ (List.mem_of_getElem? (i := 69) rfl)) (hw _ (List.mem_of_getElem? (i := 3) rfl)) (by decide) (by decide)) q132a q132c (g := (mkF m 162 #[.val (.int p1), .val (.int p2), .val (.int p3), .val (.int (0 : Int32)), .val (.int q1), .val (.int q2), .val (.int fol), .val (.ref b129), .val (.ref b129), .unset, .unset, .unset, .unset] [(.ref b129)])) rfl (by rw [hml]; rfl) (Steps.refl _) (argsL := []) (rest := []) (lenOf pd_7 rfl) rfl (by show 2 * 0 + _ ≤ _; exact Nat.le_of_eq rfl) (hb hby at_162) (fun _ _ => ⟨rfl, rfl, (by decide : 3 + 2 ≤ _), (by decide : 262 + 20 ≤ _)⟩)
      dsimp only [Pt.U, Pt.locs, Pt.cells, Pt.slots] at X132 l132 y132 z132 st132 hQ132
      subst l132 y132 z132
      obtain ⟨d132, rfl, N132q, K132, St132, gd132⟩ := hQ132
      have N132 := Fr.app N131 N132q
      refine EndsW.st st132 ?_
      refine EndsW.of (F' := T132.setTop (mkF m 171 #[.val (.int p1), .val (.int p2), .val (.int p3), .val (.int (0 : Int32)), .val (.int q1), .val (.int q2), .val (.int fol), .val (.ref b129), .val (.ref b129), .val (.ref T131.heap.size), .unset, .unset, .unset] [])) (fun _ kt => ?_) ?_
      · show Steps p.tables e below (T132.setTop (mkF m 165 #[.val (.int p1), .val (.int p2), .val (.int p3), .val (.int (0 : Int32)), .val (.int q1), .val (.int q2), .val (.int fol), .val (.ref b129), .val (.ref b129), .unset, .unset, .unset, .unset] [(.ref T131.heap.size)])) _
        refine XS.astore X132.here hx rfl (hb hby at_165) rfl rfl (l' := #[.val (.int p1), .val (.int p2), .val (.int p3), .val (.int (0 : Int32)), .val (.int q1), .val (.int q2), .val (.int fol), .val (.ref b129), .val (.ref b129), .val (.ref T131.heap.size), .unset, .unset, .unset]) rfl ?_
        show Steps p.tables e below (T132.setTop (mkF m 167 #[.val (.int p1), .val (.int p2), .val (.int p3), .val (.int (0 : Int32)), .val (.int q1), .val (.int q2), .val (.int fol), .val (.ref b129), .val (.ref b129), .val (.ref T131.heap.size), .unset, .unset, .unset] [])) _
        refine XS.iloadN X132.here hx rfl (hb hby at_167) rfl ?_
        show Steps p.tables e below (T132.setTop (mkF m 168 #[.val (.int p1), .val (.int p2), .val (.int p3), .val (.int (0 : Int32)), .val (.int q1), .val (.int q2), .val (.int fol), .val (.ref b129), .val (.ref b129), .val (.ref T131.heap.size), .unset, .unset, .unset] [(.int (0 : Int32))])) _
        refine XS.ifNo X132.here hx rfl (hb hby at_168) rfl ((if0 _ _).trans (teq rfl).2) ?_
        exact kt
      have N9 : Fr s.heap.size _ := hn0 ▸ N132
      have hk9 : s.heap.size ≤ T132.heap.size := hn0 ▸ Nat.le_trans Zx1 K132.1
      obtain ⟨u2, T133, h133, k133, v2, c133, X133, e133, E133, hS133, hk133, hZ133, hown133, Ex133, Fc133, Fv133, Av133, lu133, lv133, I133, Li133, wh133, st133⟩ := ldcSVd (s := s) (vm0 := s.vm) (Z := Z) (own := "com/example/tenantd/tenantd/server/JsonWriterEndArrayPinLaw") (text := "]") (index := 42) X132 hx hZ hown (hw _ (List.mem_of_getElem? (i := 121) rfl)) wS rfl hS0 hk9 N9 hkeep hI0 (by simp) (hh0 ("com/example/tenantd/tenantd/server/JsonWriterEndArrayPinLaw", 42) (List.mem_of_getElem? (i := 0) rfl)) hcw (vs := (List.range 1).map fun i => Value.int (tf [(93 : Int32)] i)) (z := Int32.ofNat 1) ⟨by decide +kernel, by rfl⟩ (by decide) (by decide) (g := (mkF m 171 #[.val (.int p1), .val (.int p2), .val (.int p3), .val (.int (0 : Int32)), .val (.int q1), .val (.int q2), .val (.int fol), .val (.ref b129), .val (.ref b129), .val (.ref T131.heap.size), .unset, .unset, .unset] [])) rfl (hb hby at_171) (n := 28) (by decide) (by decide) (by decide) (by decide)
      refine EndsW.of st133 ?_
      refine EndsW.of (F' := T133.setTop (mkF m 240 #[.val (.int p1), .val (.int p2), .val (.int p3), .val (.int (0 : Int32)), .val (.int q1), .val (.int q2), .val (.int fol), .val (.ref b129), .val (.ref b129), .val (.ref T131.heap.size), .val (.ref u2), .unset, .unset] [])) (fun _ kt => ?_) ?_
      · show Steps p.tables e below (T133.setTop (mkF m 173 #[.val (.int p1), .val (.int p2), .val (.int p3), .val (.int (0 : Int32)), .val (.int q1), .val (.int q2), .val (.int fol), .val (.ref b129), .val (.ref b129), .val (.ref T131.heap.size), .unset, .unset, .unset] [(.ref u2)])) _
        refine XS.astore X133.here hx rfl (hb hby at_173) rfl rfl (l' := #[.val (.int p1), .val (.int p2), .val (.int p3), .val (.int (0 : Int32)), .val (.int q1), .val (.int q2), .val (.int fol), .val (.ref b129), .val (.ref b129), .val (.ref T131.heap.size), .val (.ref u2), .unset, .unset]) rfl ?_
        show Steps p.tables e below (T133.setTop (mkF m 175 #[.val (.int p1), .val (.int p2), .val (.int p3), .val (.int (0 : Int32)), .val (.int q1), .val (.int q2), .val (.int fol), .val (.ref b129), .val (.ref b129), .val (.ref T131.heap.size), .val (.ref u2), .unset, .unset] [])) _
        refine XS.goto X133.here hx rfl (pc0 := 175) (pc' := 240) rfl (hb hby at_175) (by decide) (by decide) ?_
        exact kt
      have Ay : Ary .byte Z h133 v2 1 (tf [(93 : Int32)]) := ⟨by decide, c133, Av133⟩
      have J9 := (Jx1.keep K132).ext E133
      have St9 := St132.ext E133
      have O9 := (Ox1.keep K132 all0).ext E133
      have g9 : T131.heap.size < T132.heap.size := St132.1.lt
      have ne9 : ¬ T131.heap.size = u2 := own_ne2 (Nat.le_trans (Nat.le_of_eq hn0) Zx1) g9 wh133
      exact tail T133.vm k133 _ _ _ b129 a b _ _ u2 v2 [(93 : Int32)] _ _ q2 fol (by decide) hq2 hfol hS133 hk133 hZ133 hown133 X133 e133 N132 O9 J9 St9 ⟨Ex133, Fc133, Fv133, Ay⟩ ne9 g_w g_a g_b (Nat.le_trans Zx1 (Nat.le_trans K132.1 E133.1))
    · refine EndsW.of (F' := T130.setTop (mkF m 55 #[.val (.int p1), .val (.int p2), .val (.int p3), .val (.int (1 : Int32)), .val (.int q1), .val (.int q2), .val (.int fol), .val (.ref b129), .unset, .unset, .unset, .unset, .unset] [(.ref b129)])) (fun _ kt => ?_) ?_
      · show Steps p.tables e below (T130.setTop (mkF m 48 #[.val (.int p1), .val (.int p2), .val (.int p3), .val (.int (1 : Int32)), .val (.int q1), .val (.int q2), .val (.int fol), .val (.ref b129), .unset, .unset, .unset, .unset, .unset] [])) _
        refine XS.iloadN X130.here hx rfl (hb hby at_48) rfl ?_
        show Steps p.tables e below (T130.setTop (mkF m 49 #[.val (.int p1), .val (.int p2), .val (.int p3), .val (.int (1 : Int32)), .val (.int q1), .val (.int q2), .val (.int fol), .val (.ref b129), .unset, .unset, .unset, .unset, .unset] [(.int (1 : Int32))])) _
        refine XS.iconst X130.here hx rfl (hb hby at_49) ?_
        show Steps p.tables e below (T130.setTop (mkF m 50 #[.val (.int p1), .val (.int p2), .val (.int p3), .val (.int (1 : Int32)), .val (.int q1), .val (.int q2), .val (.int fol), .val (.ref b129), .unset, .unset, .unset, .unset, .unset] [(.int (1 : Int32)), (.int (1 : Int32))])) _
        refine XS.icmpNo X130.here hx rfl (hb hby at_50) rfl (teq rfl).2 ?_
        show Steps p.tables e below (T130.setTop (mkF m 53 #[.val (.int p1), .val (.int p2), .val (.int p3), .val (.int (1 : Int32)), .val (.int q1), .val (.int q2), .val (.int fol), .val (.ref b129), .unset, .unset, .unset, .unset, .unset] [])) _
        refine XS.aload X130.here hx rfl (hb hby at_53) rfl rfl ?_
        exact kt
      obtain ⟨cq134, kq134, q134a, q134b, q134c⟩ := isOf hZ rfl J0.1
      obtain ⟨_, _, ⟨T134, L134, k134, n134⟩, -, X134, ⟨Lc134, hQ134, l134, y134, z134⟩, st134⟩ := X130.virtualBack hx (y := (⟨"com/example/tenantd/tenantd/server/JsonWriter", "array", "()Lcom/example/tenantd/tenantd/server/JsonWriter;"⟩ : MethodName)) (z := (⟨"com/example/tenantd/tenantd/server/JsonWriter", "array", "()Lcom/example/tenantd/tenantd/server/JsonWriter;"⟩ : MethodName)) hown (mvT hZ (hw _ (List.mem_of_getElem? (i := 144) rfl))) (mvT hZ (hw _ (List.mem_of_getElem? (i := 145) rfl))) (notFace_of_selects (args := #[]) (mvT hZ (hw _ (List.mem_of_getElem? (i := 147) rfl)))) (mvT hZ (hw _ (List.mem_of_getElem? (i := 147) rfl))) (mvT hZ (hw _ (List.mem_of_getElem? (i := 146) rfl))) (by decide) (backOf (W := 0) (jw_arr0 l Z a0 hw [] b129 a b [] cs T130.heap n0 Z2 S0 hcs O2 J0 (by decide) g_w g_a g_b) hZ (hw _ (List.mem_of_getElem? (i := 148) rfl)) (hw _ (List.mem_of_getElem? (i := 3) rfl)) (by decide) (by decide)) q134a q134c (g := (mkF m 55 #[.val (.int p1), .val (.int p2), .val (.int p3), .val (.int (1 : Int32)), .val (.int q1), .val (.int q2), .val (.int fol), .val (.ref b129), .unset, .unset, .unset, .unset, .unset] [(.ref b129)])) rfl (by rw [hml]; rfl) (Steps.refl _) (argsL := []) (rest := []) (lenOf pd_2 rfl) rfl (by show 2 * 0 + _ ≤ _; exact Nat.le_of_eq rfl) (hb hby at_55) (fun _ _ => ⟨rfl, rfl, (by decide : 3 + 0 ≤ _), (by decide : 262 + 0 ≤ _)⟩)
      dsimp only [Pt.U, Pt.locs, Pt.cells, Pt.slots] at X134 l134 y134 z134 st134 hQ134
      subst l134 y134 z134
      obtain ⟨rfl, N134q, K134, J134⟩ := hQ134
      have N134 := Fr.app N130 N134q
      refine EndsW.st st134 ?_
      have Jx1 : JWr Z T134.heap b129 a b [(91 : Int32)] (0 : Int32) := J134
      have Zx1 : n0 ≤ T134.heap.size := Nat.le_trans Z2 K134.1
      have Ox1 := O2.keep K134 (allS g_w (allS g_a (allS g_b all0)))
      refine EndsW.of (F' := T134.setTop (mkF m 155 #[.val (.int p1), .val (.int p2), .val (.int p3), .val (.int (1 : Int32)), .val (.int q1), .val (.int q2), .val (.int fol), .val (.ref b129), .unset, .unset, .unset, .unset, .unset] [(.ref b129)])) (fun _ kt => ?_) ?_
      · show Steps p.tables e below (T134.setTop (mkF m 58 #[.val (.int p1), .val (.int p2), .val (.int p3), .val (.int (1 : Int32)), .val (.int q1), .val (.int q2), .val (.int fol), .val (.ref b129), .unset, .unset, .unset, .unset, .unset] [(.ref b129)])) _
        refine XS.pop X134.here hx rfl (hb hby at_58) rfl rfl ?_
        show Steps p.tables e below (T134.setTop (mkF m 59 #[.val (.int p1), .val (.int p2), .val (.int p3), .val (.int (1 : Int32)), .val (.int q1), .val (.int q2), .val (.int fol), .val (.ref b129), .unset, .unset, .unset, .unset, .unset] [])) _
        refine XS.goto X134.here hx rfl (pc0 := 59) (pc' := 153) rfl (hb hby at_59) (by decide) (by decide) ?_
        show Steps p.tables e below (T134.setTop (mkF m 153 #[.val (.int p1), .val (.int p2), .val (.int p3), .val (.int (1 : Int32)), .val (.int q1), .val (.int q2), .val (.int fol), .val (.ref b129), .unset, .unset, .unset, .unset, .unset] [])) _
        refine XS.aload X134.here hx rfl (hb hby at_153) rfl rfl ?_
        exact kt
      obtain ⟨cq135, kq135, q135a, q135b, q135c⟩ := isOf hZ rfl Jx1.1
      obtain ⟨_, _, ⟨T135, L135, k135, n135⟩, -, X135, ⟨Lc135, hQ135, l135, y135, z135⟩, st135⟩ := X134.virtualBack hx (y := (⟨"com/example/tenantd/tenantd/server/JsonWriter", "endArray", "()Lcom/example/tenantd/tenantd/server/JsonWriter;"⟩ : MethodName)) (z := (⟨"com/example/tenantd/tenantd/server/JsonWriter", "endArray", "()Lcom/example/tenantd/tenantd/server/JsonWriter;"⟩ : MethodName)) hown (mvT hZ (hw _ (List.mem_of_getElem? (i := 32) rfl))) (mvT hZ (hw _ (List.mem_of_getElem? (i := 33) rfl))) (notFace_of_selects (args := #[]) (mvT hZ (hw _ (List.mem_of_getElem? (i := 35) rfl)))) (mvT hZ (hw _ (List.mem_of_getElem? (i := 35) rfl))) (mvT hZ (hw _ (List.mem_of_getElem? (i := 34) rfl))) (by decide) (backOf (W := 0) (jw_endA l Z a0 hw [] b129 a b [(91 : Int32)] cs (0 : Int32) T134.heap n0 Zx1 S0 hcs Ox1 Jx1 (by decide) g_w g_a g_b) hZ (hw _ (List.mem_of_getElem? (i := 36) rfl)) (hw _ (List.mem_of_getElem? (i := 3) rfl)) (by decide) (by decide)) q135a q135c (g := (mkF m 155 #[.val (.int p1), .val (.int p2), .val (.int p3), .val (.int (1 : Int32)), .val (.int q1), .val (.int q2), .val (.int fol), .val (.ref b129), .unset, .unset, .unset, .unset, .unset] [(.ref b129)])) rfl (by rw [hml]; rfl) (Steps.refl _) (argsL := []) (rest := []) (lenOf pd_2 rfl) rfl (by show 2 * 0 + _ ≤ _; exact Nat.le_of_eq rfl) (hb hby at_155) (fun _ _ => ⟨rfl, rfl, (by decide : 3 + 0 ≤ _), (by decide : 262 + 0 ≤ _)⟩)
      dsimp only [Pt.U, Pt.locs, Pt.cells, Pt.slots] at X135 l135 y135 z135 st135 hQ135
      subst l135 y135 z135
      obtain ⟨rfl, N135q, K135, J135⟩ := hQ135
      have N135 := Fr.app N134 N135q
      refine EndsW.st st135 ?_
      have Jx2 : JWr Z T135.heap b129 a b [(91 : Int32), (93 : Int32)] (1 : Int32) := J135
      have Zx2 : n0 ≤ T135.heap.size := Nat.le_trans Zx1 K135.1
      have Ox2 := Ox1.keep K135 (allS g_w (allS g_a (allS g_b all0)))
      refine EndsW.of (F' := T135.setTop (mkF m 162 #[.val (.int p1), .val (.int p2), .val (.int p3), .val (.int (1 : Int32)), .val (.int q1), .val (.int q2), .val (.int fol), .val (.ref b129), .val (.ref b129), .unset, .unset, .unset, .unset] [(.ref b129)])) (fun _ kt => ?_) ?_
      · show Steps p.tables e below (T135.setTop (mkF m 158 #[.val (.int p1), .val (.int p2), .val (.int p3), .val (.int (1 : Int32)), .val (.int q1), .val (.int q2), .val (.int fol), .val (.ref b129), .unset, .unset, .unset, .unset, .unset] [(.ref b129)])) _
        refine XS.astore X135.here hx rfl (hb hby at_158) rfl rfl (l' := #[.val (.int p1), .val (.int p2), .val (.int p3), .val (.int (1 : Int32)), .val (.int q1), .val (.int q2), .val (.int fol), .val (.ref b129), .val (.ref b129), .unset, .unset, .unset, .unset]) rfl ?_
        show Steps p.tables e below (T135.setTop (mkF m 160 #[.val (.int p1), .val (.int p2), .val (.int p3), .val (.int (1 : Int32)), .val (.int q1), .val (.int q2), .val (.int fol), .val (.ref b129), .val (.ref b129), .unset, .unset, .unset, .unset] [])) _
        refine XS.aload X135.here hx rfl (hb hby at_160) rfl rfl ?_
        exact kt
      obtain ⟨cq136, kq136, q136a, q136b, q136c⟩ := isOf hZ rfl Jx2.1
      obtain ⟨_, _, ⟨T136, L136, k136, n136⟩, -, X136, ⟨Lc136, hQ136, l136, y136, z136⟩, st136⟩ := X135.virtualBack hx (y := (⟨"com/example/tenantd/tenantd/server/JsonWriter", "toString", "()Ljava/lang/String;"⟩ : MethodName)) (z := (⟨"com/example/tenantd/tenantd/server/JsonWriter", "toString", "()Ljava/lang/String;"⟩ : MethodName)) hown (mvT hZ (hw _ (List.mem_of_getElem? (i := 65) rfl))) (mvT hZ (hw _ (List.mem_of_getElem? (i := 66) rfl))) (notFace_of_selects (args := #[]) (mvT hZ (hw _ (List.mem_of_getElem? (i := 68) rfl)))) (mvT hZ (hw _ (List.mem_of_getElem? (i := 68) rfl))) (mvT hZ (hw _ (List.mem_of_getElem? (i := 67) rfl))) (by decide) (backOf (W := 0) (jw_str l Z a0 hw [] b129 a b [(91 : Int32), (93 : Int32)] cs (1 : Int32) T135.heap n0 Zx2 S0 hcs Ox2 Jx2 (by decide)) hZ (hw _ (List.mem_of_getElem? (i := 69) rfl)) (hw _ (List.mem_of_getElem? (i := 3) rfl)) (by decide) (by decide)) q136a q136c (g := (mkF m 162 #[.val (.int p1), .val (.int p2), .val (.int p3), .val (.int (1 : Int32)), .val (.int q1), .val (.int q2), .val (.int fol), .val (.ref b129), .val (.ref b129), .unset, .unset, .unset, .unset] [(.ref b129)])) rfl (by rw [hml]; rfl) (Steps.refl _) (argsL := []) (rest := []) (lenOf pd_7 rfl) rfl (by show 2 * 0 + _ ≤ _; exact Nat.le_of_eq rfl) (hb hby at_162) (fun _ _ => ⟨rfl, rfl, (by decide : 3 + 2 ≤ _), (by decide : 262 + 20 ≤ _)⟩)
      dsimp only [Pt.U, Pt.locs, Pt.cells, Pt.slots] at X136 l136 y136 z136 st136 hQ136
      subst l136 y136 z136
      obtain ⟨d136, rfl, N136q, K136, St136, gd136⟩ := hQ136
      have N136 := Fr.app N135 N136q
      refine EndsW.st st136 ?_
      refine EndsW.of (F' := T136.setTop (mkF m 183 #[.val (.int p1), .val (.int p2), .val (.int p3), .val (.int (1 : Int32)), .val (.int q1), .val (.int q2), .val (.int fol), .val (.ref b129), .val (.ref b129), .val (.ref T135.heap.size), .unset, .unset, .unset] [])) (fun _ kt => ?_) ?_
      · show Steps p.tables e below (T136.setTop (mkF m 165 #[.val (.int p1), .val (.int p2), .val (.int p3), .val (.int (1 : Int32)), .val (.int q1), .val (.int q2), .val (.int fol), .val (.ref b129), .val (.ref b129), .unset, .unset, .unset, .unset] [(.ref T135.heap.size)])) _
        refine XS.astore X136.here hx rfl (hb hby at_165) rfl rfl (l' := #[.val (.int p1), .val (.int p2), .val (.int p3), .val (.int (1 : Int32)), .val (.int q1), .val (.int q2), .val (.int fol), .val (.ref b129), .val (.ref b129), .val (.ref T135.heap.size), .unset, .unset, .unset]) rfl ?_
        show Steps p.tables e below (T136.setTop (mkF m 167 #[.val (.int p1), .val (.int p2), .val (.int p3), .val (.int (1 : Int32)), .val (.int q1), .val (.int q2), .val (.int fol), .val (.ref b129), .val (.ref b129), .val (.ref T135.heap.size), .unset, .unset, .unset] [])) _
        refine XS.iloadN X136.here hx rfl (hb hby at_167) rfl ?_
        show Steps p.tables e below (T136.setTop (mkF m 168 #[.val (.int p1), .val (.int p2), .val (.int p3), .val (.int (1 : Int32)), .val (.int q1), .val (.int q2), .val (.int fol), .val (.ref b129), .val (.ref b129), .val (.ref T135.heap.size), .unset, .unset, .unset] [(.int (1 : Int32))])) _
        refine XS.ifYes X136.here hx rfl (pc0 := 168) (pc' := 178) rfl (hb hby at_168) rfl ((if0 _ _).trans (feq (by decide)).2) (by decide) (by decide) ?_
        show Steps p.tables e below (T136.setTop (mkF m 178 #[.val (.int p1), .val (.int p2), .val (.int p3), .val (.int (1 : Int32)), .val (.int q1), .val (.int q2), .val (.int fol), .val (.ref b129), .val (.ref b129), .val (.ref T135.heap.size), .unset, .unset, .unset] [])) _
        refine XS.iloadN X136.here hx rfl (hb hby at_178) rfl ?_
        show Steps p.tables e below (T136.setTop (mkF m 179 #[.val (.int p1), .val (.int p2), .val (.int p3), .val (.int (1 : Int32)), .val (.int q1), .val (.int q2), .val (.int fol), .val (.ref b129), .val (.ref b129), .val (.ref T135.heap.size), .unset, .unset, .unset] [(.int (1 : Int32))])) _
        refine XS.iconst X136.here hx rfl (hb hby at_179) ?_
        show Steps p.tables e below (T136.setTop (mkF m 180 #[.val (.int p1), .val (.int p2), .val (.int p3), .val (.int (1 : Int32)), .val (.int q1), .val (.int q2), .val (.int fol), .val (.ref b129), .val (.ref b129), .val (.ref T135.heap.size), .unset, .unset, .unset] [(.int (1 : Int32)), (.int (1 : Int32))])) _
        refine XS.icmpNo X136.here hx rfl (hb hby at_180) rfl (teq rfl).2 ?_
        exact kt
      have N9 : Fr s.heap.size _ := hn0 ▸ N136
      have hk9 : s.heap.size ≤ T136.heap.size := hn0 ▸ Nat.le_trans Zx2 K136.1
      obtain ⟨u2, T137, h137, k137, v2, c137, X137, e137, E137, hS137, hk137, hZ137, hown137, Ex137, Fc137, Fv137, Av137, lu137, lv137, I137, Li137, wh137, st137⟩ := ldcSVd (s := s) (vm0 := s.vm) (Z := Z) (own := "com/example/tenantd/tenantd/server/JsonWriterEndArrayPinLaw") (text := "[]") (index := 44) X136 hx hZ hown (hw _ (List.mem_of_getElem? (i := 178) rfl)) wS rfl hS0 hk9 N9 hkeep hI0 (by simp) (hh0 ("com/example/tenantd/tenantd/server/JsonWriterEndArrayPinLaw", 44) (List.mem_of_getElem? (i := 1) rfl)) hcw (vs := (List.range 2).map fun i => Value.int (tf [(91 : Int32), (93 : Int32)] i)) (z := Int32.ofNat 2) ⟨by decide +kernel, by rfl⟩ (by decide) (by decide) (g := (mkF m 183 #[.val (.int p1), .val (.int p2), .val (.int p3), .val (.int (1 : Int32)), .val (.int q1), .val (.int q2), .val (.int fol), .val (.ref b129), .val (.ref b129), .val (.ref T135.heap.size), .unset, .unset, .unset] [])) rfl (hb hby at_183) (n := 28) (by decide) (by decide) (by decide) (by decide)
      refine EndsW.of st137 ?_
      refine EndsW.of (F' := T137.setTop (mkF m 240 #[.val (.int p1), .val (.int p2), .val (.int p3), .val (.int (1 : Int32)), .val (.int q1), .val (.int q2), .val (.int fol), .val (.ref b129), .val (.ref b129), .val (.ref T135.heap.size), .val (.ref u2), .unset, .unset] [])) (fun _ kt => ?_) ?_
      · show Steps p.tables e below (T137.setTop (mkF m 185 #[.val (.int p1), .val (.int p2), .val (.int p3), .val (.int (1 : Int32)), .val (.int q1), .val (.int q2), .val (.int fol), .val (.ref b129), .val (.ref b129), .val (.ref T135.heap.size), .unset, .unset, .unset] [(.ref u2)])) _
        refine XS.astore X137.here hx rfl (hb hby at_185) rfl rfl (l' := #[.val (.int p1), .val (.int p2), .val (.int p3), .val (.int (1 : Int32)), .val (.int q1), .val (.int q2), .val (.int fol), .val (.ref b129), .val (.ref b129), .val (.ref T135.heap.size), .val (.ref u2), .unset, .unset]) rfl ?_
        show Steps p.tables e below (T137.setTop (mkF m 187 #[.val (.int p1), .val (.int p2), .val (.int p3), .val (.int (1 : Int32)), .val (.int q1), .val (.int q2), .val (.int fol), .val (.ref b129), .val (.ref b129), .val (.ref T135.heap.size), .val (.ref u2), .unset, .unset] [])) _
        refine XS.goto X137.here hx rfl (pc0 := 187) (pc' := 240) rfl (hb hby at_187) (by decide) (by decide) ?_
        exact kt
      have Ay : Ary .byte Z h137 v2 2 (tf [(91 : Int32), (93 : Int32)]) := ⟨by decide, c137, Av137⟩
      have J9 := (Jx2.keep K136).ext E137
      have St9 := St136.ext E137
      have O9 := (Ox2.keep K136 all0).ext E137
      have g9 : T135.heap.size < T136.heap.size := St136.1.lt
      have ne9 : ¬ T135.heap.size = u2 := own_ne2 (Nat.le_trans (Nat.le_of_eq hn0) Zx2) g9 wh137
      exact tail T137.vm k137 _ _ _ b129 a b _ _ u2 v2 [(91 : Int32), (93 : Int32)] _ _ q2 fol (by decide) hq2 hfol hS137 hk137 hZ137 hown137 X137 e137 N136 O9 J9 St9 ⟨Ex137, Fc137, Fv137, Ay⟩ ne9 g_w g_a g_b (Nat.le_trans Zx2 (Nat.le_trans K136.1 E137.1))
    · rcases hq1 with rfl | rfl
      · refine EndsW.of (F' := T130.setTop (mkF m 69 #[.val (.int p1), .val (.int p2), .val (.int p3), .val (.int (2 : Int32)), .val (.int (0 : Int32)), .val (.int q2), .val (.int fol), .val (.ref b129), .unset, .unset, .unset, .unset, .unset] [(.ref b129)])) (fun _ kt => ?_) ?_
        · show Steps p.tables e below (T130.setTop (mkF m 48 #[.val (.int p1), .val (.int p2), .val (.int p3), .val (.int (2 : Int32)), .val (.int (0 : Int32)), .val (.int q2), .val (.int fol), .val (.ref b129), .unset, .unset, .unset, .unset, .unset] [])) _
          refine XS.iloadN X130.here hx rfl (hb hby at_48) rfl ?_
          show Steps p.tables e below (T130.setTop (mkF m 49 #[.val (.int p1), .val (.int p2), .val (.int p3), .val (.int (2 : Int32)), .val (.int (0 : Int32)), .val (.int q2), .val (.int fol), .val (.ref b129), .unset, .unset, .unset, .unset, .unset] [(.int (2 : Int32))])) _
          refine XS.iconst X130.here hx rfl (hb hby at_49) ?_
          show Steps p.tables e below (T130.setTop (mkF m 50 #[.val (.int p1), .val (.int p2), .val (.int p3), .val (.int (2 : Int32)), .val (.int (0 : Int32)), .val (.int q2), .val (.int fol), .val (.ref b129), .unset, .unset, .unset, .unset, .unset] [(.int (1 : Int32)), (.int (2 : Int32))])) _
          refine XS.icmpYes X130.here hx rfl (pc0 := 50) (pc' := 62) rfl (hb hby at_50) rfl (feq (by decide)).2 (by decide) (by decide) ?_
          show Steps p.tables e below (T130.setTop (mkF m 62 #[.val (.int p1), .val (.int p2), .val (.int p3), .val (.int (2 : Int32)), .val (.int (0 : Int32)), .val (.int q2), .val (.int fol), .val (.ref b129), .unset, .unset, .unset, .unset, .unset] [])) _
          refine XS.iloadN X130.here hx rfl (hb hby at_62) rfl ?_
          show Steps p.tables e below (T130.setTop (mkF m 63 #[.val (.int p1), .val (.int p2), .val (.int p3), .val (.int (2 : Int32)), .val (.int (0 : Int32)), .val (.int q2), .val (.int fol), .val (.ref b129), .unset, .unset, .unset, .unset, .unset] [(.int (2 : Int32))])) _
          refine XS.iconst X130.here hx rfl (hb hby at_63) ?_
          show Steps p.tables e below (T130.setTop (mkF m 64 #[.val (.int p1), .val (.int p2), .val (.int p3), .val (.int (2 : Int32)), .val (.int (0 : Int32)), .val (.int q2), .val (.int fol), .val (.ref b129), .unset, .unset, .unset, .unset, .unset] [(.int (2 : Int32)), (.int (2 : Int32))])) _
          refine XS.icmpNo X130.here hx rfl (hb hby at_64) rfl (teq rfl).2 ?_
          show Steps p.tables e below (T130.setTop (mkF m 67 #[.val (.int p1), .val (.int p2), .val (.int p3), .val (.int (2 : Int32)), .val (.int (0 : Int32)), .val (.int q2), .val (.int fol), .val (.ref b129), .unset, .unset, .unset, .unset, .unset] [])) _
          refine XS.aload X130.here hx rfl (hb hby at_67) rfl rfl ?_
          exact kt
        obtain ⟨cq138, kq138, q138a, q138b, q138c⟩ := isOf hZ rfl J0.1
        obtain ⟨_, _, ⟨T138, L138, k138, n138⟩, -, X138, ⟨Lc138, hQ138, l138, y138, z138⟩, st138⟩ := X130.virtualBack hx (y := (⟨"com/example/tenantd/tenantd/server/JsonWriter", "array", "()Lcom/example/tenantd/tenantd/server/JsonWriter;"⟩ : MethodName)) (z := (⟨"com/example/tenantd/tenantd/server/JsonWriter", "array", "()Lcom/example/tenantd/tenantd/server/JsonWriter;"⟩ : MethodName)) hown (mvT hZ (hw _ (List.mem_of_getElem? (i := 144) rfl))) (mvT hZ (hw _ (List.mem_of_getElem? (i := 145) rfl))) (notFace_of_selects (args := #[]) (mvT hZ (hw _ (List.mem_of_getElem? (i := 147) rfl)))) (mvT hZ (hw _ (List.mem_of_getElem? (i := 147) rfl))) (mvT hZ (hw _ (List.mem_of_getElem? (i := 146) rfl))) (by decide) (backOf (W := 0) (jw_arr0 l Z a0 hw [] b129 a b [] cs T130.heap n0 Z2 S0 hcs O2 J0 (by decide) g_w g_a g_b) hZ (hw _ (List.mem_of_getElem? (i := 148) rfl)) (hw _ (List.mem_of_getElem? (i := 3) rfl)) (by decide) (by decide)) q138a q138c (g := (mkF m 69 #[.val (.int p1), .val (.int p2), .val (.int p3), .val (.int (2 : Int32)), .val (.int (0 : Int32)), .val (.int q2), .val (.int fol), .val (.ref b129), .unset, .unset, .unset, .unset, .unset] [(.ref b129)])) rfl (by rw [hml]; rfl) (Steps.refl _) (argsL := []) (rest := []) (lenOf pd_2 rfl) rfl (by show 2 * 0 + _ ≤ _; exact Nat.le_of_eq rfl) (hb hby at_69) (fun _ _ => ⟨rfl, rfl, (by decide : 3 + 0 ≤ _), (by decide : 262 + 0 ≤ _)⟩)
        dsimp only [Pt.U, Pt.locs, Pt.cells, Pt.slots] at X138 l138 y138 z138 st138 hQ138
        subst l138 y138 z138
        obtain ⟨rfl, N138q, K138, J138⟩ := hQ138
        have N138 := Fr.app N130 N138q
        refine EndsW.st st138 ?_
        have Jx1 : JWr Z T138.heap b129 a b [(91 : Int32)] (0 : Int32) := J138
        have Zx1 : n0 ≤ T138.heap.size := Nat.le_trans Z2 K138.1
        have Ox1 := O2.keep K138 (allS g_w (allS g_a (allS g_b all0)))
        refine EndsW.of (F' := T138.setTop (mkF m 77 #[.val (.int p1), .val (.int p2), .val (.int p3), .val (.int (2 : Int32)), .val (.int (0 : Int32)), .val (.int q2), .val (.int fol), .val (.ref b129), .unset, .unset, .unset, .unset, .unset] [(.int (0 : Int32)), (.ref b129)])) (fun _ kt => ?_) ?_
        · show Steps p.tables e below (T138.setTop (mkF m 72 #[.val (.int p1), .val (.int p2), .val (.int p3), .val (.int (2 : Int32)), .val (.int (0 : Int32)), .val (.int q2), .val (.int fol), .val (.ref b129), .unset, .unset, .unset, .unset, .unset] [(.ref b129)])) _
          refine XS.pop X138.here hx rfl (hb hby at_72) rfl rfl ?_
          show Steps p.tables e below (T138.setTop (mkF m 73 #[.val (.int p1), .val (.int p2), .val (.int p3), .val (.int (2 : Int32)), .val (.int (0 : Int32)), .val (.int q2), .val (.int fol), .val (.ref b129), .unset, .unset, .unset, .unset, .unset] [])) _
          refine XS.aload X138.here hx rfl (hb hby at_73) rfl rfl ?_
          show Steps p.tables e below (T138.setTop (mkF m 75 #[.val (.int p1), .val (.int p2), .val (.int p3), .val (.int (2 : Int32)), .val (.int (0 : Int32)), .val (.int q2), .val (.int fol), .val (.ref b129), .unset, .unset, .unset, .unset, .unset] [(.ref b129)])) _
          refine XS.iload X138.here hx rfl (hb hby at_75) rfl ?_
          exact kt
        obtain ⟨cq139, kq139, q139a, q139b, q139c⟩ := isOf hZ rfl Jx1.1
        obtain ⟨_, _, ⟨T139, L139, k139, n139⟩, -, X139, ⟨Lc139, hQ139, l139, y139, z139⟩, st139⟩ := X138.virtualBack hx (y := (⟨"com/example/tenantd/tenantd/server/JsonWriter", "value", "(Z)Lcom/example/tenantd/tenantd/server/JsonWriter;"⟩ : MethodName)) (z := (⟨"com/example/tenantd/tenantd/server/JsonWriter", "value", "(Z)Lcom/example/tenantd/tenantd/server/JsonWriter;"⟩ : MethodName)) hown (mvT hZ (hw _ (List.mem_of_getElem? (i := 179) rfl))) (mvT hZ (hw _ (List.mem_of_getElem? (i := 180) rfl))) (notFace_of_selects (args := #[]) (mvT hZ (hw _ (List.mem_of_getElem? (i := 182) rfl)))) (mvT hZ (hw _ (List.mem_of_getElem? (i := 182) rfl))) (mvT hZ (hw _ (List.mem_of_getElem? (i := 181) rfl))) (by decide) (backOf (W := 0) (jw_val00 l Z a0 hw [] b129 a b [(91 : Int32)] cs T138.heap n0 Zx1 S0 hcs Ox1 Jx1 (by decide) g_w g_a g_b) hZ (hw _ (List.mem_of_getElem? (i := 183) rfl)) (hw _ (List.mem_of_getElem? (i := 3) rfl)) (by decide) (by decide)) q139a q139c (g := (mkF m 77 #[.val (.int p1), .val (.int p2), .val (.int p3), .val (.int (2 : Int32)), .val (.int (0 : Int32)), .val (.int q2), .val (.int fol), .val (.ref b129), .unset, .unset, .unset, .unset, .unset] [(.int (0 : Int32)), (.ref b129)])) rfl (by rw [hml]; rfl) (Steps.refl _) (argsL := [(.int (0 : Int32))]) (rest := []) (lenOf pd_23 rfl) rfl (by show 2 * 0 + _ ≤ _; exact Nat.le_of_eq rfl) (hb hby at_77) (fun _ _ => ⟨rfl, rfl, (by decide : 3 + 0 ≤ _), (by decide : 262 + 0 ≤ _)⟩)
        dsimp only [Pt.U, Pt.locs, Pt.cells, Pt.slots] at X139 l139 y139 z139 st139 hQ139
        subst l139 y139 z139
        obtain ⟨rfl, N139q, K139, J139⟩ := hQ139
        have N139 := Fr.app N138 N139q
        refine EndsW.st st139 ?_
        have Jx2 : JWr Z T139.heap b129 a b [(91 : Int32), (102 : Int32), (97 : Int32), (108 : Int32), (115 : Int32), (101 : Int32)] (1 : Int32) := J139
        have Zx2 : n0 ≤ T139.heap.size := Nat.le_trans Zx1 K139.1
        have Ox2 := Ox1.keep K139 (allS g_w (allS g_a (allS g_b all0)))
        refine EndsW.of (F' := T139.setTop (mkF m 155 #[.val (.int p1), .val (.int p2), .val (.int p3), .val (.int (2 : Int32)), .val (.int (0 : Int32)), .val (.int q2), .val (.int fol), .val (.ref b129), .unset, .unset, .unset, .unset, .unset] [(.ref b129)])) (fun _ kt => ?_) ?_
        · show Steps p.tables e below (T139.setTop (mkF m 80 #[.val (.int p1), .val (.int p2), .val (.int p3), .val (.int (2 : Int32)), .val (.int (0 : Int32)), .val (.int q2), .val (.int fol), .val (.ref b129), .unset, .unset, .unset, .unset, .unset] [(.ref b129)])) _
          refine XS.pop X139.here hx rfl (hb hby at_80) rfl rfl ?_
          show Steps p.tables e below (T139.setTop (mkF m 81 #[.val (.int p1), .val (.int p2), .val (.int p3), .val (.int (2 : Int32)), .val (.int (0 : Int32)), .val (.int q2), .val (.int fol), .val (.ref b129), .unset, .unset, .unset, .unset, .unset] [])) _
          refine XS.goto X139.here hx rfl (pc0 := 81) (pc' := 153) rfl (hb hby at_81) (by decide) (by decide) ?_
          show Steps p.tables e below (T139.setTop (mkF m 153 #[.val (.int p1), .val (.int p2), .val (.int p3), .val (.int (2 : Int32)), .val (.int (0 : Int32)), .val (.int q2), .val (.int fol), .val (.ref b129), .unset, .unset, .unset, .unset, .unset] [])) _
          refine XS.aload X139.here hx rfl (hb hby at_153) rfl rfl ?_
          exact kt
        obtain ⟨cq140, kq140, q140a, q140b, q140c⟩ := isOf hZ rfl Jx2.1
        obtain ⟨_, _, ⟨T140, L140, k140, n140⟩, -, X140, ⟨Lc140, hQ140, l140, y140, z140⟩, st140⟩ := X139.virtualBack hx (y := (⟨"com/example/tenantd/tenantd/server/JsonWriter", "endArray", "()Lcom/example/tenantd/tenantd/server/JsonWriter;"⟩ : MethodName)) (z := (⟨"com/example/tenantd/tenantd/server/JsonWriter", "endArray", "()Lcom/example/tenantd/tenantd/server/JsonWriter;"⟩ : MethodName)) hown (mvT hZ (hw _ (List.mem_of_getElem? (i := 32) rfl))) (mvT hZ (hw _ (List.mem_of_getElem? (i := 33) rfl))) (notFace_of_selects (args := #[]) (mvT hZ (hw _ (List.mem_of_getElem? (i := 35) rfl)))) (mvT hZ (hw _ (List.mem_of_getElem? (i := 35) rfl))) (mvT hZ (hw _ (List.mem_of_getElem? (i := 34) rfl))) (by decide) (backOf (W := 0) (jw_endA l Z a0 hw [] b129 a b [(91 : Int32), (102 : Int32), (97 : Int32), (108 : Int32), (115 : Int32), (101 : Int32)] cs (1 : Int32) T139.heap n0 Zx2 S0 hcs Ox2 Jx2 (by decide) g_w g_a g_b) hZ (hw _ (List.mem_of_getElem? (i := 36) rfl)) (hw _ (List.mem_of_getElem? (i := 3) rfl)) (by decide) (by decide)) q140a q140c (g := (mkF m 155 #[.val (.int p1), .val (.int p2), .val (.int p3), .val (.int (2 : Int32)), .val (.int (0 : Int32)), .val (.int q2), .val (.int fol), .val (.ref b129), .unset, .unset, .unset, .unset, .unset] [(.ref b129)])) rfl (by rw [hml]; rfl) (Steps.refl _) (argsL := []) (rest := []) (lenOf pd_2 rfl) rfl (by show 2 * 0 + _ ≤ _; exact Nat.le_of_eq rfl) (hb hby at_155) (fun _ _ => ⟨rfl, rfl, (by decide : 3 + 0 ≤ _), (by decide : 262 + 0 ≤ _)⟩)
        dsimp only [Pt.U, Pt.locs, Pt.cells, Pt.slots] at X140 l140 y140 z140 st140 hQ140
        subst l140 y140 z140
        obtain ⟨rfl, N140q, K140, J140⟩ := hQ140
        have N140 := Fr.app N139 N140q
        refine EndsW.st st140 ?_
        have Jx3 : JWr Z T140.heap b129 a b [(91 : Int32), (102 : Int32), (97 : Int32), (108 : Int32), (115 : Int32), (101 : Int32), (93 : Int32)] (1 : Int32) := J140
        have Zx3 : n0 ≤ T140.heap.size := Nat.le_trans Zx2 K140.1
        have Ox3 := Ox2.keep K140 (allS g_w (allS g_a (allS g_b all0)))
        refine EndsW.of (F' := T140.setTop (mkF m 162 #[.val (.int p1), .val (.int p2), .val (.int p3), .val (.int (2 : Int32)), .val (.int (0 : Int32)), .val (.int q2), .val (.int fol), .val (.ref b129), .val (.ref b129), .unset, .unset, .unset, .unset] [(.ref b129)])) (fun _ kt => ?_) ?_
        · show Steps p.tables e below (T140.setTop (mkF m 158 #[.val (.int p1), .val (.int p2), .val (.int p3), .val (.int (2 : Int32)), .val (.int (0 : Int32)), .val (.int q2), .val (.int fol), .val (.ref b129), .unset, .unset, .unset, .unset, .unset] [(.ref b129)])) _
          refine XS.astore X140.here hx rfl (hb hby at_158) rfl rfl (l' := #[.val (.int p1), .val (.int p2), .val (.int p3), .val (.int (2 : Int32)), .val (.int (0 : Int32)), .val (.int q2), .val (.int fol), .val (.ref b129), .val (.ref b129), .unset, .unset, .unset, .unset]) rfl ?_
          show Steps p.tables e below (T140.setTop (mkF m 160 #[.val (.int p1), .val (.int p2), .val (.int p3), .val (.int (2 : Int32)), .val (.int (0 : Int32)), .val (.int q2), .val (.int fol), .val (.ref b129), .val (.ref b129), .unset, .unset, .unset, .unset] [])) _
          refine XS.aload X140.here hx rfl (hb hby at_160) rfl rfl ?_
          exact kt
        obtain ⟨cq141, kq141, q141a, q141b, q141c⟩ := isOf hZ rfl Jx3.1
        obtain ⟨_, _, ⟨T141, L141, k141, n141⟩, -, X141, ⟨Lc141, hQ141, l141, y141, z141⟩, st141⟩ := X140.virtualBack hx (y := (⟨"com/example/tenantd/tenantd/server/JsonWriter", "toString", "()Ljava/lang/String;"⟩ : MethodName)) (z := (⟨"com/example/tenantd/tenantd/server/JsonWriter", "toString", "()Ljava/lang/String;"⟩ : MethodName)) hown (mvT hZ (hw _ (List.mem_of_getElem? (i := 65) rfl))) (mvT hZ (hw _ (List.mem_of_getElem? (i := 66) rfl))) (notFace_of_selects (args := #[]) (mvT hZ (hw _ (List.mem_of_getElem? (i := 68) rfl)))) (mvT hZ (hw _ (List.mem_of_getElem? (i := 68) rfl))) (mvT hZ (hw _ (List.mem_of_getElem? (i := 67) rfl))) (by decide) (backOf (W := 0) (jw_str l Z a0 hw [] b129 a b [(91 : Int32), (102 : Int32), (97 : Int32), (108 : Int32), (115 : Int32), (101 : Int32), (93 : Int32)] cs (1 : Int32) T140.heap n0 Zx3 S0 hcs Ox3 Jx3 (by decide)) hZ (hw _ (List.mem_of_getElem? (i := 69) rfl)) (hw _ (List.mem_of_getElem? (i := 3) rfl)) (by decide) (by decide)) q141a q141c (g := (mkF m 162 #[.val (.int p1), .val (.int p2), .val (.int p3), .val (.int (2 : Int32)), .val (.int (0 : Int32)), .val (.int q2), .val (.int fol), .val (.ref b129), .val (.ref b129), .unset, .unset, .unset, .unset] [(.ref b129)])) rfl (by rw [hml]; rfl) (Steps.refl _) (argsL := []) (rest := []) (lenOf pd_7 rfl) rfl (by show 2 * 0 + _ ≤ _; exact Nat.le_of_eq rfl) (hb hby at_162) (fun _ _ => ⟨rfl, rfl, (by decide : 3 + 2 ≤ _), (by decide : 262 + 20 ≤ _)⟩)
        dsimp only [Pt.U, Pt.locs, Pt.cells, Pt.slots] at X141 l141 y141 z141 st141 hQ141
        subst l141 y141 z141
        obtain ⟨d141, rfl, N141q, K141, St141, gd141⟩ := hQ141
        have N141 := Fr.app N140 N141q
        refine EndsW.st st141 ?_
        refine EndsW.of (F' := T141.setTop (mkF m 205 #[.val (.int p1), .val (.int p2), .val (.int p3), .val (.int (2 : Int32)), .val (.int (0 : Int32)), .val (.int q2), .val (.int fol), .val (.ref b129), .val (.ref b129), .val (.ref T140.heap.size), .unset, .unset, .unset] [])) (fun _ kt => ?_) ?_
        · show Steps p.tables e below (T141.setTop (mkF m 165 #[.val (.int p1), .val (.int p2), .val (.int p3), .val (.int (2 : Int32)), .val (.int (0 : Int32)), .val (.int q2), .val (.int fol), .val (.ref b129), .val (.ref b129), .unset, .unset, .unset, .unset] [(.ref T140.heap.size)])) _
          refine XS.astore X141.here hx rfl (hb hby at_165) rfl rfl (l' := #[.val (.int p1), .val (.int p2), .val (.int p3), .val (.int (2 : Int32)), .val (.int (0 : Int32)), .val (.int q2), .val (.int fol), .val (.ref b129), .val (.ref b129), .val (.ref T140.heap.size), .unset, .unset, .unset]) rfl ?_
          show Steps p.tables e below (T141.setTop (mkF m 167 #[.val (.int p1), .val (.int p2), .val (.int p3), .val (.int (2 : Int32)), .val (.int (0 : Int32)), .val (.int q2), .val (.int fol), .val (.ref b129), .val (.ref b129), .val (.ref T140.heap.size), .unset, .unset, .unset] [])) _
          refine XS.iloadN X141.here hx rfl (hb hby at_167) rfl ?_
          show Steps p.tables e below (T141.setTop (mkF m 168 #[.val (.int p1), .val (.int p2), .val (.int p3), .val (.int (2 : Int32)), .val (.int (0 : Int32)), .val (.int q2), .val (.int fol), .val (.ref b129), .val (.ref b129), .val (.ref T140.heap.size), .unset, .unset, .unset] [(.int (2 : Int32))])) _
          refine XS.ifYes X141.here hx rfl (pc0 := 168) (pc' := 178) rfl (hb hby at_168) rfl ((if0 _ _).trans (feq (by decide)).2) (by decide) (by decide) ?_
          show Steps p.tables e below (T141.setTop (mkF m 178 #[.val (.int p1), .val (.int p2), .val (.int p3), .val (.int (2 : Int32)), .val (.int (0 : Int32)), .val (.int q2), .val (.int fol), .val (.ref b129), .val (.ref b129), .val (.ref T140.heap.size), .unset, .unset, .unset] [])) _
          refine XS.iloadN X141.here hx rfl (hb hby at_178) rfl ?_
          show Steps p.tables e below (T141.setTop (mkF m 179 #[.val (.int p1), .val (.int p2), .val (.int p3), .val (.int (2 : Int32)), .val (.int (0 : Int32)), .val (.int q2), .val (.int fol), .val (.ref b129), .val (.ref b129), .val (.ref T140.heap.size), .unset, .unset, .unset] [(.int (2 : Int32))])) _
          refine XS.iconst X141.here hx rfl (hb hby at_179) ?_
          show Steps p.tables e below (T141.setTop (mkF m 180 #[.val (.int p1), .val (.int p2), .val (.int p3), .val (.int (2 : Int32)), .val (.int (0 : Int32)), .val (.int q2), .val (.int fol), .val (.ref b129), .val (.ref b129), .val (.ref T140.heap.size), .unset, .unset, .unset] [(.int (1 : Int32)), (.int (2 : Int32))])) _
          refine XS.icmpYes X141.here hx rfl (pc0 := 180) (pc' := 190) rfl (hb hby at_180) rfl (feq (by decide)).2 (by decide) (by decide) ?_
          show Steps p.tables e below (T141.setTop (mkF m 190 #[.val (.int p1), .val (.int p2), .val (.int p3), .val (.int (2 : Int32)), .val (.int (0 : Int32)), .val (.int q2), .val (.int fol), .val (.ref b129), .val (.ref b129), .val (.ref T140.heap.size), .unset, .unset, .unset] [])) _
          refine XS.iloadN X141.here hx rfl (hb hby at_190) rfl ?_
          show Steps p.tables e below (T141.setTop (mkF m 191 #[.val (.int p1), .val (.int p2), .val (.int p3), .val (.int (2 : Int32)), .val (.int (0 : Int32)), .val (.int q2), .val (.int fol), .val (.ref b129), .val (.ref b129), .val (.ref T140.heap.size), .unset, .unset, .unset] [(.int (2 : Int32))])) _
          refine XS.iconst X141.here hx rfl (hb hby at_191) ?_
          show Steps p.tables e below (T141.setTop (mkF m 192 #[.val (.int p1), .val (.int p2), .val (.int p3), .val (.int (2 : Int32)), .val (.int (0 : Int32)), .val (.int q2), .val (.int fol), .val (.ref b129), .val (.ref b129), .val (.ref T140.heap.size), .unset, .unset, .unset] [(.int (2 : Int32)), (.int (2 : Int32))])) _
          refine XS.icmpNo X141.here hx rfl (hb hby at_192) rfl (teq rfl).2 ?_
          show Steps p.tables e below (T141.setTop (mkF m 195 #[.val (.int p1), .val (.int p2), .val (.int p3), .val (.int (2 : Int32)), .val (.int (0 : Int32)), .val (.int q2), .val (.int fol), .val (.ref b129), .val (.ref b129), .val (.ref T140.heap.size), .unset, .unset, .unset] [])) _
          refine XS.iload X141.here hx rfl (hb hby at_195) rfl ?_
          show Steps p.tables e below (T141.setTop (mkF m 197 #[.val (.int p1), .val (.int p2), .val (.int p3), .val (.int (2 : Int32)), .val (.int (0 : Int32)), .val (.int q2), .val (.int fol), .val (.ref b129), .val (.ref b129), .val (.ref T140.heap.size), .unset, .unset, .unset] [(.int (0 : Int32))])) _
          refine XS.ifYes X141.here hx rfl (pc0 := 197) (pc' := 205) rfl (hb hby at_197) rfl ((if0 _ _).trans (teq rfl).1) (by decide) (by decide) ?_
          exact kt
        have N9 : Fr s.heap.size _ := hn0 ▸ N141
        have hk9 : s.heap.size ≤ T141.heap.size := hn0 ▸ Nat.le_trans Zx3 K141.1
        obtain ⟨u2, T142, h142, k142, v2, c142, X142, e142, E142, hS142, hk142, hZ142, hown142, Ex142, Fc142, Fv142, Av142, lu142, lv142, I142, Li142, wh142, st142⟩ := ldcSVd (s := s) (vm0 := s.vm) (Z := Z) (own := "com/example/tenantd/tenantd/server/JsonWriterEndArrayPinLaw") (text := "[false]") (index := 48) X141 hx hZ hown (hw _ (List.mem_of_getElem? (i := 193) rfl)) wS rfl hS0 hk9 N9 hkeep hI0 (by simp) (hh0 ("com/example/tenantd/tenantd/server/JsonWriterEndArrayPinLaw", 48) (List.mem_of_getElem? (i := 3) rfl)) hcw (vs := (List.range 7).map fun i => Value.int (tf [(91 : Int32), (102 : Int32), (97 : Int32), (108 : Int32), (115 : Int32), (101 : Int32), (93 : Int32)] i)) (z := Int32.ofNat 7) ⟨by decide +kernel, by rfl⟩ (by decide) (by decide) (g := (mkF m 205 #[.val (.int p1), .val (.int p2), .val (.int p3), .val (.int (2 : Int32)), .val (.int (0 : Int32)), .val (.int q2), .val (.int fol), .val (.ref b129), .val (.ref b129), .val (.ref T140.heap.size), .unset, .unset, .unset] [])) rfl (hb hby at_205) (n := 28) (by decide) (by decide) (by decide) (by decide)
        refine EndsW.of st142 ?_
        refine EndsW.of (F' := T142.setTop (mkF m 240 #[.val (.int p1), .val (.int p2), .val (.int p3), .val (.int (2 : Int32)), .val (.int (0 : Int32)), .val (.int q2), .val (.int fol), .val (.ref b129), .val (.ref b129), .val (.ref T140.heap.size), .val (.ref u2), .unset, .unset] [])) (fun _ kt => ?_) ?_
        · show Steps p.tables e below (T142.setTop (mkF m 207 #[.val (.int p1), .val (.int p2), .val (.int p3), .val (.int (2 : Int32)), .val (.int (0 : Int32)), .val (.int q2), .val (.int fol), .val (.ref b129), .val (.ref b129), .val (.ref T140.heap.size), .unset, .unset, .unset] [(.ref u2)])) _
          refine XS.astore X142.here hx rfl (hb hby at_207) rfl rfl (l' := #[.val (.int p1), .val (.int p2), .val (.int p3), .val (.int (2 : Int32)), .val (.int (0 : Int32)), .val (.int q2), .val (.int fol), .val (.ref b129), .val (.ref b129), .val (.ref T140.heap.size), .val (.ref u2), .unset, .unset]) rfl ?_
          show Steps p.tables e below (T142.setTop (mkF m 209 #[.val (.int p1), .val (.int p2), .val (.int p3), .val (.int (2 : Int32)), .val (.int (0 : Int32)), .val (.int q2), .val (.int fol), .val (.ref b129), .val (.ref b129), .val (.ref T140.heap.size), .val (.ref u2), .unset, .unset] [])) _
          refine XS.goto X142.here hx rfl (pc0 := 209) (pc' := 240) rfl (hb hby at_209) (by decide) (by decide) ?_
          exact kt
        have Ay : Ary .byte Z h142 v2 7 (tf [(91 : Int32), (102 : Int32), (97 : Int32), (108 : Int32), (115 : Int32), (101 : Int32), (93 : Int32)]) := ⟨by decide, c142, Av142⟩
        have J9 := (Jx3.keep K141).ext E142
        have St9 := St141.ext E142
        have O9 := (Ox3.keep K141 all0).ext E142
        have g9 : T140.heap.size < T141.heap.size := St141.1.lt
        have ne9 : ¬ T140.heap.size = u2 := own_ne2 (Nat.le_trans (Nat.le_of_eq hn0) Zx3) g9 wh142
        exact tail T142.vm k142 _ _ _ b129 a b _ _ u2 v2 [(91 : Int32), (102 : Int32), (97 : Int32), (108 : Int32), (115 : Int32), (101 : Int32), (93 : Int32)] _ _ q2 fol (by decide) hq2 hfol hS142 hk142 hZ142 hown142 X142 e142 N141 O9 J9 St9 ⟨Ex142, Fc142, Fv142, Ay⟩ ne9 g_w g_a g_b (Nat.le_trans Zx3 (Nat.le_trans K141.1 E142.1))
      · refine EndsW.of (F' := T130.setTop (mkF m 69 #[.val (.int p1), .val (.int p2), .val (.int p3), .val (.int (2 : Int32)), .val (.int (1 : Int32)), .val (.int q2), .val (.int fol), .val (.ref b129), .unset, .unset, .unset, .unset, .unset] [(.ref b129)])) (fun _ kt => ?_) ?_
        · show Steps p.tables e below (T130.setTop (mkF m 48 #[.val (.int p1), .val (.int p2), .val (.int p3), .val (.int (2 : Int32)), .val (.int (1 : Int32)), .val (.int q2), .val (.int fol), .val (.ref b129), .unset, .unset, .unset, .unset, .unset] [])) _
          refine XS.iloadN X130.here hx rfl (hb hby at_48) rfl ?_
          show Steps p.tables e below (T130.setTop (mkF m 49 #[.val (.int p1), .val (.int p2), .val (.int p3), .val (.int (2 : Int32)), .val (.int (1 : Int32)), .val (.int q2), .val (.int fol), .val (.ref b129), .unset, .unset, .unset, .unset, .unset] [(.int (2 : Int32))])) _
          refine XS.iconst X130.here hx rfl (hb hby at_49) ?_
          show Steps p.tables e below (T130.setTop (mkF m 50 #[.val (.int p1), .val (.int p2), .val (.int p3), .val (.int (2 : Int32)), .val (.int (1 : Int32)), .val (.int q2), .val (.int fol), .val (.ref b129), .unset, .unset, .unset, .unset, .unset] [(.int (1 : Int32)), (.int (2 : Int32))])) _
          refine XS.icmpYes X130.here hx rfl (pc0 := 50) (pc' := 62) rfl (hb hby at_50) rfl (feq (by decide)).2 (by decide) (by decide) ?_
          show Steps p.tables e below (T130.setTop (mkF m 62 #[.val (.int p1), .val (.int p2), .val (.int p3), .val (.int (2 : Int32)), .val (.int (1 : Int32)), .val (.int q2), .val (.int fol), .val (.ref b129), .unset, .unset, .unset, .unset, .unset] [])) _
          refine XS.iloadN X130.here hx rfl (hb hby at_62) rfl ?_
          show Steps p.tables e below (T130.setTop (mkF m 63 #[.val (.int p1), .val (.int p2), .val (.int p3), .val (.int (2 : Int32)), .val (.int (1 : Int32)), .val (.int q2), .val (.int fol), .val (.ref b129), .unset, .unset, .unset, .unset, .unset] [(.int (2 : Int32))])) _
          refine XS.iconst X130.here hx rfl (hb hby at_63) ?_
          show Steps p.tables e below (T130.setTop (mkF m 64 #[.val (.int p1), .val (.int p2), .val (.int p3), .val (.int (2 : Int32)), .val (.int (1 : Int32)), .val (.int q2), .val (.int fol), .val (.ref b129), .unset, .unset, .unset, .unset, .unset] [(.int (2 : Int32)), (.int (2 : Int32))])) _
          refine XS.icmpNo X130.here hx rfl (hb hby at_64) rfl (teq rfl).2 ?_
          show Steps p.tables e below (T130.setTop (mkF m 67 #[.val (.int p1), .val (.int p2), .val (.int p3), .val (.int (2 : Int32)), .val (.int (1 : Int32)), .val (.int q2), .val (.int fol), .val (.ref b129), .unset, .unset, .unset, .unset, .unset] [])) _
          refine XS.aload X130.here hx rfl (hb hby at_67) rfl rfl ?_
          exact kt
        obtain ⟨cq143, kq143, q143a, q143b, q143c⟩ := isOf hZ rfl J0.1
        obtain ⟨_, _, ⟨T143, L143, k143, n143⟩, -, X143, ⟨Lc143, hQ143, l143, y143, z143⟩, st143⟩ := X130.virtualBack hx (y := (⟨"com/example/tenantd/tenantd/server/JsonWriter", "array", "()Lcom/example/tenantd/tenantd/server/JsonWriter;"⟩ : MethodName)) (z := (⟨"com/example/tenantd/tenantd/server/JsonWriter", "array", "()Lcom/example/tenantd/tenantd/server/JsonWriter;"⟩ : MethodName)) hown (mvT hZ (hw _ (List.mem_of_getElem? (i := 144) rfl))) (mvT hZ (hw _ (List.mem_of_getElem? (i := 145) rfl))) (notFace_of_selects (args := #[]) (mvT hZ (hw _ (List.mem_of_getElem? (i := 147) rfl)))) (mvT hZ (hw _ (List.mem_of_getElem? (i := 147) rfl))) (mvT hZ (hw _ (List.mem_of_getElem? (i := 146) rfl))) (by decide) (backOf (W := 0) (jw_arr0 l Z a0 hw [] b129 a b [] cs T130.heap n0 Z2 S0 hcs O2 J0 (by decide) g_w g_a g_b) hZ (hw _ (List.mem_of_getElem? (i := 148) rfl)) (hw _ (List.mem_of_getElem? (i := 3) rfl)) (by decide) (by decide)) q143a q143c (g := (mkF m 69 #[.val (.int p1), .val (.int p2), .val (.int p3), .val (.int (2 : Int32)), .val (.int (1 : Int32)), .val (.int q2), .val (.int fol), .val (.ref b129), .unset, .unset, .unset, .unset, .unset] [(.ref b129)])) rfl (by rw [hml]; rfl) (Steps.refl _) (argsL := []) (rest := []) (lenOf pd_2 rfl) rfl (by show 2 * 0 + _ ≤ _; exact Nat.le_of_eq rfl) (hb hby at_69) (fun _ _ => ⟨rfl, rfl, (by decide : 3 + 0 ≤ _), (by decide : 262 + 0 ≤ _)⟩)
        dsimp only [Pt.U, Pt.locs, Pt.cells, Pt.slots] at X143 l143 y143 z143 st143 hQ143
        subst l143 y143 z143
        obtain ⟨rfl, N143q, K143, J143⟩ := hQ143
        have N143 := Fr.app N130 N143q
        refine EndsW.st st143 ?_
        have Jx1 : JWr Z T143.heap b129 a b [(91 : Int32)] (0 : Int32) := J143
        have Zx1 : n0 ≤ T143.heap.size := Nat.le_trans Z2 K143.1
        have Ox1 := O2.keep K143 (allS g_w (allS g_a (allS g_b all0)))
        refine EndsW.of (F' := T143.setTop (mkF m 77 #[.val (.int p1), .val (.int p2), .val (.int p3), .val (.int (2 : Int32)), .val (.int (1 : Int32)), .val (.int q2), .val (.int fol), .val (.ref b129), .unset, .unset, .unset, .unset, .unset] [(.int (1 : Int32)), (.ref b129)])) (fun _ kt => ?_) ?_
        · show Steps p.tables e below (T143.setTop (mkF m 72 #[.val (.int p1), .val (.int p2), .val (.int p3), .val (.int (2 : Int32)), .val (.int (1 : Int32)), .val (.int q2), .val (.int fol), .val (.ref b129), .unset, .unset, .unset, .unset, .unset] [(.ref b129)])) _
          refine XS.pop X143.here hx rfl (hb hby at_72) rfl rfl ?_
          show Steps p.tables e below (T143.setTop (mkF m 73 #[.val (.int p1), .val (.int p2), .val (.int p3), .val (.int (2 : Int32)), .val (.int (1 : Int32)), .val (.int q2), .val (.int fol), .val (.ref b129), .unset, .unset, .unset, .unset, .unset] [])) _
          refine XS.aload X143.here hx rfl (hb hby at_73) rfl rfl ?_
          show Steps p.tables e below (T143.setTop (mkF m 75 #[.val (.int p1), .val (.int p2), .val (.int p3), .val (.int (2 : Int32)), .val (.int (1 : Int32)), .val (.int q2), .val (.int fol), .val (.ref b129), .unset, .unset, .unset, .unset, .unset] [(.ref b129)])) _
          refine XS.iload X143.here hx rfl (hb hby at_75) rfl ?_
          exact kt
        obtain ⟨cq144, kq144, q144a, q144b, q144c⟩ := isOf hZ rfl Jx1.1
        obtain ⟨_, _, ⟨T144, L144, k144, n144⟩, -, X144, ⟨Lc144, hQ144, l144, y144, z144⟩, st144⟩ := X143.virtualBack hx (y := (⟨"com/example/tenantd/tenantd/server/JsonWriter", "value", "(Z)Lcom/example/tenantd/tenantd/server/JsonWriter;"⟩ : MethodName)) (z := (⟨"com/example/tenantd/tenantd/server/JsonWriter", "value", "(Z)Lcom/example/tenantd/tenantd/server/JsonWriter;"⟩ : MethodName)) hown (mvT hZ (hw _ (List.mem_of_getElem? (i := 179) rfl))) (mvT hZ (hw _ (List.mem_of_getElem? (i := 180) rfl))) (notFace_of_selects (args := #[]) (mvT hZ (hw _ (List.mem_of_getElem? (i := 182) rfl)))) (mvT hZ (hw _ (List.mem_of_getElem? (i := 182) rfl))) (mvT hZ (hw _ (List.mem_of_getElem? (i := 181) rfl))) (by decide) (backOf (W := 0) (jw_val01 l Z a0 hw [] b129 a b [(91 : Int32)] cs T143.heap n0 Zx1 S0 hcs Ox1 Jx1 (by decide) g_w g_a g_b) hZ (hw _ (List.mem_of_getElem? (i := 183) rfl)) (hw _ (List.mem_of_getElem? (i := 3) rfl)) (by decide) (by decide)) q144a q144c (g := (mkF m 77 #[.val (.int p1), .val (.int p2), .val (.int p3), .val (.int (2 : Int32)), .val (.int (1 : Int32)), .val (.int q2), .val (.int fol), .val (.ref b129), .unset, .unset, .unset, .unset, .unset] [(.int (1 : Int32)), (.ref b129)])) rfl (by rw [hml]; rfl) (Steps.refl _) (argsL := [(.int (1 : Int32))]) (rest := []) (lenOf pd_23 rfl) rfl (by show 2 * 0 + _ ≤ _; exact Nat.le_of_eq rfl) (hb hby at_77) (fun _ _ => ⟨rfl, rfl, (by decide : 3 + 0 ≤ _), (by decide : 262 + 0 ≤ _)⟩)
        dsimp only [Pt.U, Pt.locs, Pt.cells, Pt.slots] at X144 l144 y144 z144 st144 hQ144
        subst l144 y144 z144
        obtain ⟨rfl, N144q, K144, J144⟩ := hQ144
        have N144 := Fr.app N143 N144q
        refine EndsW.st st144 ?_
        have Jx2 : JWr Z T144.heap b129 a b [(91 : Int32), (116 : Int32), (114 : Int32), (117 : Int32), (101 : Int32)] (1 : Int32) := J144
        have Zx2 : n0 ≤ T144.heap.size := Nat.le_trans Zx1 K144.1
        have Ox2 := Ox1.keep K144 (allS g_w (allS g_a (allS g_b all0)))
        refine EndsW.of (F' := T144.setTop (mkF m 155 #[.val (.int p1), .val (.int p2), .val (.int p3), .val (.int (2 : Int32)), .val (.int (1 : Int32)), .val (.int q2), .val (.int fol), .val (.ref b129), .unset, .unset, .unset, .unset, .unset] [(.ref b129)])) (fun _ kt => ?_) ?_
        · show Steps p.tables e below (T144.setTop (mkF m 80 #[.val (.int p1), .val (.int p2), .val (.int p3), .val (.int (2 : Int32)), .val (.int (1 : Int32)), .val (.int q2), .val (.int fol), .val (.ref b129), .unset, .unset, .unset, .unset, .unset] [(.ref b129)])) _
          refine XS.pop X144.here hx rfl (hb hby at_80) rfl rfl ?_
          show Steps p.tables e below (T144.setTop (mkF m 81 #[.val (.int p1), .val (.int p2), .val (.int p3), .val (.int (2 : Int32)), .val (.int (1 : Int32)), .val (.int q2), .val (.int fol), .val (.ref b129), .unset, .unset, .unset, .unset, .unset] [])) _
          refine XS.goto X144.here hx rfl (pc0 := 81) (pc' := 153) rfl (hb hby at_81) (by decide) (by decide) ?_
          show Steps p.tables e below (T144.setTop (mkF m 153 #[.val (.int p1), .val (.int p2), .val (.int p3), .val (.int (2 : Int32)), .val (.int (1 : Int32)), .val (.int q2), .val (.int fol), .val (.ref b129), .unset, .unset, .unset, .unset, .unset] [])) _
          refine XS.aload X144.here hx rfl (hb hby at_153) rfl rfl ?_
          exact kt
        obtain ⟨cq145, kq145, q145a, q145b, q145c⟩ := isOf hZ rfl Jx2.1
        obtain ⟨_, _, ⟨T145, L145, k145, n145⟩, -, X145, ⟨Lc145, hQ145, l145, y145, z145⟩, st145⟩ := X144.virtualBack hx (y := (⟨"com/example/tenantd/tenantd/server/JsonWriter", "endArray", "()Lcom/example/tenantd/tenantd/server/JsonWriter;"⟩ : MethodName)) (z := (⟨"com/example/tenantd/tenantd/server/JsonWriter", "endArray", "()Lcom/example/tenantd/tenantd/server/JsonWriter;"⟩ : MethodName)) hown (mvT hZ (hw _ (List.mem_of_getElem? (i := 32) rfl))) (mvT hZ (hw _ (List.mem_of_getElem? (i := 33) rfl))) (notFace_of_selects (args := #[]) (mvT hZ (hw _ (List.mem_of_getElem? (i := 35) rfl)))) (mvT hZ (hw _ (List.mem_of_getElem? (i := 35) rfl))) (mvT hZ (hw _ (List.mem_of_getElem? (i := 34) rfl))) (by decide) (backOf (W := 0) (jw_endA l Z a0 hw [] b129 a b [(91 : Int32), (116 : Int32), (114 : Int32), (117 : Int32), (101 : Int32)] cs (1 : Int32) T144.heap n0 Zx2 S0 hcs Ox2 Jx2 (by decide) g_w g_a g_b) hZ (hw _ (List.mem_of_getElem? (i := 36) rfl)) (hw _ (List.mem_of_getElem? (i := 3) rfl)) (by decide) (by decide)) q145a q145c (g := (mkF m 155 #[.val (.int p1), .val (.int p2), .val (.int p3), .val (.int (2 : Int32)), .val (.int (1 : Int32)), .val (.int q2), .val (.int fol), .val (.ref b129), .unset, .unset, .unset, .unset, .unset] [(.ref b129)])) rfl (by rw [hml]; rfl) (Steps.refl _) (argsL := []) (rest := []) (lenOf pd_2 rfl) rfl (by show 2 * 0 + _ ≤ _; exact Nat.le_of_eq rfl) (hb hby at_155) (fun _ _ => ⟨rfl, rfl, (by decide : 3 + 0 ≤ _), (by decide : 262 + 0 ≤ _)⟩)
        dsimp only [Pt.U, Pt.locs, Pt.cells, Pt.slots] at X145 l145 y145 z145 st145 hQ145
        subst l145 y145 z145
        obtain ⟨rfl, N145q, K145, J145⟩ := hQ145
        have N145 := Fr.app N144 N145q
        refine EndsW.st st145 ?_
        have Jx3 : JWr Z T145.heap b129 a b [(91 : Int32), (116 : Int32), (114 : Int32), (117 : Int32), (101 : Int32), (93 : Int32)] (1 : Int32) := J145
        have Zx3 : n0 ≤ T145.heap.size := Nat.le_trans Zx2 K145.1
        have Ox3 := Ox2.keep K145 (allS g_w (allS g_a (allS g_b all0)))
        refine EndsW.of (F' := T145.setTop (mkF m 162 #[.val (.int p1), .val (.int p2), .val (.int p3), .val (.int (2 : Int32)), .val (.int (1 : Int32)), .val (.int q2), .val (.int fol), .val (.ref b129), .val (.ref b129), .unset, .unset, .unset, .unset] [(.ref b129)])) (fun _ kt => ?_) ?_
        · show Steps p.tables e below (T145.setTop (mkF m 158 #[.val (.int p1), .val (.int p2), .val (.int p3), .val (.int (2 : Int32)), .val (.int (1 : Int32)), .val (.int q2), .val (.int fol), .val (.ref b129), .unset, .unset, .unset, .unset, .unset] [(.ref b129)])) _
          refine XS.astore X145.here hx rfl (hb hby at_158) rfl rfl (l' := #[.val (.int p1), .val (.int p2), .val (.int p3), .val (.int (2 : Int32)), .val (.int (1 : Int32)), .val (.int q2), .val (.int fol), .val (.ref b129), .val (.ref b129), .unset, .unset, .unset, .unset]) rfl ?_
          show Steps p.tables e below (T145.setTop (mkF m 160 #[.val (.int p1), .val (.int p2), .val (.int p3), .val (.int (2 : Int32)), .val (.int (1 : Int32)), .val (.int q2), .val (.int fol), .val (.ref b129), .val (.ref b129), .unset, .unset, .unset, .unset] [])) _
          refine XS.aload X145.here hx rfl (hb hby at_160) rfl rfl ?_
          exact kt
        obtain ⟨cq146, kq146, q146a, q146b, q146c⟩ := isOf hZ rfl Jx3.1
        obtain ⟨_, _, ⟨T146, L146, k146, n146⟩, -, X146, ⟨Lc146, hQ146, l146, y146, z146⟩, st146⟩ := X145.virtualBack hx (y := (⟨"com/example/tenantd/tenantd/server/JsonWriter", "toString", "()Ljava/lang/String;"⟩ : MethodName)) (z := (⟨"com/example/tenantd/tenantd/server/JsonWriter", "toString", "()Ljava/lang/String;"⟩ : MethodName)) hown (mvT hZ (hw _ (List.mem_of_getElem? (i := 65) rfl))) (mvT hZ (hw _ (List.mem_of_getElem? (i := 66) rfl))) (notFace_of_selects (args := #[]) (mvT hZ (hw _ (List.mem_of_getElem? (i := 68) rfl)))) (mvT hZ (hw _ (List.mem_of_getElem? (i := 68) rfl))) (mvT hZ (hw _ (List.mem_of_getElem? (i := 67) rfl))) (by decide) (backOf (W := 0) (jw_str l Z a0 hw [] b129 a b [(91 : Int32), (116 : Int32), (114 : Int32), (117 : Int32), (101 : Int32), (93 : Int32)] cs (1 : Int32) T145.heap n0 Zx3 S0 hcs Ox3 Jx3 (by decide)) hZ (hw _ (List.mem_of_getElem? (i := 69) rfl)) (hw _ (List.mem_of_getElem? (i := 3) rfl)) (by decide) (by decide)) q146a q146c (g := (mkF m 162 #[.val (.int p1), .val (.int p2), .val (.int p3), .val (.int (2 : Int32)), .val (.int (1 : Int32)), .val (.int q2), .val (.int fol), .val (.ref b129), .val (.ref b129), .unset, .unset, .unset, .unset] [(.ref b129)])) rfl (by rw [hml]; rfl) (Steps.refl _) (argsL := []) (rest := []) (lenOf pd_7 rfl) rfl (by show 2 * 0 + _ ≤ _; exact Nat.le_of_eq rfl) (hb hby at_162) (fun _ _ => ⟨rfl, rfl, (by decide : 3 + 2 ≤ _), (by decide : 262 + 20 ≤ _)⟩)
        dsimp only [Pt.U, Pt.locs, Pt.cells, Pt.slots] at X146 l146 y146 z146 st146 hQ146
        subst l146 y146 z146
        obtain ⟨d146, rfl, N146q, K146, St146, gd146⟩ := hQ146
        have N146 := Fr.app N145 N146q
        refine EndsW.st st146 ?_
        refine EndsW.of (F' := T146.setTop (mkF m 200 #[.val (.int p1), .val (.int p2), .val (.int p3), .val (.int (2 : Int32)), .val (.int (1 : Int32)), .val (.int q2), .val (.int fol), .val (.ref b129), .val (.ref b129), .val (.ref T145.heap.size), .unset, .unset, .unset] [])) (fun _ kt => ?_) ?_
        · show Steps p.tables e below (T146.setTop (mkF m 165 #[.val (.int p1), .val (.int p2), .val (.int p3), .val (.int (2 : Int32)), .val (.int (1 : Int32)), .val (.int q2), .val (.int fol), .val (.ref b129), .val (.ref b129), .unset, .unset, .unset, .unset] [(.ref T145.heap.size)])) _
          refine XS.astore X146.here hx rfl (hb hby at_165) rfl rfl (l' := #[.val (.int p1), .val (.int p2), .val (.int p3), .val (.int (2 : Int32)), .val (.int (1 : Int32)), .val (.int q2), .val (.int fol), .val (.ref b129), .val (.ref b129), .val (.ref T145.heap.size), .unset, .unset, .unset]) rfl ?_
          show Steps p.tables e below (T146.setTop (mkF m 167 #[.val (.int p1), .val (.int p2), .val (.int p3), .val (.int (2 : Int32)), .val (.int (1 : Int32)), .val (.int q2), .val (.int fol), .val (.ref b129), .val (.ref b129), .val (.ref T145.heap.size), .unset, .unset, .unset] [])) _
          refine XS.iloadN X146.here hx rfl (hb hby at_167) rfl ?_
          show Steps p.tables e below (T146.setTop (mkF m 168 #[.val (.int p1), .val (.int p2), .val (.int p3), .val (.int (2 : Int32)), .val (.int (1 : Int32)), .val (.int q2), .val (.int fol), .val (.ref b129), .val (.ref b129), .val (.ref T145.heap.size), .unset, .unset, .unset] [(.int (2 : Int32))])) _
          refine XS.ifYes X146.here hx rfl (pc0 := 168) (pc' := 178) rfl (hb hby at_168) rfl ((if0 _ _).trans (feq (by decide)).2) (by decide) (by decide) ?_
          show Steps p.tables e below (T146.setTop (mkF m 178 #[.val (.int p1), .val (.int p2), .val (.int p3), .val (.int (2 : Int32)), .val (.int (1 : Int32)), .val (.int q2), .val (.int fol), .val (.ref b129), .val (.ref b129), .val (.ref T145.heap.size), .unset, .unset, .unset] [])) _
          refine XS.iloadN X146.here hx rfl (hb hby at_178) rfl ?_
          show Steps p.tables e below (T146.setTop (mkF m 179 #[.val (.int p1), .val (.int p2), .val (.int p3), .val (.int (2 : Int32)), .val (.int (1 : Int32)), .val (.int q2), .val (.int fol), .val (.ref b129), .val (.ref b129), .val (.ref T145.heap.size), .unset, .unset, .unset] [(.int (2 : Int32))])) _
          refine XS.iconst X146.here hx rfl (hb hby at_179) ?_
          show Steps p.tables e below (T146.setTop (mkF m 180 #[.val (.int p1), .val (.int p2), .val (.int p3), .val (.int (2 : Int32)), .val (.int (1 : Int32)), .val (.int q2), .val (.int fol), .val (.ref b129), .val (.ref b129), .val (.ref T145.heap.size), .unset, .unset, .unset] [(.int (1 : Int32)), (.int (2 : Int32))])) _
          refine XS.icmpYes X146.here hx rfl (pc0 := 180) (pc' := 190) rfl (hb hby at_180) rfl (feq (by decide)).2 (by decide) (by decide) ?_
          show Steps p.tables e below (T146.setTop (mkF m 190 #[.val (.int p1), .val (.int p2), .val (.int p3), .val (.int (2 : Int32)), .val (.int (1 : Int32)), .val (.int q2), .val (.int fol), .val (.ref b129), .val (.ref b129), .val (.ref T145.heap.size), .unset, .unset, .unset] [])) _
          refine XS.iloadN X146.here hx rfl (hb hby at_190) rfl ?_
          show Steps p.tables e below (T146.setTop (mkF m 191 #[.val (.int p1), .val (.int p2), .val (.int p3), .val (.int (2 : Int32)), .val (.int (1 : Int32)), .val (.int q2), .val (.int fol), .val (.ref b129), .val (.ref b129), .val (.ref T145.heap.size), .unset, .unset, .unset] [(.int (2 : Int32))])) _
          refine XS.iconst X146.here hx rfl (hb hby at_191) ?_
          show Steps p.tables e below (T146.setTop (mkF m 192 #[.val (.int p1), .val (.int p2), .val (.int p3), .val (.int (2 : Int32)), .val (.int (1 : Int32)), .val (.int q2), .val (.int fol), .val (.ref b129), .val (.ref b129), .val (.ref T145.heap.size), .unset, .unset, .unset] [(.int (2 : Int32)), (.int (2 : Int32))])) _
          refine XS.icmpNo X146.here hx rfl (hb hby at_192) rfl (teq rfl).2 ?_
          show Steps p.tables e below (T146.setTop (mkF m 195 #[.val (.int p1), .val (.int p2), .val (.int p3), .val (.int (2 : Int32)), .val (.int (1 : Int32)), .val (.int q2), .val (.int fol), .val (.ref b129), .val (.ref b129), .val (.ref T145.heap.size), .unset, .unset, .unset] [])) _
          refine XS.iload X146.here hx rfl (hb hby at_195) rfl ?_
          show Steps p.tables e below (T146.setTop (mkF m 197 #[.val (.int p1), .val (.int p2), .val (.int p3), .val (.int (2 : Int32)), .val (.int (1 : Int32)), .val (.int q2), .val (.int fol), .val (.ref b129), .val (.ref b129), .val (.ref T145.heap.size), .unset, .unset, .unset] [(.int (1 : Int32))])) _
          refine XS.ifNo X146.here hx rfl (hb hby at_197) rfl ((if0 _ _).trans (feq (by decide)).1) ?_
          exact kt
        have N9 : Fr s.heap.size _ := hn0 ▸ N146
        have hk9 : s.heap.size ≤ T146.heap.size := hn0 ▸ Nat.le_trans Zx3 K146.1
        obtain ⟨u2, T147, h147, k147, v2, c147, X147, e147, E147, hS147, hk147, hZ147, hown147, Ex147, Fc147, Fv147, Av147, lu147, lv147, I147, Li147, wh147, st147⟩ := ldcSVd (s := s) (vm0 := s.vm) (Z := Z) (own := "com/example/tenantd/tenantd/server/JsonWriterEndArrayPinLaw") (text := "[true]") (index := 46) X146 hx hZ hown (hw _ (List.mem_of_getElem? (i := 195) rfl)) wS rfl hS0 hk9 N9 hkeep hI0 (by simp) (hh0 ("com/example/tenantd/tenantd/server/JsonWriterEndArrayPinLaw", 46) (List.mem_of_getElem? (i := 2) rfl)) hcw (vs := (List.range 6).map fun i => Value.int (tf [(91 : Int32), (116 : Int32), (114 : Int32), (117 : Int32), (101 : Int32), (93 : Int32)] i)) (z := Int32.ofNat 6) ⟨by decide +kernel, by rfl⟩ (by decide) (by decide) (g := (mkF m 200 #[.val (.int p1), .val (.int p2), .val (.int p3), .val (.int (2 : Int32)), .val (.int (1 : Int32)), .val (.int q2), .val (.int fol), .val (.ref b129), .val (.ref b129), .val (.ref T145.heap.size), .unset, .unset, .unset] [])) rfl (hb hby at_200) (n := 28) (by decide) (by decide) (by decide) (by decide)
        refine EndsW.of st147 ?_
        refine EndsW.of (F' := T147.setTop (mkF m 240 #[.val (.int p1), .val (.int p2), .val (.int p3), .val (.int (2 : Int32)), .val (.int (1 : Int32)), .val (.int q2), .val (.int fol), .val (.ref b129), .val (.ref b129), .val (.ref T145.heap.size), .val (.ref u2), .unset, .unset] [])) (fun _ kt => ?_) ?_
        · show Steps p.tables e below (T147.setTop (mkF m 202 #[.val (.int p1), .val (.int p2), .val (.int p3), .val (.int (2 : Int32)), .val (.int (1 : Int32)), .val (.int q2), .val (.int fol), .val (.ref b129), .val (.ref b129), .val (.ref T145.heap.size), .unset, .unset, .unset] [(.ref u2)])) _
          refine XS.goto X147.here hx rfl (pc0 := 202) (pc' := 207) rfl (hb hby at_202) (by decide) (by decide) ?_
          show Steps p.tables e below (T147.setTop (mkF m 207 #[.val (.int p1), .val (.int p2), .val (.int p3), .val (.int (2 : Int32)), .val (.int (1 : Int32)), .val (.int q2), .val (.int fol), .val (.ref b129), .val (.ref b129), .val (.ref T145.heap.size), .unset, .unset, .unset] [(.ref u2)])) _
          refine XS.astore X147.here hx rfl (hb hby at_207) rfl rfl (l' := #[.val (.int p1), .val (.int p2), .val (.int p3), .val (.int (2 : Int32)), .val (.int (1 : Int32)), .val (.int q2), .val (.int fol), .val (.ref b129), .val (.ref b129), .val (.ref T145.heap.size), .val (.ref u2), .unset, .unset]) rfl ?_
          show Steps p.tables e below (T147.setTop (mkF m 209 #[.val (.int p1), .val (.int p2), .val (.int p3), .val (.int (2 : Int32)), .val (.int (1 : Int32)), .val (.int q2), .val (.int fol), .val (.ref b129), .val (.ref b129), .val (.ref T145.heap.size), .val (.ref u2), .unset, .unset] [])) _
          refine XS.goto X147.here hx rfl (pc0 := 209) (pc' := 240) rfl (hb hby at_209) (by decide) (by decide) ?_
          exact kt
        have Ay : Ary .byte Z h147 v2 6 (tf [(91 : Int32), (116 : Int32), (114 : Int32), (117 : Int32), (101 : Int32), (93 : Int32)]) := ⟨by decide, c147, Av147⟩
        have J9 := (Jx3.keep K146).ext E147
        have St9 := St146.ext E147
        have O9 := (Ox3.keep K146 all0).ext E147
        have g9 : T145.heap.size < T146.heap.size := St146.1.lt
        have ne9 : ¬ T145.heap.size = u2 := own_ne2 (Nat.le_trans (Nat.le_of_eq hn0) Zx3) g9 wh147
        exact tail T147.vm k147 _ _ _ b129 a b _ _ u2 v2 [(91 : Int32), (116 : Int32), (114 : Int32), (117 : Int32), (101 : Int32), (93 : Int32)] _ _ q2 fol (by decide) hq2 hfol hS147 hk147 hZ147 hown147 X147 e147 N146 O9 J9 St9 ⟨Ex147, Fc147, Fv147, Ay⟩ ne9 g_w g_a g_b (Nat.le_trans Zx3 (Nat.le_trans K146.1 E147.1))
    · refine EndsW.of (F' := T130.setTop (mkF m 91 #[.val (.int p1), .val (.int p2), .val (.int p3), .val (.int (3 : Int32)), .val (.int q1), .val (.int q2), .val (.int fol), .val (.ref b129), .unset, .unset, .unset, .unset, .unset] [(.ref b129)])) (fun _ kt => ?_) ?_
      · show Steps p.tables e below (T130.setTop (mkF m 48 #[.val (.int p1), .val (.int p2), .val (.int p3), .val (.int (3 : Int32)), .val (.int q1), .val (.int q2), .val (.int fol), .val (.ref b129), .unset, .unset, .unset, .unset, .unset] [])) _
        refine XS.iloadN X130.here hx rfl (hb hby at_48) rfl ?_
        show Steps p.tables e below (T130.setTop (mkF m 49 #[.val (.int p1), .val (.int p2), .val (.int p3), .val (.int (3 : Int32)), .val (.int q1), .val (.int q2), .val (.int fol), .val (.ref b129), .unset, .unset, .unset, .unset, .unset] [(.int (3 : Int32))])) _
        refine XS.iconst X130.here hx rfl (hb hby at_49) ?_
        show Steps p.tables e below (T130.setTop (mkF m 50 #[.val (.int p1), .val (.int p2), .val (.int p3), .val (.int (3 : Int32)), .val (.int q1), .val (.int q2), .val (.int fol), .val (.ref b129), .unset, .unset, .unset, .unset, .unset] [(.int (1 : Int32)), (.int (3 : Int32))])) _
        refine XS.icmpYes X130.here hx rfl (pc0 := 50) (pc' := 62) rfl (hb hby at_50) rfl (feq (by decide)).2 (by decide) (by decide) ?_
        show Steps p.tables e below (T130.setTop (mkF m 62 #[.val (.int p1), .val (.int p2), .val (.int p3), .val (.int (3 : Int32)), .val (.int q1), .val (.int q2), .val (.int fol), .val (.ref b129), .unset, .unset, .unset, .unset, .unset] [])) _
        refine XS.iloadN X130.here hx rfl (hb hby at_62) rfl ?_
        show Steps p.tables e below (T130.setTop (mkF m 63 #[.val (.int p1), .val (.int p2), .val (.int p3), .val (.int (3 : Int32)), .val (.int q1), .val (.int q2), .val (.int fol), .val (.ref b129), .unset, .unset, .unset, .unset, .unset] [(.int (3 : Int32))])) _
        refine XS.iconst X130.here hx rfl (hb hby at_63) ?_
        show Steps p.tables e below (T130.setTop (mkF m 64 #[.val (.int p1), .val (.int p2), .val (.int p3), .val (.int (3 : Int32)), .val (.int q1), .val (.int q2), .val (.int fol), .val (.ref b129), .unset, .unset, .unset, .unset, .unset] [(.int (2 : Int32)), (.int (3 : Int32))])) _
        refine XS.icmpYes X130.here hx rfl (pc0 := 64) (pc' := 84) rfl (hb hby at_64) rfl (feq (by decide)).2 (by decide) (by decide) ?_
        show Steps p.tables e below (T130.setTop (mkF m 84 #[.val (.int p1), .val (.int p2), .val (.int p3), .val (.int (3 : Int32)), .val (.int q1), .val (.int q2), .val (.int fol), .val (.ref b129), .unset, .unset, .unset, .unset, .unset] [])) _
        refine XS.iloadN X130.here hx rfl (hb hby at_84) rfl ?_
        show Steps p.tables e below (T130.setTop (mkF m 85 #[.val (.int p1), .val (.int p2), .val (.int p3), .val (.int (3 : Int32)), .val (.int q1), .val (.int q2), .val (.int fol), .val (.ref b129), .unset, .unset, .unset, .unset, .unset] [(.int (3 : Int32))])) _
        refine XS.iconst X130.here hx rfl (hb hby at_85) ?_
        show Steps p.tables e below (T130.setTop (mkF m 86 #[.val (.int p1), .val (.int p2), .val (.int p3), .val (.int (3 : Int32)), .val (.int q1), .val (.int q2), .val (.int fol), .val (.ref b129), .unset, .unset, .unset, .unset, .unset] [(.int (3 : Int32)), (.int (3 : Int32))])) _
        refine XS.icmpNo X130.here hx rfl (hb hby at_86) rfl (teq rfl).2 ?_
        show Steps p.tables e below (T130.setTop (mkF m 89 #[.val (.int p1), .val (.int p2), .val (.int p3), .val (.int (3 : Int32)), .val (.int q1), .val (.int q2), .val (.int fol), .val (.ref b129), .unset, .unset, .unset, .unset, .unset] [])) _
        refine XS.aload X130.here hx rfl (hb hby at_89) rfl rfl ?_
        exact kt
      obtain ⟨cq148, kq148, q148a, q148b, q148c⟩ := isOf hZ rfl J0.1
      obtain ⟨_, _, ⟨T148, L148, k148, n148⟩, -, X148, ⟨Lc148, hQ148, l148, y148, z148⟩, st148⟩ := X130.virtualBack hx (y := (⟨"com/example/tenantd/tenantd/server/JsonWriter", "array", "()Lcom/example/tenantd/tenantd/server/JsonWriter;"⟩ : MethodName)) (z := (⟨"com/example/tenantd/tenantd/server/JsonWriter", "array", "()Lcom/example/tenantd/tenantd/server/JsonWriter;"⟩ : MethodName)) hown (mvT hZ (hw _ (List.mem_of_getElem? (i := 144) rfl))) (mvT hZ (hw _ (List.mem_of_getElem? (i := 145) rfl))) (notFace_of_selects (args := #[]) (mvT hZ (hw _ (List.mem_of_getElem? (i := 147) rfl)))) (mvT hZ (hw _ (List.mem_of_getElem? (i := 147) rfl))) (mvT hZ (hw _ (List.mem_of_getElem? (i := 146) rfl))) (by decide) (backOf (W := 0) (jw_arr0 l Z a0 hw [] b129 a b [] cs T130.heap n0 Z2 S0 hcs O2 J0 (by decide) g_w g_a g_b) hZ (hw _ (List.mem_of_getElem? (i := 148) rfl)) (hw _ (List.mem_of_getElem? (i := 3) rfl)) (by decide) (by decide)) q148a q148c (g := (mkF m 91 #[.val (.int p1), .val (.int p2), .val (.int p3), .val (.int (3 : Int32)), .val (.int q1), .val (.int q2), .val (.int fol), .val (.ref b129), .unset, .unset, .unset, .unset, .unset] [(.ref b129)])) rfl (by rw [hml]; rfl) (Steps.refl _) (argsL := []) (rest := []) (lenOf pd_2 rfl) rfl (by show 2 * 0 + _ ≤ _; exact Nat.le_of_eq rfl) (hb hby at_91) (fun _ _ => ⟨rfl, rfl, (by decide : 3 + 0 ≤ _), (by decide : 262 + 0 ≤ _)⟩)
      dsimp only [Pt.U, Pt.locs, Pt.cells, Pt.slots] at X148 l148 y148 z148 st148 hQ148
      subst l148 y148 z148
      obtain ⟨rfl, N148q, K148, J148⟩ := hQ148
      have N148 := Fr.app N130 N148q
      refine EndsW.st st148 ?_
      have Jx1 : JWr Z T148.heap b129 a b [(91 : Int32)] (0 : Int32) := J148
      have Zx1 : n0 ≤ T148.heap.size := Nat.le_trans Z2 K148.1
      have Ox1 := O2.keep K148 (allS g_w (allS g_a (allS g_b all0)))
      refine EndsW.of (F' := T148.setTop (mkF m 97 #[.val (.int p1), .val (.int p2), .val (.int p3), .val (.int (3 : Int32)), .val (.int q1), .val (.int q2), .val (.int fol), .val (.ref b129), .unset, .unset, .unset, .unset, .unset] [(.ref b129)])) (fun _ kt => ?_) ?_
      · show Steps p.tables e below (T148.setTop (mkF m 94 #[.val (.int p1), .val (.int p2), .val (.int p3), .val (.int (3 : Int32)), .val (.int q1), .val (.int q2), .val (.int fol), .val (.ref b129), .unset, .unset, .unset, .unset, .unset] [(.ref b129)])) _
        refine XS.pop X148.here hx rfl (hb hby at_94) rfl rfl ?_
        show Steps p.tables e below (T148.setTop (mkF m 95 #[.val (.int p1), .val (.int p2), .val (.int p3), .val (.int (3 : Int32)), .val (.int q1), .val (.int q2), .val (.int fol), .val (.ref b129), .unset, .unset, .unset, .unset, .unset] [])) _
        refine XS.aload X148.here hx rfl (hb hby at_95) rfl rfl ?_
        exact kt
      obtain ⟨cq149, kq149, q149a, q149b, q149c⟩ := isOf hZ rfl Jx1.1
      obtain ⟨_, _, ⟨T149, L149, k149, n149⟩, -, X149, ⟨Lc149, hQ149, l149, y149, z149⟩, st149⟩ := X148.virtualBack hx (y := (⟨"com/example/tenantd/tenantd/server/JsonWriter", "array", "()Lcom/example/tenantd/tenantd/server/JsonWriter;"⟩ : MethodName)) (z := (⟨"com/example/tenantd/tenantd/server/JsonWriter", "array", "()Lcom/example/tenantd/tenantd/server/JsonWriter;"⟩ : MethodName)) hown (mvT hZ (hw _ (List.mem_of_getElem? (i := 144) rfl))) (mvT hZ (hw _ (List.mem_of_getElem? (i := 145) rfl))) (notFace_of_selects (args := #[]) (mvT hZ (hw _ (List.mem_of_getElem? (i := 147) rfl)))) (mvT hZ (hw _ (List.mem_of_getElem? (i := 147) rfl))) (mvT hZ (hw _ (List.mem_of_getElem? (i := 146) rfl))) (by decide) (backOf (W := 0) (jw_arr0 l Z a0 hw [] b129 a b [(91 : Int32)] cs T148.heap n0 Zx1 S0 hcs Ox1 Jx1 (by decide) g_w g_a g_b) hZ (hw _ (List.mem_of_getElem? (i := 148) rfl)) (hw _ (List.mem_of_getElem? (i := 3) rfl)) (by decide) (by decide)) q149a q149c (g := (mkF m 97 #[.val (.int p1), .val (.int p2), .val (.int p3), .val (.int (3 : Int32)), .val (.int q1), .val (.int q2), .val (.int fol), .val (.ref b129), .unset, .unset, .unset, .unset, .unset] [(.ref b129)])) rfl (by rw [hml]; rfl) (Steps.refl _) (argsL := []) (rest := []) (lenOf pd_2 rfl) rfl (by show 2 * 0 + _ ≤ _; exact Nat.le_of_eq rfl) (hb hby at_97) (fun _ _ => ⟨rfl, rfl, (by decide : 3 + 0 ≤ _), (by decide : 262 + 0 ≤ _)⟩)
      dsimp only [Pt.U, Pt.locs, Pt.cells, Pt.slots] at X149 l149 y149 z149 st149 hQ149
      subst l149 y149 z149
      obtain ⟨rfl, N149q, K149, J149⟩ := hQ149
      have N149 := Fr.app N148 N149q
      refine EndsW.st st149 ?_
      have Jx2 : JWr Z T149.heap b129 a b [(91 : Int32), (91 : Int32)] (0 : Int32) := J149
      have Zx2 : n0 ≤ T149.heap.size := Nat.le_trans Zx1 K149.1
      have Ox2 := Ox1.keep K149 (allS g_w (allS g_a (allS g_b all0)))
      refine EndsW.of (F' := T149.setTop (mkF m 155 #[.val (.int p1), .val (.int p2), .val (.int p3), .val (.int (3 : Int32)), .val (.int q1), .val (.int q2), .val (.int fol), .val (.ref b129), .unset, .unset, .unset, .unset, .unset] [(.ref b129)])) (fun _ kt => ?_) ?_
      · show Steps p.tables e below (T149.setTop (mkF m 100 #[.val (.int p1), .val (.int p2), .val (.int p3), .val (.int (3 : Int32)), .val (.int q1), .val (.int q2), .val (.int fol), .val (.ref b129), .unset, .unset, .unset, .unset, .unset] [(.ref b129)])) _
        refine XS.pop X149.here hx rfl (hb hby at_100) rfl rfl ?_
        show Steps p.tables e below (T149.setTop (mkF m 101 #[.val (.int p1), .val (.int p2), .val (.int p3), .val (.int (3 : Int32)), .val (.int q1), .val (.int q2), .val (.int fol), .val (.ref b129), .unset, .unset, .unset, .unset, .unset] [])) _
        refine XS.goto X149.here hx rfl (pc0 := 101) (pc' := 153) rfl (hb hby at_101) (by decide) (by decide) ?_
        show Steps p.tables e below (T149.setTop (mkF m 153 #[.val (.int p1), .val (.int p2), .val (.int p3), .val (.int (3 : Int32)), .val (.int q1), .val (.int q2), .val (.int fol), .val (.ref b129), .unset, .unset, .unset, .unset, .unset] [])) _
        refine XS.aload X149.here hx rfl (hb hby at_153) rfl rfl ?_
        exact kt
      obtain ⟨cq150, kq150, q150a, q150b, q150c⟩ := isOf hZ rfl Jx2.1
      obtain ⟨_, _, ⟨T150, L150, k150, n150⟩, -, X150, ⟨Lc150, hQ150, l150, y150, z150⟩, st150⟩ := X149.virtualBack hx (y := (⟨"com/example/tenantd/tenantd/server/JsonWriter", "endArray", "()Lcom/example/tenantd/tenantd/server/JsonWriter;"⟩ : MethodName)) (z := (⟨"com/example/tenantd/tenantd/server/JsonWriter", "endArray", "()Lcom/example/tenantd/tenantd/server/JsonWriter;"⟩ : MethodName)) hown (mvT hZ (hw _ (List.mem_of_getElem? (i := 32) rfl))) (mvT hZ (hw _ (List.mem_of_getElem? (i := 33) rfl))) (notFace_of_selects (args := #[]) (mvT hZ (hw _ (List.mem_of_getElem? (i := 35) rfl)))) (mvT hZ (hw _ (List.mem_of_getElem? (i := 35) rfl))) (mvT hZ (hw _ (List.mem_of_getElem? (i := 34) rfl))) (by decide) (backOf (W := 0) (jw_endA l Z a0 hw [] b129 a b [(91 : Int32), (91 : Int32)] cs (0 : Int32) T149.heap n0 Zx2 S0 hcs Ox2 Jx2 (by decide) g_w g_a g_b) hZ (hw _ (List.mem_of_getElem? (i := 36) rfl)) (hw _ (List.mem_of_getElem? (i := 3) rfl)) (by decide) (by decide)) q150a q150c (g := (mkF m 155 #[.val (.int p1), .val (.int p2), .val (.int p3), .val (.int (3 : Int32)), .val (.int q1), .val (.int q2), .val (.int fol), .val (.ref b129), .unset, .unset, .unset, .unset, .unset] [(.ref b129)])) rfl (by rw [hml]; rfl) (Steps.refl _) (argsL := []) (rest := []) (lenOf pd_2 rfl) rfl (by show 2 * 0 + _ ≤ _; exact Nat.le_of_eq rfl) (hb hby at_155) (fun _ _ => ⟨rfl, rfl, (by decide : 3 + 0 ≤ _), (by decide : 262 + 0 ≤ _)⟩)
      dsimp only [Pt.U, Pt.locs, Pt.cells, Pt.slots] at X150 l150 y150 z150 st150 hQ150
      subst l150 y150 z150
      obtain ⟨rfl, N150q, K150, J150⟩ := hQ150
      have N150 := Fr.app N149 N150q
      refine EndsW.st st150 ?_
      have Jx3 : JWr Z T150.heap b129 a b [(91 : Int32), (91 : Int32), (93 : Int32)] (1 : Int32) := J150
      have Zx3 : n0 ≤ T150.heap.size := Nat.le_trans Zx2 K150.1
      have Ox3 := Ox2.keep K150 (allS g_w (allS g_a (allS g_b all0)))
      refine EndsW.of (F' := T150.setTop (mkF m 162 #[.val (.int p1), .val (.int p2), .val (.int p3), .val (.int (3 : Int32)), .val (.int q1), .val (.int q2), .val (.int fol), .val (.ref b129), .val (.ref b129), .unset, .unset, .unset, .unset] [(.ref b129)])) (fun _ kt => ?_) ?_
      · show Steps p.tables e below (T150.setTop (mkF m 158 #[.val (.int p1), .val (.int p2), .val (.int p3), .val (.int (3 : Int32)), .val (.int q1), .val (.int q2), .val (.int fol), .val (.ref b129), .unset, .unset, .unset, .unset, .unset] [(.ref b129)])) _
        refine XS.astore X150.here hx rfl (hb hby at_158) rfl rfl (l' := #[.val (.int p1), .val (.int p2), .val (.int p3), .val (.int (3 : Int32)), .val (.int q1), .val (.int q2), .val (.int fol), .val (.ref b129), .val (.ref b129), .unset, .unset, .unset, .unset]) rfl ?_
        show Steps p.tables e below (T150.setTop (mkF m 160 #[.val (.int p1), .val (.int p2), .val (.int p3), .val (.int (3 : Int32)), .val (.int q1), .val (.int q2), .val (.int fol), .val (.ref b129), .val (.ref b129), .unset, .unset, .unset, .unset] [])) _
        refine XS.aload X150.here hx rfl (hb hby at_160) rfl rfl ?_
        exact kt
      obtain ⟨cq151, kq151, q151a, q151b, q151c⟩ := isOf hZ rfl Jx3.1
      obtain ⟨_, _, ⟨T151, L151, k151, n151⟩, -, X151, ⟨Lc151, hQ151, l151, y151, z151⟩, st151⟩ := X150.virtualBack hx (y := (⟨"com/example/tenantd/tenantd/server/JsonWriter", "toString", "()Ljava/lang/String;"⟩ : MethodName)) (z := (⟨"com/example/tenantd/tenantd/server/JsonWriter", "toString", "()Ljava/lang/String;"⟩ : MethodName)) hown (mvT hZ (hw _ (List.mem_of_getElem? (i := 65) rfl))) (mvT hZ (hw _ (List.mem_of_getElem? (i := 66) rfl))) (notFace_of_selects (args := #[]) (mvT hZ (hw _ (List.mem_of_getElem? (i := 68) rfl)))) (mvT hZ (hw _ (List.mem_of_getElem? (i := 68) rfl))) (mvT hZ (hw _ (List.mem_of_getElem? (i := 67) rfl))) (by decide) (backOf (W := 0) (jw_str l Z a0 hw [] b129 a b [(91 : Int32), (91 : Int32), (93 : Int32)] cs (1 : Int32) T150.heap n0 Zx3 S0 hcs Ox3 Jx3 (by decide)) hZ (hw _ (List.mem_of_getElem? (i := 69) rfl)) (hw _ (List.mem_of_getElem? (i := 3) rfl)) (by decide) (by decide)) q151a q151c (g := (mkF m 162 #[.val (.int p1), .val (.int p2), .val (.int p3), .val (.int (3 : Int32)), .val (.int q1), .val (.int q2), .val (.int fol), .val (.ref b129), .val (.ref b129), .unset, .unset, .unset, .unset] [(.ref b129)])) rfl (by rw [hml]; rfl) (Steps.refl _) (argsL := []) (rest := []) (lenOf pd_7 rfl) rfl (by show 2 * 0 + _ ≤ _; exact Nat.le_of_eq rfl) (hb hby at_162) (fun _ _ => ⟨rfl, rfl, (by decide : 3 + 2 ≤ _), (by decide : 262 + 20 ≤ _)⟩)
      dsimp only [Pt.U, Pt.locs, Pt.cells, Pt.slots] at X151 l151 y151 z151 st151 hQ151
      subst l151 y151 z151
      obtain ⟨d151, rfl, N151q, K151, St151, gd151⟩ := hQ151
      have N151 := Fr.app N150 N151q
      refine EndsW.st st151 ?_
      refine EndsW.of (F' := T151.setTop (mkF m 217 #[.val (.int p1), .val (.int p2), .val (.int p3), .val (.int (3 : Int32)), .val (.int q1), .val (.int q2), .val (.int fol), .val (.ref b129), .val (.ref b129), .val (.ref T150.heap.size), .unset, .unset, .unset] [])) (fun _ kt => ?_) ?_
      · show Steps p.tables e below (T151.setTop (mkF m 165 #[.val (.int p1), .val (.int p2), .val (.int p3), .val (.int (3 : Int32)), .val (.int q1), .val (.int q2), .val (.int fol), .val (.ref b129), .val (.ref b129), .unset, .unset, .unset, .unset] [(.ref T150.heap.size)])) _
        refine XS.astore X151.here hx rfl (hb hby at_165) rfl rfl (l' := #[.val (.int p1), .val (.int p2), .val (.int p3), .val (.int (3 : Int32)), .val (.int q1), .val (.int q2), .val (.int fol), .val (.ref b129), .val (.ref b129), .val (.ref T150.heap.size), .unset, .unset, .unset]) rfl ?_
        show Steps p.tables e below (T151.setTop (mkF m 167 #[.val (.int p1), .val (.int p2), .val (.int p3), .val (.int (3 : Int32)), .val (.int q1), .val (.int q2), .val (.int fol), .val (.ref b129), .val (.ref b129), .val (.ref T150.heap.size), .unset, .unset, .unset] [])) _
        refine XS.iloadN X151.here hx rfl (hb hby at_167) rfl ?_
        show Steps p.tables e below (T151.setTop (mkF m 168 #[.val (.int p1), .val (.int p2), .val (.int p3), .val (.int (3 : Int32)), .val (.int q1), .val (.int q2), .val (.int fol), .val (.ref b129), .val (.ref b129), .val (.ref T150.heap.size), .unset, .unset, .unset] [(.int (3 : Int32))])) _
        refine XS.ifYes X151.here hx rfl (pc0 := 168) (pc' := 178) rfl (hb hby at_168) rfl ((if0 _ _).trans (feq (by decide)).2) (by decide) (by decide) ?_
        show Steps p.tables e below (T151.setTop (mkF m 178 #[.val (.int p1), .val (.int p2), .val (.int p3), .val (.int (3 : Int32)), .val (.int q1), .val (.int q2), .val (.int fol), .val (.ref b129), .val (.ref b129), .val (.ref T150.heap.size), .unset, .unset, .unset] [])) _
        refine XS.iloadN X151.here hx rfl (hb hby at_178) rfl ?_
        show Steps p.tables e below (T151.setTop (mkF m 179 #[.val (.int p1), .val (.int p2), .val (.int p3), .val (.int (3 : Int32)), .val (.int q1), .val (.int q2), .val (.int fol), .val (.ref b129), .val (.ref b129), .val (.ref T150.heap.size), .unset, .unset, .unset] [(.int (3 : Int32))])) _
        refine XS.iconst X151.here hx rfl (hb hby at_179) ?_
        show Steps p.tables e below (T151.setTop (mkF m 180 #[.val (.int p1), .val (.int p2), .val (.int p3), .val (.int (3 : Int32)), .val (.int q1), .val (.int q2), .val (.int fol), .val (.ref b129), .val (.ref b129), .val (.ref T150.heap.size), .unset, .unset, .unset] [(.int (1 : Int32)), (.int (3 : Int32))])) _
        refine XS.icmpYes X151.here hx rfl (pc0 := 180) (pc' := 190) rfl (hb hby at_180) rfl (feq (by decide)).2 (by decide) (by decide) ?_
        show Steps p.tables e below (T151.setTop (mkF m 190 #[.val (.int p1), .val (.int p2), .val (.int p3), .val (.int (3 : Int32)), .val (.int q1), .val (.int q2), .val (.int fol), .val (.ref b129), .val (.ref b129), .val (.ref T150.heap.size), .unset, .unset, .unset] [])) _
        refine XS.iloadN X151.here hx rfl (hb hby at_190) rfl ?_
        show Steps p.tables e below (T151.setTop (mkF m 191 #[.val (.int p1), .val (.int p2), .val (.int p3), .val (.int (3 : Int32)), .val (.int q1), .val (.int q2), .val (.int fol), .val (.ref b129), .val (.ref b129), .val (.ref T150.heap.size), .unset, .unset, .unset] [(.int (3 : Int32))])) _
        refine XS.iconst X151.here hx rfl (hb hby at_191) ?_
        show Steps p.tables e below (T151.setTop (mkF m 192 #[.val (.int p1), .val (.int p2), .val (.int p3), .val (.int (3 : Int32)), .val (.int q1), .val (.int q2), .val (.int fol), .val (.ref b129), .val (.ref b129), .val (.ref T150.heap.size), .unset, .unset, .unset] [(.int (2 : Int32)), (.int (3 : Int32))])) _
        refine XS.icmpYes X151.here hx rfl (pc0 := 192) (pc' := 212) rfl (hb hby at_192) rfl (feq (by decide)).2 (by decide) (by decide) ?_
        show Steps p.tables e below (T151.setTop (mkF m 212 #[.val (.int p1), .val (.int p2), .val (.int p3), .val (.int (3 : Int32)), .val (.int q1), .val (.int q2), .val (.int fol), .val (.ref b129), .val (.ref b129), .val (.ref T150.heap.size), .unset, .unset, .unset] [])) _
        refine XS.iloadN X151.here hx rfl (hb hby at_212) rfl ?_
        show Steps p.tables e below (T151.setTop (mkF m 213 #[.val (.int p1), .val (.int p2), .val (.int p3), .val (.int (3 : Int32)), .val (.int q1), .val (.int q2), .val (.int fol), .val (.ref b129), .val (.ref b129), .val (.ref T150.heap.size), .unset, .unset, .unset] [(.int (3 : Int32))])) _
        refine XS.iconst X151.here hx rfl (hb hby at_213) ?_
        show Steps p.tables e below (T151.setTop (mkF m 214 #[.val (.int p1), .val (.int p2), .val (.int p3), .val (.int (3 : Int32)), .val (.int q1), .val (.int q2), .val (.int fol), .val (.ref b129), .val (.ref b129), .val (.ref T150.heap.size), .unset, .unset, .unset] [(.int (3 : Int32)), (.int (3 : Int32))])) _
        refine XS.icmpNo X151.here hx rfl (hb hby at_214) rfl (teq rfl).2 ?_
        exact kt
      have N9 : Fr s.heap.size _ := hn0 ▸ N151
      have hk9 : s.heap.size ≤ T151.heap.size := hn0 ▸ Nat.le_trans Zx3 K151.1
      obtain ⟨u2, T152, h152, k152, v2, c152, X152, e152, E152, hS152, hk152, hZ152, hown152, Ex152, Fc152, Fv152, Av152, lu152, lv152, I152, Li152, wh152, st152⟩ := ldcSVd (s := s) (vm0 := s.vm) (Z := Z) (own := "com/example/tenantd/tenantd/server/JsonWriterEndArrayPinLaw") (text := "[[]") (index := 50) X151 hx hZ hown (hw _ (List.mem_of_getElem? (i := 196) rfl)) wS rfl hS0 hk9 N9 hkeep hI0 (by simp) (hh0 ("com/example/tenantd/tenantd/server/JsonWriterEndArrayPinLaw", 50) (List.mem_of_getElem? (i := 4) rfl)) hcw (vs := (List.range 3).map fun i => Value.int (tf [(91 : Int32), (91 : Int32), (93 : Int32)] i)) (z := Int32.ofNat 3) ⟨by decide +kernel, by rfl⟩ (by decide) (by decide) (g := (mkF m 217 #[.val (.int p1), .val (.int p2), .val (.int p3), .val (.int (3 : Int32)), .val (.int q1), .val (.int q2), .val (.int fol), .val (.ref b129), .val (.ref b129), .val (.ref T150.heap.size), .unset, .unset, .unset] [])) rfl (hb hby at_217) (n := 28) (by decide) (by decide) (by decide) (by decide)
      refine EndsW.of st152 ?_
      refine EndsW.of (F' := T152.setTop (mkF m 240 #[.val (.int p1), .val (.int p2), .val (.int p3), .val (.int (3 : Int32)), .val (.int q1), .val (.int q2), .val (.int fol), .val (.ref b129), .val (.ref b129), .val (.ref T150.heap.size), .val (.ref u2), .unset, .unset] [])) (fun _ kt => ?_) ?_
      · show Steps p.tables e below (T152.setTop (mkF m 219 #[.val (.int p1), .val (.int p2), .val (.int p3), .val (.int (3 : Int32)), .val (.int q1), .val (.int q2), .val (.int fol), .val (.ref b129), .val (.ref b129), .val (.ref T150.heap.size), .unset, .unset, .unset] [(.ref u2)])) _
        refine XS.astore X152.here hx rfl (hb hby at_219) rfl rfl (l' := #[.val (.int p1), .val (.int p2), .val (.int p3), .val (.int (3 : Int32)), .val (.int q1), .val (.int q2), .val (.int fol), .val (.ref b129), .val (.ref b129), .val (.ref T150.heap.size), .val (.ref u2), .unset, .unset]) rfl ?_
        show Steps p.tables e below (T152.setTop (mkF m 221 #[.val (.int p1), .val (.int p2), .val (.int p3), .val (.int (3 : Int32)), .val (.int q1), .val (.int q2), .val (.int fol), .val (.ref b129), .val (.ref b129), .val (.ref T150.heap.size), .val (.ref u2), .unset, .unset] [])) _
        refine XS.goto X152.here hx rfl (pc0 := 221) (pc' := 240) rfl (hb hby at_221) (by decide) (by decide) ?_
        exact kt
      have Ay : Ary .byte Z h152 v2 3 (tf [(91 : Int32), (91 : Int32), (93 : Int32)]) := ⟨by decide, c152, Av152⟩
      have J9 := (Jx3.keep K151).ext E152
      have St9 := St151.ext E152
      have O9 := (Ox3.keep K151 all0).ext E152
      have g9 : T150.heap.size < T151.heap.size := St151.1.lt
      have ne9 : ¬ T150.heap.size = u2 := own_ne2 (Nat.le_trans (Nat.le_of_eq hn0) Zx3) g9 wh152
      exact tail T152.vm k152 _ _ _ b129 a b _ _ u2 v2 [(91 : Int32), (91 : Int32), (93 : Int32)] _ _ q2 fol (by decide) hq2 hfol hS152 hk152 hZ152 hown152 X152 e152 N151 O9 J9 St9 ⟨Ex152, Fc152, Fv152, Ay⟩ ne9 g_w g_a g_b (Nat.le_trans Zx3 (Nat.le_trans K151.1 E152.1))
    · refine EndsW.of (F' := T130.setTop (mkF m 111 #[.val (.int p1), .val (.int p2), .val (.int p3), .val (.int (4 : Int32)), .val (.int q1), .val (.int q2), .val (.int fol), .val (.ref b129), .unset, .unset, .unset, .unset, .unset] [(.ref b129)])) (fun _ kt => ?_) ?_
      · show Steps p.tables e below (T130.setTop (mkF m 48 #[.val (.int p1), .val (.int p2), .val (.int p3), .val (.int (4 : Int32)), .val (.int q1), .val (.int q2), .val (.int fol), .val (.ref b129), .unset, .unset, .unset, .unset, .unset] [])) _
        refine XS.iloadN X130.here hx rfl (hb hby at_48) rfl ?_
        show Steps p.tables e below (T130.setTop (mkF m 49 #[.val (.int p1), .val (.int p2), .val (.int p3), .val (.int (4 : Int32)), .val (.int q1), .val (.int q2), .val (.int fol), .val (.ref b129), .unset, .unset, .unset, .unset, .unset] [(.int (4 : Int32))])) _
        refine XS.iconst X130.here hx rfl (hb hby at_49) ?_
        show Steps p.tables e below (T130.setTop (mkF m 50 #[.val (.int p1), .val (.int p2), .val (.int p3), .val (.int (4 : Int32)), .val (.int q1), .val (.int q2), .val (.int fol), .val (.ref b129), .unset, .unset, .unset, .unset, .unset] [(.int (1 : Int32)), (.int (4 : Int32))])) _
        refine XS.icmpYes X130.here hx rfl (pc0 := 50) (pc' := 62) rfl (hb hby at_50) rfl (feq (by decide)).2 (by decide) (by decide) ?_
        show Steps p.tables e below (T130.setTop (mkF m 62 #[.val (.int p1), .val (.int p2), .val (.int p3), .val (.int (4 : Int32)), .val (.int q1), .val (.int q2), .val (.int fol), .val (.ref b129), .unset, .unset, .unset, .unset, .unset] [])) _
        refine XS.iloadN X130.here hx rfl (hb hby at_62) rfl ?_
        show Steps p.tables e below (T130.setTop (mkF m 63 #[.val (.int p1), .val (.int p2), .val (.int p3), .val (.int (4 : Int32)), .val (.int q1), .val (.int q2), .val (.int fol), .val (.ref b129), .unset, .unset, .unset, .unset, .unset] [(.int (4 : Int32))])) _
        refine XS.iconst X130.here hx rfl (hb hby at_63) ?_
        show Steps p.tables e below (T130.setTop (mkF m 64 #[.val (.int p1), .val (.int p2), .val (.int p3), .val (.int (4 : Int32)), .val (.int q1), .val (.int q2), .val (.int fol), .val (.ref b129), .unset, .unset, .unset, .unset, .unset] [(.int (2 : Int32)), (.int (4 : Int32))])) _
        refine XS.icmpYes X130.here hx rfl (pc0 := 64) (pc' := 84) rfl (hb hby at_64) rfl (feq (by decide)).2 (by decide) (by decide) ?_
        show Steps p.tables e below (T130.setTop (mkF m 84 #[.val (.int p1), .val (.int p2), .val (.int p3), .val (.int (4 : Int32)), .val (.int q1), .val (.int q2), .val (.int fol), .val (.ref b129), .unset, .unset, .unset, .unset, .unset] [])) _
        refine XS.iloadN X130.here hx rfl (hb hby at_84) rfl ?_
        show Steps p.tables e below (T130.setTop (mkF m 85 #[.val (.int p1), .val (.int p2), .val (.int p3), .val (.int (4 : Int32)), .val (.int q1), .val (.int q2), .val (.int fol), .val (.ref b129), .unset, .unset, .unset, .unset, .unset] [(.int (4 : Int32))])) _
        refine XS.iconst X130.here hx rfl (hb hby at_85) ?_
        show Steps p.tables e below (T130.setTop (mkF m 86 #[.val (.int p1), .val (.int p2), .val (.int p3), .val (.int (4 : Int32)), .val (.int q1), .val (.int q2), .val (.int fol), .val (.ref b129), .unset, .unset, .unset, .unset, .unset] [(.int (3 : Int32)), (.int (4 : Int32))])) _
        refine XS.icmpYes X130.here hx rfl (pc0 := 86) (pc' := 104) rfl (hb hby at_86) rfl (feq (by decide)).2 (by decide) (by decide) ?_
        show Steps p.tables e below (T130.setTop (mkF m 104 #[.val (.int p1), .val (.int p2), .val (.int p3), .val (.int (4 : Int32)), .val (.int q1), .val (.int q2), .val (.int fol), .val (.ref b129), .unset, .unset, .unset, .unset, .unset] [])) _
        refine XS.iloadN X130.here hx rfl (hb hby at_104) rfl ?_
        show Steps p.tables e below (T130.setTop (mkF m 105 #[.val (.int p1), .val (.int p2), .val (.int p3), .val (.int (4 : Int32)), .val (.int q1), .val (.int q2), .val (.int fol), .val (.ref b129), .unset, .unset, .unset, .unset, .unset] [(.int (4 : Int32))])) _
        refine XS.iconst X130.here hx rfl (hb hby at_105) ?_
        show Steps p.tables e below (T130.setTop (mkF m 106 #[.val (.int p1), .val (.int p2), .val (.int p3), .val (.int (4 : Int32)), .val (.int q1), .val (.int q2), .val (.int fol), .val (.ref b129), .unset, .unset, .unset, .unset, .unset] [(.int (4 : Int32)), (.int (4 : Int32))])) _
        refine XS.icmpNo X130.here hx rfl (hb hby at_106) rfl (teq rfl).2 ?_
        show Steps p.tables e below (T130.setTop (mkF m 109 #[.val (.int p1), .val (.int p2), .val (.int p3), .val (.int (4 : Int32)), .val (.int q1), .val (.int q2), .val (.int fol), .val (.ref b129), .unset, .unset, .unset, .unset, .unset] [])) _
        refine XS.aload X130.here hx rfl (hb hby at_109) rfl rfl ?_
        exact kt
      obtain ⟨cq153, kq153, q153a, q153b, q153c⟩ := isOf hZ rfl J0.1
      obtain ⟨_, _, ⟨T153, L153, k153, n153⟩, -, X153, ⟨Lc153, hQ153, l153, y153, z153⟩, st153⟩ := X130.virtualBack hx (y := (⟨"com/example/tenantd/tenantd/server/JsonWriter", "array", "()Lcom/example/tenantd/tenantd/server/JsonWriter;"⟩ : MethodName)) (z := (⟨"com/example/tenantd/tenantd/server/JsonWriter", "array", "()Lcom/example/tenantd/tenantd/server/JsonWriter;"⟩ : MethodName)) hown (mvT hZ (hw _ (List.mem_of_getElem? (i := 144) rfl))) (mvT hZ (hw _ (List.mem_of_getElem? (i := 145) rfl))) (notFace_of_selects (args := #[]) (mvT hZ (hw _ (List.mem_of_getElem? (i := 147) rfl)))) (mvT hZ (hw _ (List.mem_of_getElem? (i := 147) rfl))) (mvT hZ (hw _ (List.mem_of_getElem? (i := 146) rfl))) (by decide) (backOf (W := 0) (jw_arr0 l Z a0 hw [] b129 a b [] cs T130.heap n0 Z2 S0 hcs O2 J0 (by decide) g_w g_a g_b) hZ (hw _ (List.mem_of_getElem? (i := 148) rfl)) (hw _ (List.mem_of_getElem? (i := 3) rfl)) (by decide) (by decide)) q153a q153c (g := (mkF m 111 #[.val (.int p1), .val (.int p2), .val (.int p3), .val (.int (4 : Int32)), .val (.int q1), .val (.int q2), .val (.int fol), .val (.ref b129), .unset, .unset, .unset, .unset, .unset] [(.ref b129)])) rfl (by rw [hml]; rfl) (Steps.refl _) (argsL := []) (rest := []) (lenOf pd_2 rfl) rfl (by show 2 * 0 + _ ≤ _; exact Nat.le_of_eq rfl) (hb hby at_111) (fun _ _ => ⟨rfl, rfl, (by decide : 3 + 0 ≤ _), (by decide : 262 + 0 ≤ _)⟩)
      dsimp only [Pt.U, Pt.locs, Pt.cells, Pt.slots] at X153 l153 y153 z153 st153 hQ153
      subst l153 y153 z153
      obtain ⟨rfl, N153q, K153, J153⟩ := hQ153
      have N153 := Fr.app N130 N153q
      refine EndsW.st st153 ?_
      have Jx1 : JWr Z T153.heap b129 a b [(91 : Int32)] (0 : Int32) := J153
      have Zx1 : n0 ≤ T153.heap.size := Nat.le_trans Z2 K153.1
      have Ox1 := O2.keep K153 (allS g_w (allS g_a (allS g_b all0)))
      refine EndsW.of (F' := T153.setTop (mkF m 117 #[.val (.int p1), .val (.int p2), .val (.int p3), .val (.int (4 : Int32)), .val (.int q1), .val (.int q2), .val (.int fol), .val (.ref b129), .unset, .unset, .unset, .unset, .unset] [(.ref b129)])) (fun _ kt => ?_) ?_
      · show Steps p.tables e below (T153.setTop (mkF m 114 #[.val (.int p1), .val (.int p2), .val (.int p3), .val (.int (4 : Int32)), .val (.int q1), .val (.int q2), .val (.int fol), .val (.ref b129), .unset, .unset, .unset, .unset, .unset] [(.ref b129)])) _
        refine XS.pop X153.here hx rfl (hb hby at_114) rfl rfl ?_
        show Steps p.tables e below (T153.setTop (mkF m 115 #[.val (.int p1), .val (.int p2), .val (.int p3), .val (.int (4 : Int32)), .val (.int q1), .val (.int q2), .val (.int fol), .val (.ref b129), .unset, .unset, .unset, .unset, .unset] [])) _
        refine XS.aload X153.here hx rfl (hb hby at_115) rfl rfl ?_
        exact kt
      obtain ⟨cq154, kq154, q154a, q154b, q154c⟩ := isOf hZ rfl Jx1.1
      obtain ⟨_, _, ⟨T154, L154, k154, n154⟩, -, X154, ⟨Lc154, hQ154, l154, y154, z154⟩, st154⟩ := X153.virtualBack hx (y := (⟨"com/example/tenantd/tenantd/server/JsonWriter", "object", "()Lcom/example/tenantd/tenantd/server/JsonWriter;"⟩ : MethodName)) (z := (⟨"com/example/tenantd/tenantd/server/JsonWriter", "object", "()Lcom/example/tenantd/tenantd/server/JsonWriter;"⟩ : MethodName)) hown (mvT hZ (hw _ (List.mem_of_getElem? (i := 197) rfl))) (mvT hZ (hw _ (List.mem_of_getElem? (i := 198) rfl))) (notFace_of_selects (args := #[]) (mvT hZ (hw _ (List.mem_of_getElem? (i := 200) rfl)))) (mvT hZ (hw _ (List.mem_of_getElem? (i := 200) rfl))) (mvT hZ (hw _ (List.mem_of_getElem? (i := 199) rfl))) (by decide) (backOf (W := 0) (jw_obj0 l Z a0 hw [] b129 a b [(91 : Int32)] cs T153.heap n0 Zx1 S0 hcs Ox1 Jx1 (by decide) g_w g_a g_b) hZ (hw _ (List.mem_of_getElem? (i := 201) rfl)) (hw _ (List.mem_of_getElem? (i := 3) rfl)) (by decide) (by decide)) q154a q154c (g := (mkF m 117 #[.val (.int p1), .val (.int p2), .val (.int p3), .val (.int (4 : Int32)), .val (.int q1), .val (.int q2), .val (.int fol), .val (.ref b129), .unset, .unset, .unset, .unset, .unset] [(.ref b129)])) rfl (by rw [hml]; rfl) (Steps.refl _) (argsL := []) (rest := []) (lenOf pd_2 rfl) rfl (by show 2 * 0 + _ ≤ _; exact Nat.le_of_eq rfl) (hb hby at_117) (fun _ _ => ⟨rfl, rfl, (by decide : 3 + 0 ≤ _), (by decide : 262 + 0 ≤ _)⟩)
      dsimp only [Pt.U, Pt.locs, Pt.cells, Pt.slots] at X154 l154 y154 z154 st154 hQ154
      subst l154 y154 z154
      obtain ⟨rfl, N154q, K154, J154⟩ := hQ154
      have N154 := Fr.app N153 N154q
      refine EndsW.st st154 ?_
      have Jx2 : JWr Z T154.heap b129 a b [(91 : Int32), (123 : Int32)] (0 : Int32) := J154
      have Zx2 : n0 ≤ T154.heap.size := Nat.le_trans Zx1 K154.1
      have Ox2 := Ox1.keep K154 (allS g_w (allS g_a (allS g_b all0)))
      refine EndsW.of (F' := T154.setTop (mkF m 123 #[.val (.int p1), .val (.int p2), .val (.int p3), .val (.int (4 : Int32)), .val (.int q1), .val (.int q2), .val (.int fol), .val (.ref b129), .unset, .unset, .unset, .unset, .unset] [(.ref b129)])) (fun _ kt => ?_) ?_
      · show Steps p.tables e below (T154.setTop (mkF m 120 #[.val (.int p1), .val (.int p2), .val (.int p3), .val (.int (4 : Int32)), .val (.int q1), .val (.int q2), .val (.int fol), .val (.ref b129), .unset, .unset, .unset, .unset, .unset] [(.ref b129)])) _
        refine XS.pop X154.here hx rfl (hb hby at_120) rfl rfl ?_
        show Steps p.tables e below (T154.setTop (mkF m 121 #[.val (.int p1), .val (.int p2), .val (.int p3), .val (.int (4 : Int32)), .val (.int q1), .val (.int q2), .val (.int fol), .val (.ref b129), .unset, .unset, .unset, .unset, .unset] [])) _
        refine XS.aload X154.here hx rfl (hb hby at_121) rfl rfl ?_
        exact kt
      obtain ⟨cq155, kq155, q155a, q155b, q155c⟩ := isOf hZ rfl Jx2.1
      obtain ⟨_, _, ⟨T155, L155, k155, n155⟩, -, X155, ⟨Lc155, hQ155, l155, y155, z155⟩, st155⟩ := X154.virtualBack hx (y := (⟨"com/example/tenantd/tenantd/server/JsonWriter", "endObject", "()Lcom/example/tenantd/tenantd/server/JsonWriter;"⟩ : MethodName)) (z := (⟨"com/example/tenantd/tenantd/server/JsonWriter", "endObject", "()Lcom/example/tenantd/tenantd/server/JsonWriter;"⟩ : MethodName)) hown (mvT hZ (hw _ (List.mem_of_getElem? (i := 202) rfl))) (mvT hZ (hw _ (List.mem_of_getElem? (i := 203) rfl))) (notFace_of_selects (args := #[]) (mvT hZ (hw _ (List.mem_of_getElem? (i := 205) rfl)))) (mvT hZ (hw _ (List.mem_of_getElem? (i := 205) rfl))) (mvT hZ (hw _ (List.mem_of_getElem? (i := 204) rfl))) (by decide) (backOf (W := 0) (jw_endO l Z a0 hw [] b129 a b [(91 : Int32), (123 : Int32)] cs (0 : Int32) T154.heap n0 Zx2 S0 hcs Ox2 Jx2 (by decide) g_w g_a g_b) hZ (hw _ (List.mem_of_getElem? (i := 206) rfl)) (hw _ (List.mem_of_getElem? (i := 3) rfl)) (by decide) (by decide)) q155a q155c (g := (mkF m 123 #[.val (.int p1), .val (.int p2), .val (.int p3), .val (.int (4 : Int32)), .val (.int q1), .val (.int q2), .val (.int fol), .val (.ref b129), .unset, .unset, .unset, .unset, .unset] [(.ref b129)])) rfl (by rw [hml]; rfl) (Steps.refl _) (argsL := []) (rest := []) (lenOf pd_2 rfl) rfl (by show 2 * 0 + _ ≤ _; exact Nat.le_of_eq rfl) (hb hby at_123) (fun _ _ => ⟨rfl, rfl, (by decide : 3 + 0 ≤ _), (by decide : 262 + 0 ≤ _)⟩)
      dsimp only [Pt.U, Pt.locs, Pt.cells, Pt.slots] at X155 l155 y155 z155 st155 hQ155
      subst l155 y155 z155
      obtain ⟨rfl, N155q, K155, J155⟩ := hQ155
      have N155 := Fr.app N154 N155q
      refine EndsW.st st155 ?_
      have Jx3 : JWr Z T155.heap b129 a b [(91 : Int32), (123 : Int32), (125 : Int32)] (1 : Int32) := J155
      have Zx3 : n0 ≤ T155.heap.size := Nat.le_trans Zx2 K155.1
      have Ox3 := Ox2.keep K155 (allS g_w (allS g_a (allS g_b all0)))
      refine EndsW.of (F' := T155.setTop (mkF m 155 #[.val (.int p1), .val (.int p2), .val (.int p3), .val (.int (4 : Int32)), .val (.int q1), .val (.int q2), .val (.int fol), .val (.ref b129), .unset, .unset, .unset, .unset, .unset] [(.ref b129)])) (fun _ kt => ?_) ?_
      · show Steps p.tables e below (T155.setTop (mkF m 126 #[.val (.int p1), .val (.int p2), .val (.int p3), .val (.int (4 : Int32)), .val (.int q1), .val (.int q2), .val (.int fol), .val (.ref b129), .unset, .unset, .unset, .unset, .unset] [(.ref b129)])) _
        refine XS.pop X155.here hx rfl (hb hby at_126) rfl rfl ?_
        show Steps p.tables e below (T155.setTop (mkF m 127 #[.val (.int p1), .val (.int p2), .val (.int p3), .val (.int (4 : Int32)), .val (.int q1), .val (.int q2), .val (.int fol), .val (.ref b129), .unset, .unset, .unset, .unset, .unset] [])) _
        refine XS.goto X155.here hx rfl (pc0 := 127) (pc' := 153) rfl (hb hby at_127) (by decide) (by decide) ?_
        show Steps p.tables e below (T155.setTop (mkF m 153 #[.val (.int p1), .val (.int p2), .val (.int p3), .val (.int (4 : Int32)), .val (.int q1), .val (.int q2), .val (.int fol), .val (.ref b129), .unset, .unset, .unset, .unset, .unset] [])) _
        refine XS.aload X155.here hx rfl (hb hby at_153) rfl rfl ?_
        exact kt
      obtain ⟨cq156, kq156, q156a, q156b, q156c⟩ := isOf hZ rfl Jx3.1
      obtain ⟨_, _, ⟨T156, L156, k156, n156⟩, -, X156, ⟨Lc156, hQ156, l156, y156, z156⟩, st156⟩ := X155.virtualBack hx (y := (⟨"com/example/tenantd/tenantd/server/JsonWriter", "endArray", "()Lcom/example/tenantd/tenantd/server/JsonWriter;"⟩ : MethodName)) (z := (⟨"com/example/tenantd/tenantd/server/JsonWriter", "endArray", "()Lcom/example/tenantd/tenantd/server/JsonWriter;"⟩ : MethodName)) hown (mvT hZ (hw _ (List.mem_of_getElem? (i := 32) rfl))) (mvT hZ (hw _ (List.mem_of_getElem? (i := 33) rfl))) (notFace_of_selects (args := #[]) (mvT hZ (hw _ (List.mem_of_getElem? (i := 35) rfl)))) (mvT hZ (hw _ (List.mem_of_getElem? (i := 35) rfl))) (mvT hZ (hw _ (List.mem_of_getElem? (i := 34) rfl))) (by decide) (backOf (W := 0) (jw_endA l Z a0 hw [] b129 a b [(91 : Int32), (123 : Int32), (125 : Int32)] cs (1 : Int32) T155.heap n0 Zx3 S0 hcs Ox3 Jx3 (by decide) g_w g_a g_b) hZ (hw _ (List.mem_of_getElem? (i := 36) rfl)) (hw _ (List.mem_of_getElem? (i := 3) rfl)) (by decide) (by decide)) q156a q156c (g := (mkF m 155 #[.val (.int p1), .val (.int p2), .val (.int p3), .val (.int (4 : Int32)), .val (.int q1), .val (.int q2), .val (.int fol), .val (.ref b129), .unset, .unset, .unset, .unset, .unset] [(.ref b129)])) rfl (by rw [hml]; rfl) (Steps.refl _) (argsL := []) (rest := []) (lenOf pd_2 rfl) rfl (by show 2 * 0 + _ ≤ _; exact Nat.le_of_eq rfl) (hb hby at_155) (fun _ _ => ⟨rfl, rfl, (by decide : 3 + 0 ≤ _), (by decide : 262 + 0 ≤ _)⟩)
      dsimp only [Pt.U, Pt.locs, Pt.cells, Pt.slots] at X156 l156 y156 z156 st156 hQ156
      subst l156 y156 z156
      obtain ⟨rfl, N156q, K156, J156⟩ := hQ156
      have N156 := Fr.app N155 N156q
      refine EndsW.st st156 ?_
      have Jx4 : JWr Z T156.heap b129 a b [(91 : Int32), (123 : Int32), (125 : Int32), (93 : Int32)] (1 : Int32) := J156
      have Zx4 : n0 ≤ T156.heap.size := Nat.le_trans Zx3 K156.1
      have Ox4 := Ox3.keep K156 (allS g_w (allS g_a (allS g_b all0)))
      refine EndsW.of (F' := T156.setTop (mkF m 162 #[.val (.int p1), .val (.int p2), .val (.int p3), .val (.int (4 : Int32)), .val (.int q1), .val (.int q2), .val (.int fol), .val (.ref b129), .val (.ref b129), .unset, .unset, .unset, .unset] [(.ref b129)])) (fun _ kt => ?_) ?_
      · show Steps p.tables e below (T156.setTop (mkF m 158 #[.val (.int p1), .val (.int p2), .val (.int p3), .val (.int (4 : Int32)), .val (.int q1), .val (.int q2), .val (.int fol), .val (.ref b129), .unset, .unset, .unset, .unset, .unset] [(.ref b129)])) _
        refine XS.astore X156.here hx rfl (hb hby at_158) rfl rfl (l' := #[.val (.int p1), .val (.int p2), .val (.int p3), .val (.int (4 : Int32)), .val (.int q1), .val (.int q2), .val (.int fol), .val (.ref b129), .val (.ref b129), .unset, .unset, .unset, .unset]) rfl ?_
        show Steps p.tables e below (T156.setTop (mkF m 160 #[.val (.int p1), .val (.int p2), .val (.int p3), .val (.int (4 : Int32)), .val (.int q1), .val (.int q2), .val (.int fol), .val (.ref b129), .val (.ref b129), .unset, .unset, .unset, .unset] [])) _
        refine XS.aload X156.here hx rfl (hb hby at_160) rfl rfl ?_
        exact kt
      obtain ⟨cq157, kq157, q157a, q157b, q157c⟩ := isOf hZ rfl Jx4.1
      obtain ⟨_, _, ⟨T157, L157, k157, n157⟩, -, X157, ⟨Lc157, hQ157, l157, y157, z157⟩, st157⟩ := X156.virtualBack hx (y := (⟨"com/example/tenantd/tenantd/server/JsonWriter", "toString", "()Ljava/lang/String;"⟩ : MethodName)) (z := (⟨"com/example/tenantd/tenantd/server/JsonWriter", "toString", "()Ljava/lang/String;"⟩ : MethodName)) hown (mvT hZ (hw _ (List.mem_of_getElem? (i := 65) rfl))) (mvT hZ (hw _ (List.mem_of_getElem? (i := 66) rfl))) (notFace_of_selects (args := #[]) (mvT hZ (hw _ (List.mem_of_getElem? (i := 68) rfl)))) (mvT hZ (hw _ (List.mem_of_getElem? (i := 68) rfl))) (mvT hZ (hw _ (List.mem_of_getElem? (i := 67) rfl))) (by decide) (backOf (W := 0) (jw_str l Z a0 hw [] b129 a b [(91 : Int32), (123 : Int32), (125 : Int32), (93 : Int32)] cs (1 : Int32) T156.heap n0 Zx4 S0 hcs Ox4 Jx4 (by decide)) hZ (hw _ (List.mem_of_getElem? (i := 69) rfl)) (hw _ (List.mem_of_getElem? (i := 3) rfl)) (by decide) (by decide)) q157a q157c (g := (mkF m 162 #[.val (.int p1), .val (.int p2), .val (.int p3), .val (.int (4 : Int32)), .val (.int q1), .val (.int q2), .val (.int fol), .val (.ref b129), .val (.ref b129), .unset, .unset, .unset, .unset] [(.ref b129)])) rfl (by rw [hml]; rfl) (Steps.refl _) (argsL := []) (rest := []) (lenOf pd_7 rfl) rfl (by show 2 * 0 + _ ≤ _; exact Nat.le_of_eq rfl) (hb hby at_162) (fun _ _ => ⟨rfl, rfl, (by decide : 3 + 2 ≤ _), (by decide : 262 + 20 ≤ _)⟩)
      dsimp only [Pt.U, Pt.locs, Pt.cells, Pt.slots] at X157 l157 y157 z157 st157 hQ157
      subst l157 y157 z157
      obtain ⟨d157, rfl, N157q, K157, St157, gd157⟩ := hQ157
      have N157 := Fr.app N156 N157q
      refine EndsW.st st157 ?_
      refine EndsW.of (F' := T157.setTop (mkF m 229 #[.val (.int p1), .val (.int p2), .val (.int p3), .val (.int (4 : Int32)), .val (.int q1), .val (.int q2), .val (.int fol), .val (.ref b129), .val (.ref b129), .val (.ref T156.heap.size), .unset, .unset, .unset] [])) (fun _ kt => ?_) ?_
      · show Steps p.tables e below (T157.setTop (mkF m 165 #[.val (.int p1), .val (.int p2), .val (.int p3), .val (.int (4 : Int32)), .val (.int q1), .val (.int q2), .val (.int fol), .val (.ref b129), .val (.ref b129), .unset, .unset, .unset, .unset] [(.ref T156.heap.size)])) _
        refine XS.astore X157.here hx rfl (hb hby at_165) rfl rfl (l' := #[.val (.int p1), .val (.int p2), .val (.int p3), .val (.int (4 : Int32)), .val (.int q1), .val (.int q2), .val (.int fol), .val (.ref b129), .val (.ref b129), .val (.ref T156.heap.size), .unset, .unset, .unset]) rfl ?_
        show Steps p.tables e below (T157.setTop (mkF m 167 #[.val (.int p1), .val (.int p2), .val (.int p3), .val (.int (4 : Int32)), .val (.int q1), .val (.int q2), .val (.int fol), .val (.ref b129), .val (.ref b129), .val (.ref T156.heap.size), .unset, .unset, .unset] [])) _
        refine XS.iloadN X157.here hx rfl (hb hby at_167) rfl ?_
        show Steps p.tables e below (T157.setTop (mkF m 168 #[.val (.int p1), .val (.int p2), .val (.int p3), .val (.int (4 : Int32)), .val (.int q1), .val (.int q2), .val (.int fol), .val (.ref b129), .val (.ref b129), .val (.ref T156.heap.size), .unset, .unset, .unset] [(.int (4 : Int32))])) _
        refine XS.ifYes X157.here hx rfl (pc0 := 168) (pc' := 178) rfl (hb hby at_168) rfl ((if0 _ _).trans (feq (by decide)).2) (by decide) (by decide) ?_
        show Steps p.tables e below (T157.setTop (mkF m 178 #[.val (.int p1), .val (.int p2), .val (.int p3), .val (.int (4 : Int32)), .val (.int q1), .val (.int q2), .val (.int fol), .val (.ref b129), .val (.ref b129), .val (.ref T156.heap.size), .unset, .unset, .unset] [])) _
        refine XS.iloadN X157.here hx rfl (hb hby at_178) rfl ?_
        show Steps p.tables e below (T157.setTop (mkF m 179 #[.val (.int p1), .val (.int p2), .val (.int p3), .val (.int (4 : Int32)), .val (.int q1), .val (.int q2), .val (.int fol), .val (.ref b129), .val (.ref b129), .val (.ref T156.heap.size), .unset, .unset, .unset] [(.int (4 : Int32))])) _
        refine XS.iconst X157.here hx rfl (hb hby at_179) ?_
        show Steps p.tables e below (T157.setTop (mkF m 180 #[.val (.int p1), .val (.int p2), .val (.int p3), .val (.int (4 : Int32)), .val (.int q1), .val (.int q2), .val (.int fol), .val (.ref b129), .val (.ref b129), .val (.ref T156.heap.size), .unset, .unset, .unset] [(.int (1 : Int32)), (.int (4 : Int32))])) _
        refine XS.icmpYes X157.here hx rfl (pc0 := 180) (pc' := 190) rfl (hb hby at_180) rfl (feq (by decide)).2 (by decide) (by decide) ?_
        show Steps p.tables e below (T157.setTop (mkF m 190 #[.val (.int p1), .val (.int p2), .val (.int p3), .val (.int (4 : Int32)), .val (.int q1), .val (.int q2), .val (.int fol), .val (.ref b129), .val (.ref b129), .val (.ref T156.heap.size), .unset, .unset, .unset] [])) _
        refine XS.iloadN X157.here hx rfl (hb hby at_190) rfl ?_
        show Steps p.tables e below (T157.setTop (mkF m 191 #[.val (.int p1), .val (.int p2), .val (.int p3), .val (.int (4 : Int32)), .val (.int q1), .val (.int q2), .val (.int fol), .val (.ref b129), .val (.ref b129), .val (.ref T156.heap.size), .unset, .unset, .unset] [(.int (4 : Int32))])) _
        refine XS.iconst X157.here hx rfl (hb hby at_191) ?_
        show Steps p.tables e below (T157.setTop (mkF m 192 #[.val (.int p1), .val (.int p2), .val (.int p3), .val (.int (4 : Int32)), .val (.int q1), .val (.int q2), .val (.int fol), .val (.ref b129), .val (.ref b129), .val (.ref T156.heap.size), .unset, .unset, .unset] [(.int (2 : Int32)), (.int (4 : Int32))])) _
        refine XS.icmpYes X157.here hx rfl (pc0 := 192) (pc' := 212) rfl (hb hby at_192) rfl (feq (by decide)).2 (by decide) (by decide) ?_
        show Steps p.tables e below (T157.setTop (mkF m 212 #[.val (.int p1), .val (.int p2), .val (.int p3), .val (.int (4 : Int32)), .val (.int q1), .val (.int q2), .val (.int fol), .val (.ref b129), .val (.ref b129), .val (.ref T156.heap.size), .unset, .unset, .unset] [])) _
        refine XS.iloadN X157.here hx rfl (hb hby at_212) rfl ?_
        show Steps p.tables e below (T157.setTop (mkF m 213 #[.val (.int p1), .val (.int p2), .val (.int p3), .val (.int (4 : Int32)), .val (.int q1), .val (.int q2), .val (.int fol), .val (.ref b129), .val (.ref b129), .val (.ref T156.heap.size), .unset, .unset, .unset] [(.int (4 : Int32))])) _
        refine XS.iconst X157.here hx rfl (hb hby at_213) ?_
        show Steps p.tables e below (T157.setTop (mkF m 214 #[.val (.int p1), .val (.int p2), .val (.int p3), .val (.int (4 : Int32)), .val (.int q1), .val (.int q2), .val (.int fol), .val (.ref b129), .val (.ref b129), .val (.ref T156.heap.size), .unset, .unset, .unset] [(.int (3 : Int32)), (.int (4 : Int32))])) _
        refine XS.icmpYes X157.here hx rfl (pc0 := 214) (pc' := 224) rfl (hb hby at_214) rfl (feq (by decide)).2 (by decide) (by decide) ?_
        show Steps p.tables e below (T157.setTop (mkF m 224 #[.val (.int p1), .val (.int p2), .val (.int p3), .val (.int (4 : Int32)), .val (.int q1), .val (.int q2), .val (.int fol), .val (.ref b129), .val (.ref b129), .val (.ref T156.heap.size), .unset, .unset, .unset] [])) _
        refine XS.iloadN X157.here hx rfl (hb hby at_224) rfl ?_
        show Steps p.tables e below (T157.setTop (mkF m 225 #[.val (.int p1), .val (.int p2), .val (.int p3), .val (.int (4 : Int32)), .val (.int q1), .val (.int q2), .val (.int fol), .val (.ref b129), .val (.ref b129), .val (.ref T156.heap.size), .unset, .unset, .unset] [(.int (4 : Int32))])) _
        refine XS.iconst X157.here hx rfl (hb hby at_225) ?_
        show Steps p.tables e below (T157.setTop (mkF m 226 #[.val (.int p1), .val (.int p2), .val (.int p3), .val (.int (4 : Int32)), .val (.int q1), .val (.int q2), .val (.int fol), .val (.ref b129), .val (.ref b129), .val (.ref T156.heap.size), .unset, .unset, .unset] [(.int (4 : Int32)), (.int (4 : Int32))])) _
        refine XS.icmpNo X157.here hx rfl (hb hby at_226) rfl (teq rfl).2 ?_
        exact kt
      have N9 : Fr s.heap.size _ := hn0 ▸ N157
      have hk9 : s.heap.size ≤ T157.heap.size := hn0 ▸ Nat.le_trans Zx4 K157.1
      obtain ⟨u2, T158, h158, k158, v2, c158, X158, e158, E158, hS158, hk158, hZ158, hown158, Ex158, Fc158, Fv158, Av158, lu158, lv158, I158, Li158, wh158, st158⟩ := ldcSVd (s := s) (vm0 := s.vm) (Z := Z) (own := "com/example/tenantd/tenantd/server/JsonWriterEndArrayPinLaw") (text := "[{}]") (index := 52) X157 hx hZ hown (hw _ (List.mem_of_getElem? (i := 207) rfl)) wS rfl hS0 hk9 N9 hkeep hI0 (by simp) (hh0 ("com/example/tenantd/tenantd/server/JsonWriterEndArrayPinLaw", 52) (List.mem_of_getElem? (i := 5) rfl)) hcw (vs := (List.range 4).map fun i => Value.int (tf [(91 : Int32), (123 : Int32), (125 : Int32), (93 : Int32)] i)) (z := Int32.ofNat 4) ⟨by decide +kernel, by rfl⟩ (by decide) (by decide) (g := (mkF m 229 #[.val (.int p1), .val (.int p2), .val (.int p3), .val (.int (4 : Int32)), .val (.int q1), .val (.int q2), .val (.int fol), .val (.ref b129), .val (.ref b129), .val (.ref T156.heap.size), .unset, .unset, .unset] [])) rfl (hb hby at_229) (n := 28) (by decide) (by decide) (by decide) (by decide)
      refine EndsW.of st158 ?_
      refine EndsW.of (F' := T158.setTop (mkF m 240 #[.val (.int p1), .val (.int p2), .val (.int p3), .val (.int (4 : Int32)), .val (.int q1), .val (.int q2), .val (.int fol), .val (.ref b129), .val (.ref b129), .val (.ref T156.heap.size), .val (.ref u2), .unset, .unset] [])) (fun _ kt => ?_) ?_
      · show Steps p.tables e below (T158.setTop (mkF m 231 #[.val (.int p1), .val (.int p2), .val (.int p3), .val (.int (4 : Int32)), .val (.int q1), .val (.int q2), .val (.int fol), .val (.ref b129), .val (.ref b129), .val (.ref T156.heap.size), .unset, .unset, .unset] [(.ref u2)])) _
        refine XS.astore X158.here hx rfl (hb hby at_231) rfl rfl (l' := #[.val (.int p1), .val (.int p2), .val (.int p3), .val (.int (4 : Int32)), .val (.int q1), .val (.int q2), .val (.int fol), .val (.ref b129), .val (.ref b129), .val (.ref T156.heap.size), .val (.ref u2), .unset, .unset]) rfl ?_
        show Steps p.tables e below (T158.setTop (mkF m 233 #[.val (.int p1), .val (.int p2), .val (.int p3), .val (.int (4 : Int32)), .val (.int q1), .val (.int q2), .val (.int fol), .val (.ref b129), .val (.ref b129), .val (.ref T156.heap.size), .val (.ref u2), .unset, .unset] [])) _
        refine XS.goto X158.here hx rfl (pc0 := 233) (pc' := 240) rfl (hb hby at_233) (by decide) (by decide) ?_
        exact kt
      have Ay : Ary .byte Z h158 v2 4 (tf [(91 : Int32), (123 : Int32), (125 : Int32), (93 : Int32)]) := ⟨by decide, c158, Av158⟩
      have J9 := (Jx4.keep K157).ext E158
      have St9 := St157.ext E158
      have O9 := (Ox4.keep K157 all0).ext E158
      have g9 : T156.heap.size < T157.heap.size := St157.1.lt
      have ne9 : ¬ T156.heap.size = u2 := own_ne2 (Nat.le_trans (Nat.le_of_eq hn0) Zx4) g9 wh158
      exact tail T158.vm k158 _ _ _ b129 a b _ _ u2 v2 [(91 : Int32), (123 : Int32), (125 : Int32), (93 : Int32)] _ _ q2 fol (by decide) hq2 hfol hS158 hk158 hZ158 hown158 X158 e158 N157 O9 J9 St9 ⟨Ex158, Fc158, Fv158, Ay⟩ ne9 g_w g_a g_b (Nat.le_trans Zx4 (Nat.le_trans K157.1 E158.1))
    · refine EndsW.of (F' := T130.setTop (mkF m 137 #[.val (.int p1), .val (.int p2), .val (.int p3), .val (.int (5 : Int32)), .val (.int q1), .val (.int q2), .val (.int fol), .val (.ref b129), .unset, .unset, .unset, .unset, .unset] [(.ref b129)])) (fun _ kt => ?_) ?_
      · show Steps p.tables e below (T130.setTop (mkF m 48 #[.val (.int p1), .val (.int p2), .val (.int p3), .val (.int (5 : Int32)), .val (.int q1), .val (.int q2), .val (.int fol), .val (.ref b129), .unset, .unset, .unset, .unset, .unset] [])) _
        refine XS.iloadN X130.here hx rfl (hb hby at_48) rfl ?_
        show Steps p.tables e below (T130.setTop (mkF m 49 #[.val (.int p1), .val (.int p2), .val (.int p3), .val (.int (5 : Int32)), .val (.int q1), .val (.int q2), .val (.int fol), .val (.ref b129), .unset, .unset, .unset, .unset, .unset] [(.int (5 : Int32))])) _
        refine XS.iconst X130.here hx rfl (hb hby at_49) ?_
        show Steps p.tables e below (T130.setTop (mkF m 50 #[.val (.int p1), .val (.int p2), .val (.int p3), .val (.int (5 : Int32)), .val (.int q1), .val (.int q2), .val (.int fol), .val (.ref b129), .unset, .unset, .unset, .unset, .unset] [(.int (1 : Int32)), (.int (5 : Int32))])) _
        refine XS.icmpYes X130.here hx rfl (pc0 := 50) (pc' := 62) rfl (hb hby at_50) rfl (feq (by decide)).2 (by decide) (by decide) ?_
        show Steps p.tables e below (T130.setTop (mkF m 62 #[.val (.int p1), .val (.int p2), .val (.int p3), .val (.int (5 : Int32)), .val (.int q1), .val (.int q2), .val (.int fol), .val (.ref b129), .unset, .unset, .unset, .unset, .unset] [])) _
        refine XS.iloadN X130.here hx rfl (hb hby at_62) rfl ?_
        show Steps p.tables e below (T130.setTop (mkF m 63 #[.val (.int p1), .val (.int p2), .val (.int p3), .val (.int (5 : Int32)), .val (.int q1), .val (.int q2), .val (.int fol), .val (.ref b129), .unset, .unset, .unset, .unset, .unset] [(.int (5 : Int32))])) _
        refine XS.iconst X130.here hx rfl (hb hby at_63) ?_
        show Steps p.tables e below (T130.setTop (mkF m 64 #[.val (.int p1), .val (.int p2), .val (.int p3), .val (.int (5 : Int32)), .val (.int q1), .val (.int q2), .val (.int fol), .val (.ref b129), .unset, .unset, .unset, .unset, .unset] [(.int (2 : Int32)), (.int (5 : Int32))])) _
        refine XS.icmpYes X130.here hx rfl (pc0 := 64) (pc' := 84) rfl (hb hby at_64) rfl (feq (by decide)).2 (by decide) (by decide) ?_
        show Steps p.tables e below (T130.setTop (mkF m 84 #[.val (.int p1), .val (.int p2), .val (.int p3), .val (.int (5 : Int32)), .val (.int q1), .val (.int q2), .val (.int fol), .val (.ref b129), .unset, .unset, .unset, .unset, .unset] [])) _
        refine XS.iloadN X130.here hx rfl (hb hby at_84) rfl ?_
        show Steps p.tables e below (T130.setTop (mkF m 85 #[.val (.int p1), .val (.int p2), .val (.int p3), .val (.int (5 : Int32)), .val (.int q1), .val (.int q2), .val (.int fol), .val (.ref b129), .unset, .unset, .unset, .unset, .unset] [(.int (5 : Int32))])) _
        refine XS.iconst X130.here hx rfl (hb hby at_85) ?_
        show Steps p.tables e below (T130.setTop (mkF m 86 #[.val (.int p1), .val (.int p2), .val (.int p3), .val (.int (5 : Int32)), .val (.int q1), .val (.int q2), .val (.int fol), .val (.ref b129), .unset, .unset, .unset, .unset, .unset] [(.int (3 : Int32)), (.int (5 : Int32))])) _
        refine XS.icmpYes X130.here hx rfl (pc0 := 86) (pc' := 104) rfl (hb hby at_86) rfl (feq (by decide)).2 (by decide) (by decide) ?_
        show Steps p.tables e below (T130.setTop (mkF m 104 #[.val (.int p1), .val (.int p2), .val (.int p3), .val (.int (5 : Int32)), .val (.int q1), .val (.int q2), .val (.int fol), .val (.ref b129), .unset, .unset, .unset, .unset, .unset] [])) _
        refine XS.iloadN X130.here hx rfl (hb hby at_104) rfl ?_
        show Steps p.tables e below (T130.setTop (mkF m 105 #[.val (.int p1), .val (.int p2), .val (.int p3), .val (.int (5 : Int32)), .val (.int q1), .val (.int q2), .val (.int fol), .val (.ref b129), .unset, .unset, .unset, .unset, .unset] [(.int (5 : Int32))])) _
        refine XS.iconst X130.here hx rfl (hb hby at_105) ?_
        show Steps p.tables e below (T130.setTop (mkF m 106 #[.val (.int p1), .val (.int p2), .val (.int p3), .val (.int (5 : Int32)), .val (.int q1), .val (.int q2), .val (.int fol), .val (.ref b129), .unset, .unset, .unset, .unset, .unset] [(.int (4 : Int32)), (.int (5 : Int32))])) _
        refine XS.icmpYes X130.here hx rfl (pc0 := 106) (pc' := 130) rfl (hb hby at_106) rfl (feq (by decide)).2 (by decide) (by decide) ?_
        show Steps p.tables e below (T130.setTop (mkF m 130 #[.val (.int p1), .val (.int p2), .val (.int p3), .val (.int (5 : Int32)), .val (.int q1), .val (.int q2), .val (.int fol), .val (.ref b129), .unset, .unset, .unset, .unset, .unset] [])) _
        refine XS.iloadN X130.here hx rfl (hb hby at_130) rfl ?_
        show Steps p.tables e below (T130.setTop (mkF m 131 #[.val (.int p1), .val (.int p2), .val (.int p3), .val (.int (5 : Int32)), .val (.int q1), .val (.int q2), .val (.int fol), .val (.ref b129), .unset, .unset, .unset, .unset, .unset] [(.int (5 : Int32))])) _
        refine XS.iconst X130.here hx rfl (hb hby at_131) ?_
        show Steps p.tables e below (T130.setTop (mkF m 132 #[.val (.int p1), .val (.int p2), .val (.int p3), .val (.int (5 : Int32)), .val (.int q1), .val (.int q2), .val (.int fol), .val (.ref b129), .unset, .unset, .unset, .unset, .unset] [(.int (5 : Int32)), (.int (5 : Int32))])) _
        refine XS.icmpNo X130.here hx rfl (hb hby at_132) rfl (teq rfl).2 ?_
        show Steps p.tables e below (T130.setTop (mkF m 135 #[.val (.int p1), .val (.int p2), .val (.int p3), .val (.int (5 : Int32)), .val (.int q1), .val (.int q2), .val (.int fol), .val (.ref b129), .unset, .unset, .unset, .unset, .unset] [])) _
        refine XS.aload X130.here hx rfl (hb hby at_135) rfl rfl ?_
        exact kt
      obtain ⟨cq159, kq159, q159a, q159b, q159c⟩ := isOf hZ rfl J0.1
      obtain ⟨_, _, ⟨T159, L159, k159, n159⟩, -, X159, ⟨Lc159, hQ159, l159, y159, z159⟩, st159⟩ := X130.virtualBack hx (y := (⟨"com/example/tenantd/tenantd/server/JsonWriter", "array", "()Lcom/example/tenantd/tenantd/server/JsonWriter;"⟩ : MethodName)) (z := (⟨"com/example/tenantd/tenantd/server/JsonWriter", "array", "()Lcom/example/tenantd/tenantd/server/JsonWriter;"⟩ : MethodName)) hown (mvT hZ (hw _ (List.mem_of_getElem? (i := 144) rfl))) (mvT hZ (hw _ (List.mem_of_getElem? (i := 145) rfl))) (notFace_of_selects (args := #[]) (mvT hZ (hw _ (List.mem_of_getElem? (i := 147) rfl)))) (mvT hZ (hw _ (List.mem_of_getElem? (i := 147) rfl))) (mvT hZ (hw _ (List.mem_of_getElem? (i := 146) rfl))) (by decide) (backOf (W := 0) (jw_arr0 l Z a0 hw [] b129 a b [] cs T130.heap n0 Z2 S0 hcs O2 J0 (by decide) g_w g_a g_b) hZ (hw _ (List.mem_of_getElem? (i := 148) rfl)) (hw _ (List.mem_of_getElem? (i := 3) rfl)) (by decide) (by decide)) q159a q159c (g := (mkF m 137 #[.val (.int p1), .val (.int p2), .val (.int p3), .val (.int (5 : Int32)), .val (.int q1), .val (.int q2), .val (.int fol), .val (.ref b129), .unset, .unset, .unset, .unset, .unset] [(.ref b129)])) rfl (by rw [hml]; rfl) (Steps.refl _) (argsL := []) (rest := []) (lenOf pd_2 rfl) rfl (by show 2 * 0 + _ ≤ _; exact Nat.le_of_eq rfl) (hb hby at_137) (fun _ _ => ⟨rfl, rfl, (by decide : 3 + 0 ≤ _), (by decide : 262 + 0 ≤ _)⟩)
      dsimp only [Pt.U, Pt.locs, Pt.cells, Pt.slots] at X159 l159 y159 z159 st159 hQ159
      subst l159 y159 z159
      obtain ⟨rfl, N159q, K159, J159⟩ := hQ159
      have N159 := Fr.app N130 N159q
      refine EndsW.st st159 ?_
      have Jx1 : JWr Z T159.heap b129 a b [(91 : Int32)] (0 : Int32) := J159
      have Zx1 : n0 ≤ T159.heap.size := Nat.le_trans Z2 K159.1
      have Ox1 := O2.keep K159 (allS g_w (allS g_a (allS g_b all0)))
      refine EndsW.of (F' := T159.setTop (mkF m 143 #[.val (.int p1), .val (.int p2), .val (.int p3), .val (.int (5 : Int32)), .val (.int q1), .val (.int q2), .val (.int fol), .val (.ref b129), .unset, .unset, .unset, .unset, .unset] [(.ref b129)])) (fun _ kt => ?_) ?_
      · show Steps p.tables e below (T159.setTop (mkF m 140 #[.val (.int p1), .val (.int p2), .val (.int p3), .val (.int (5 : Int32)), .val (.int q1), .val (.int q2), .val (.int fol), .val (.ref b129), .unset, .unset, .unset, .unset, .unset] [(.ref b129)])) _
        refine XS.pop X159.here hx rfl (hb hby at_140) rfl rfl ?_
        show Steps p.tables e below (T159.setTop (mkF m 141 #[.val (.int p1), .val (.int p2), .val (.int p3), .val (.int (5 : Int32)), .val (.int q1), .val (.int q2), .val (.int fol), .val (.ref b129), .unset, .unset, .unset, .unset, .unset] [])) _
        refine XS.aload X159.here hx rfl (hb hby at_141) rfl rfl ?_
        exact kt
      obtain ⟨cq160, kq160, q160a, q160b, q160c⟩ := isOf hZ rfl Jx1.1
      obtain ⟨_, _, ⟨T160, L160, k160, n160⟩, -, X160, ⟨Lc160, hQ160, l160, y160, z160⟩, st160⟩ := X159.virtualBack hx (y := (⟨"com/example/tenantd/tenantd/server/JsonWriter", "array", "()Lcom/example/tenantd/tenantd/server/JsonWriter;"⟩ : MethodName)) (z := (⟨"com/example/tenantd/tenantd/server/JsonWriter", "array", "()Lcom/example/tenantd/tenantd/server/JsonWriter;"⟩ : MethodName)) hown (mvT hZ (hw _ (List.mem_of_getElem? (i := 144) rfl))) (mvT hZ (hw _ (List.mem_of_getElem? (i := 145) rfl))) (notFace_of_selects (args := #[]) (mvT hZ (hw _ (List.mem_of_getElem? (i := 147) rfl)))) (mvT hZ (hw _ (List.mem_of_getElem? (i := 147) rfl))) (mvT hZ (hw _ (List.mem_of_getElem? (i := 146) rfl))) (by decide) (backOf (W := 0) (jw_arr0 l Z a0 hw [] b129 a b [(91 : Int32)] cs T159.heap n0 Zx1 S0 hcs Ox1 Jx1 (by decide) g_w g_a g_b) hZ (hw _ (List.mem_of_getElem? (i := 148) rfl)) (hw _ (List.mem_of_getElem? (i := 3) rfl)) (by decide) (by decide)) q160a q160c (g := (mkF m 143 #[.val (.int p1), .val (.int p2), .val (.int p3), .val (.int (5 : Int32)), .val (.int q1), .val (.int q2), .val (.int fol), .val (.ref b129), .unset, .unset, .unset, .unset, .unset] [(.ref b129)])) rfl (by rw [hml]; rfl) (Steps.refl _) (argsL := []) (rest := []) (lenOf pd_2 rfl) rfl (by show 2 * 0 + _ ≤ _; exact Nat.le_of_eq rfl) (hb hby at_143) (fun _ _ => ⟨rfl, rfl, (by decide : 3 + 0 ≤ _), (by decide : 262 + 0 ≤ _)⟩)
      dsimp only [Pt.U, Pt.locs, Pt.cells, Pt.slots] at X160 l160 y160 z160 st160 hQ160
      subst l160 y160 z160
      obtain ⟨rfl, N160q, K160, J160⟩ := hQ160
      have N160 := Fr.app N159 N160q
      refine EndsW.st st160 ?_
      have Jx2 : JWr Z T160.heap b129 a b [(91 : Int32), (91 : Int32)] (0 : Int32) := J160
      have Zx2 : n0 ≤ T160.heap.size := Nat.le_trans Zx1 K160.1
      have Ox2 := Ox1.keep K160 (allS g_w (allS g_a (allS g_b all0)))
      refine EndsW.of (F' := T160.setTop (mkF m 149 #[.val (.int p1), .val (.int p2), .val (.int p3), .val (.int (5 : Int32)), .val (.int q1), .val (.int q2), .val (.int fol), .val (.ref b129), .unset, .unset, .unset, .unset, .unset] [(.ref b129)])) (fun _ kt => ?_) ?_
      · show Steps p.tables e below (T160.setTop (mkF m 146 #[.val (.int p1), .val (.int p2), .val (.int p3), .val (.int (5 : Int32)), .val (.int q1), .val (.int q2), .val (.int fol), .val (.ref b129), .unset, .unset, .unset, .unset, .unset] [(.ref b129)])) _
        refine XS.pop X160.here hx rfl (hb hby at_146) rfl rfl ?_
        show Steps p.tables e below (T160.setTop (mkF m 147 #[.val (.int p1), .val (.int p2), .val (.int p3), .val (.int (5 : Int32)), .val (.int q1), .val (.int q2), .val (.int fol), .val (.ref b129), .unset, .unset, .unset, .unset, .unset] [])) _
        refine XS.aload X160.here hx rfl (hb hby at_147) rfl rfl ?_
        exact kt
      obtain ⟨cq161, kq161, q161a, q161b, q161c⟩ := isOf hZ rfl Jx2.1
      obtain ⟨_, _, ⟨T161, L161, k161, n161⟩, -, X161, ⟨Lc161, hQ161, l161, y161, z161⟩, st161⟩ := X160.virtualBack hx (y := (⟨"com/example/tenantd/tenantd/server/JsonWriter", "endArray", "()Lcom/example/tenantd/tenantd/server/JsonWriter;"⟩ : MethodName)) (z := (⟨"com/example/tenantd/tenantd/server/JsonWriter", "endArray", "()Lcom/example/tenantd/tenantd/server/JsonWriter;"⟩ : MethodName)) hown (mvT hZ (hw _ (List.mem_of_getElem? (i := 32) rfl))) (mvT hZ (hw _ (List.mem_of_getElem? (i := 33) rfl))) (notFace_of_selects (args := #[]) (mvT hZ (hw _ (List.mem_of_getElem? (i := 35) rfl)))) (mvT hZ (hw _ (List.mem_of_getElem? (i := 35) rfl))) (mvT hZ (hw _ (List.mem_of_getElem? (i := 34) rfl))) (by decide) (backOf (W := 0) (jw_endA l Z a0 hw [] b129 a b [(91 : Int32), (91 : Int32)] cs (0 : Int32) T160.heap n0 Zx2 S0 hcs Ox2 Jx2 (by decide) g_w g_a g_b) hZ (hw _ (List.mem_of_getElem? (i := 36) rfl)) (hw _ (List.mem_of_getElem? (i := 3) rfl)) (by decide) (by decide)) q161a q161c (g := (mkF m 149 #[.val (.int p1), .val (.int p2), .val (.int p3), .val (.int (5 : Int32)), .val (.int q1), .val (.int q2), .val (.int fol), .val (.ref b129), .unset, .unset, .unset, .unset, .unset] [(.ref b129)])) rfl (by rw [hml]; rfl) (Steps.refl _) (argsL := []) (rest := []) (lenOf pd_2 rfl) rfl (by show 2 * 0 + _ ≤ _; exact Nat.le_of_eq rfl) (hb hby at_149) (fun _ _ => ⟨rfl, rfl, (by decide : 3 + 0 ≤ _), (by decide : 262 + 0 ≤ _)⟩)
      dsimp only [Pt.U, Pt.locs, Pt.cells, Pt.slots] at X161 l161 y161 z161 st161 hQ161
      subst l161 y161 z161
      obtain ⟨rfl, N161q, K161, J161⟩ := hQ161
      have N161 := Fr.app N160 N161q
      refine EndsW.st st161 ?_
      have Jx3 : JWr Z T161.heap b129 a b [(91 : Int32), (91 : Int32), (93 : Int32)] (1 : Int32) := J161
      have Zx3 : n0 ≤ T161.heap.size := Nat.le_trans Zx2 K161.1
      have Ox3 := Ox2.keep K161 (allS g_w (allS g_a (allS g_b all0)))
      refine EndsW.of (F' := T161.setTop (mkF m 155 #[.val (.int p1), .val (.int p2), .val (.int p3), .val (.int (5 : Int32)), .val (.int q1), .val (.int q2), .val (.int fol), .val (.ref b129), .unset, .unset, .unset, .unset, .unset] [(.ref b129)])) (fun _ kt => ?_) ?_
      · show Steps p.tables e below (T161.setTop (mkF m 152 #[.val (.int p1), .val (.int p2), .val (.int p3), .val (.int (5 : Int32)), .val (.int q1), .val (.int q2), .val (.int fol), .val (.ref b129), .unset, .unset, .unset, .unset, .unset] [(.ref b129)])) _
        refine XS.pop X161.here hx rfl (hb hby at_152) rfl rfl ?_
        show Steps p.tables e below (T161.setTop (mkF m 153 #[.val (.int p1), .val (.int p2), .val (.int p3), .val (.int (5 : Int32)), .val (.int q1), .val (.int q2), .val (.int fol), .val (.ref b129), .unset, .unset, .unset, .unset, .unset] [])) _
        refine XS.aload X161.here hx rfl (hb hby at_153) rfl rfl ?_
        exact kt
      obtain ⟨cq162, kq162, q162a, q162b, q162c⟩ := isOf hZ rfl Jx3.1
      obtain ⟨_, _, ⟨T162, L162, k162, n162⟩, -, X162, ⟨Lc162, hQ162, l162, y162, z162⟩, st162⟩ := X161.virtualBack hx (y := (⟨"com/example/tenantd/tenantd/server/JsonWriter", "endArray", "()Lcom/example/tenantd/tenantd/server/JsonWriter;"⟩ : MethodName)) (z := (⟨"com/example/tenantd/tenantd/server/JsonWriter", "endArray", "()Lcom/example/tenantd/tenantd/server/JsonWriter;"⟩ : MethodName)) hown (mvT hZ (hw _ (List.mem_of_getElem? (i := 32) rfl))) (mvT hZ (hw _ (List.mem_of_getElem? (i := 33) rfl))) (notFace_of_selects (args := #[]) (mvT hZ (hw _ (List.mem_of_getElem? (i := 35) rfl)))) (mvT hZ (hw _ (List.mem_of_getElem? (i := 35) rfl))) (mvT hZ (hw _ (List.mem_of_getElem? (i := 34) rfl))) (by decide) (backOf (W := 0) (jw_endA l Z a0 hw [] b129 a b [(91 : Int32), (91 : Int32), (93 : Int32)] cs (1 : Int32) T161.heap n0 Zx3 S0 hcs Ox3 Jx3 (by decide) g_w g_a g_b) hZ (hw _ (List.mem_of_getElem? (i := 36) rfl)) (hw _ (List.mem_of_getElem? (i := 3) rfl)) (by decide) (by decide)) q162a q162c (g := (mkF m 155 #[.val (.int p1), .val (.int p2), .val (.int p3), .val (.int (5 : Int32)), .val (.int q1), .val (.int q2), .val (.int fol), .val (.ref b129), .unset, .unset, .unset, .unset, .unset] [(.ref b129)])) rfl (by rw [hml]; rfl) (Steps.refl _) (argsL := []) (rest := []) (lenOf pd_2 rfl) rfl (by show 2 * 0 + _ ≤ _; exact Nat.le_of_eq rfl) (hb hby at_155) (fun _ _ => ⟨rfl, rfl, (by decide : 3 + 0 ≤ _), (by decide : 262 + 0 ≤ _)⟩)
      dsimp only [Pt.U, Pt.locs, Pt.cells, Pt.slots] at X162 l162 y162 z162 st162 hQ162
      subst l162 y162 z162
      obtain ⟨rfl, N162q, K162, J162⟩ := hQ162
      have N162 := Fr.app N161 N162q
      refine EndsW.st st162 ?_
      have Jx4 : JWr Z T162.heap b129 a b [(91 : Int32), (91 : Int32), (93 : Int32), (93 : Int32)] (1 : Int32) := J162
      have Zx4 : n0 ≤ T162.heap.size := Nat.le_trans Zx3 K162.1
      have Ox4 := Ox3.keep K162 (allS g_w (allS g_a (allS g_b all0)))
      refine EndsW.of (F' := T162.setTop (mkF m 162 #[.val (.int p1), .val (.int p2), .val (.int p3), .val (.int (5 : Int32)), .val (.int q1), .val (.int q2), .val (.int fol), .val (.ref b129), .val (.ref b129), .unset, .unset, .unset, .unset] [(.ref b129)])) (fun _ kt => ?_) ?_
      · show Steps p.tables e below (T162.setTop (mkF m 158 #[.val (.int p1), .val (.int p2), .val (.int p3), .val (.int (5 : Int32)), .val (.int q1), .val (.int q2), .val (.int fol), .val (.ref b129), .unset, .unset, .unset, .unset, .unset] [(.ref b129)])) _
        refine XS.astore X162.here hx rfl (hb hby at_158) rfl rfl (l' := #[.val (.int p1), .val (.int p2), .val (.int p3), .val (.int (5 : Int32)), .val (.int q1), .val (.int q2), .val (.int fol), .val (.ref b129), .val (.ref b129), .unset, .unset, .unset, .unset]) rfl ?_
        show Steps p.tables e below (T162.setTop (mkF m 160 #[.val (.int p1), .val (.int p2), .val (.int p3), .val (.int (5 : Int32)), .val (.int q1), .val (.int q2), .val (.int fol), .val (.ref b129), .val (.ref b129), .unset, .unset, .unset, .unset] [])) _
        refine XS.aload X162.here hx rfl (hb hby at_160) rfl rfl ?_
        exact kt
      obtain ⟨cq163, kq163, q163a, q163b, q163c⟩ := isOf hZ rfl Jx4.1
      obtain ⟨_, _, ⟨T163, L163, k163, n163⟩, -, X163, ⟨Lc163, hQ163, l163, y163, z163⟩, st163⟩ := X162.virtualBack hx (y := (⟨"com/example/tenantd/tenantd/server/JsonWriter", "toString", "()Ljava/lang/String;"⟩ : MethodName)) (z := (⟨"com/example/tenantd/tenantd/server/JsonWriter", "toString", "()Ljava/lang/String;"⟩ : MethodName)) hown (mvT hZ (hw _ (List.mem_of_getElem? (i := 65) rfl))) (mvT hZ (hw _ (List.mem_of_getElem? (i := 66) rfl))) (notFace_of_selects (args := #[]) (mvT hZ (hw _ (List.mem_of_getElem? (i := 68) rfl)))) (mvT hZ (hw _ (List.mem_of_getElem? (i := 68) rfl))) (mvT hZ (hw _ (List.mem_of_getElem? (i := 67) rfl))) (by decide) (backOf (W := 0) (jw_str l Z a0 hw [] b129 a b [(91 : Int32), (91 : Int32), (93 : Int32), (93 : Int32)] cs (1 : Int32) T162.heap n0 Zx4 S0 hcs Ox4 Jx4 (by decide)) hZ (hw _ (List.mem_of_getElem? (i := 69) rfl)) (hw _ (List.mem_of_getElem? (i := 3) rfl)) (by decide) (by decide)) q163a q163c (g := (mkF m 162 #[.val (.int p1), .val (.int p2), .val (.int p3), .val (.int (5 : Int32)), .val (.int q1), .val (.int q2), .val (.int fol), .val (.ref b129), .val (.ref b129), .unset, .unset, .unset, .unset] [(.ref b129)])) rfl (by rw [hml]; rfl) (Steps.refl _) (argsL := []) (rest := []) (lenOf pd_7 rfl) rfl (by show 2 * 0 + _ ≤ _; exact Nat.le_of_eq rfl) (hb hby at_162) (fun _ _ => ⟨rfl, rfl, (by decide : 3 + 2 ≤ _), (by decide : 262 + 20 ≤ _)⟩)
      dsimp only [Pt.U, Pt.locs, Pt.cells, Pt.slots] at X163 l163 y163 z163 st163 hQ163
      subst l163 y163 z163
      obtain ⟨d163, rfl, N163q, K163, St163, gd163⟩ := hQ163
      have N163 := Fr.app N162 N163q
      refine EndsW.st st163 ?_
      refine EndsW.of (F' := T163.setTop (mkF m 236 #[.val (.int p1), .val (.int p2), .val (.int p3), .val (.int (5 : Int32)), .val (.int q1), .val (.int q2), .val (.int fol), .val (.ref b129), .val (.ref b129), .val (.ref T162.heap.size), .unset, .unset, .unset] [])) (fun _ kt => ?_) ?_
      · show Steps p.tables e below (T163.setTop (mkF m 165 #[.val (.int p1), .val (.int p2), .val (.int p3), .val (.int (5 : Int32)), .val (.int q1), .val (.int q2), .val (.int fol), .val (.ref b129), .val (.ref b129), .unset, .unset, .unset, .unset] [(.ref T162.heap.size)])) _
        refine XS.astore X163.here hx rfl (hb hby at_165) rfl rfl (l' := #[.val (.int p1), .val (.int p2), .val (.int p3), .val (.int (5 : Int32)), .val (.int q1), .val (.int q2), .val (.int fol), .val (.ref b129), .val (.ref b129), .val (.ref T162.heap.size), .unset, .unset, .unset]) rfl ?_
        show Steps p.tables e below (T163.setTop (mkF m 167 #[.val (.int p1), .val (.int p2), .val (.int p3), .val (.int (5 : Int32)), .val (.int q1), .val (.int q2), .val (.int fol), .val (.ref b129), .val (.ref b129), .val (.ref T162.heap.size), .unset, .unset, .unset] [])) _
        refine XS.iloadN X163.here hx rfl (hb hby at_167) rfl ?_
        show Steps p.tables e below (T163.setTop (mkF m 168 #[.val (.int p1), .val (.int p2), .val (.int p3), .val (.int (5 : Int32)), .val (.int q1), .val (.int q2), .val (.int fol), .val (.ref b129), .val (.ref b129), .val (.ref T162.heap.size), .unset, .unset, .unset] [(.int (5 : Int32))])) _
        refine XS.ifYes X163.here hx rfl (pc0 := 168) (pc' := 178) rfl (hb hby at_168) rfl ((if0 _ _).trans (feq (by decide)).2) (by decide) (by decide) ?_
        show Steps p.tables e below (T163.setTop (mkF m 178 #[.val (.int p1), .val (.int p2), .val (.int p3), .val (.int (5 : Int32)), .val (.int q1), .val (.int q2), .val (.int fol), .val (.ref b129), .val (.ref b129), .val (.ref T162.heap.size), .unset, .unset, .unset] [])) _
        refine XS.iloadN X163.here hx rfl (hb hby at_178) rfl ?_
        show Steps p.tables e below (T163.setTop (mkF m 179 #[.val (.int p1), .val (.int p2), .val (.int p3), .val (.int (5 : Int32)), .val (.int q1), .val (.int q2), .val (.int fol), .val (.ref b129), .val (.ref b129), .val (.ref T162.heap.size), .unset, .unset, .unset] [(.int (5 : Int32))])) _
        refine XS.iconst X163.here hx rfl (hb hby at_179) ?_
        show Steps p.tables e below (T163.setTop (mkF m 180 #[.val (.int p1), .val (.int p2), .val (.int p3), .val (.int (5 : Int32)), .val (.int q1), .val (.int q2), .val (.int fol), .val (.ref b129), .val (.ref b129), .val (.ref T162.heap.size), .unset, .unset, .unset] [(.int (1 : Int32)), (.int (5 : Int32))])) _
        refine XS.icmpYes X163.here hx rfl (pc0 := 180) (pc' := 190) rfl (hb hby at_180) rfl (feq (by decide)).2 (by decide) (by decide) ?_
        show Steps p.tables e below (T163.setTop (mkF m 190 #[.val (.int p1), .val (.int p2), .val (.int p3), .val (.int (5 : Int32)), .val (.int q1), .val (.int q2), .val (.int fol), .val (.ref b129), .val (.ref b129), .val (.ref T162.heap.size), .unset, .unset, .unset] [])) _
        refine XS.iloadN X163.here hx rfl (hb hby at_190) rfl ?_
        show Steps p.tables e below (T163.setTop (mkF m 191 #[.val (.int p1), .val (.int p2), .val (.int p3), .val (.int (5 : Int32)), .val (.int q1), .val (.int q2), .val (.int fol), .val (.ref b129), .val (.ref b129), .val (.ref T162.heap.size), .unset, .unset, .unset] [(.int (5 : Int32))])) _
        refine XS.iconst X163.here hx rfl (hb hby at_191) ?_
        show Steps p.tables e below (T163.setTop (mkF m 192 #[.val (.int p1), .val (.int p2), .val (.int p3), .val (.int (5 : Int32)), .val (.int q1), .val (.int q2), .val (.int fol), .val (.ref b129), .val (.ref b129), .val (.ref T162.heap.size), .unset, .unset, .unset] [(.int (2 : Int32)), (.int (5 : Int32))])) _
        refine XS.icmpYes X163.here hx rfl (pc0 := 192) (pc' := 212) rfl (hb hby at_192) rfl (feq (by decide)).2 (by decide) (by decide) ?_
        show Steps p.tables e below (T163.setTop (mkF m 212 #[.val (.int p1), .val (.int p2), .val (.int p3), .val (.int (5 : Int32)), .val (.int q1), .val (.int q2), .val (.int fol), .val (.ref b129), .val (.ref b129), .val (.ref T162.heap.size), .unset, .unset, .unset] [])) _
        refine XS.iloadN X163.here hx rfl (hb hby at_212) rfl ?_
        show Steps p.tables e below (T163.setTop (mkF m 213 #[.val (.int p1), .val (.int p2), .val (.int p3), .val (.int (5 : Int32)), .val (.int q1), .val (.int q2), .val (.int fol), .val (.ref b129), .val (.ref b129), .val (.ref T162.heap.size), .unset, .unset, .unset] [(.int (5 : Int32))])) _
        refine XS.iconst X163.here hx rfl (hb hby at_213) ?_
        show Steps p.tables e below (T163.setTop (mkF m 214 #[.val (.int p1), .val (.int p2), .val (.int p3), .val (.int (5 : Int32)), .val (.int q1), .val (.int q2), .val (.int fol), .val (.ref b129), .val (.ref b129), .val (.ref T162.heap.size), .unset, .unset, .unset] [(.int (3 : Int32)), (.int (5 : Int32))])) _
        refine XS.icmpYes X163.here hx rfl (pc0 := 214) (pc' := 224) rfl (hb hby at_214) rfl (feq (by decide)).2 (by decide) (by decide) ?_
        show Steps p.tables e below (T163.setTop (mkF m 224 #[.val (.int p1), .val (.int p2), .val (.int p3), .val (.int (5 : Int32)), .val (.int q1), .val (.int q2), .val (.int fol), .val (.ref b129), .val (.ref b129), .val (.ref T162.heap.size), .unset, .unset, .unset] [])) _
        refine XS.iloadN X163.here hx rfl (hb hby at_224) rfl ?_
        show Steps p.tables e below (T163.setTop (mkF m 225 #[.val (.int p1), .val (.int p2), .val (.int p3), .val (.int (5 : Int32)), .val (.int q1), .val (.int q2), .val (.int fol), .val (.ref b129), .val (.ref b129), .val (.ref T162.heap.size), .unset, .unset, .unset] [(.int (5 : Int32))])) _
        refine XS.iconst X163.here hx rfl (hb hby at_225) ?_
        show Steps p.tables e below (T163.setTop (mkF m 226 #[.val (.int p1), .val (.int p2), .val (.int p3), .val (.int (5 : Int32)), .val (.int q1), .val (.int q2), .val (.int fol), .val (.ref b129), .val (.ref b129), .val (.ref T162.heap.size), .unset, .unset, .unset] [(.int (4 : Int32)), (.int (5 : Int32))])) _
        refine XS.icmpYes X163.here hx rfl (pc0 := 226) (pc' := 236) rfl (hb hby at_226) rfl (feq (by decide)).2 (by decide) (by decide) ?_
        exact kt
      have N9 : Fr s.heap.size _ := hn0 ▸ N163
      have hk9 : s.heap.size ≤ T163.heap.size := hn0 ▸ Nat.le_trans Zx4 K163.1
      obtain ⟨u2, T164, h164, k164, v2, c164, X164, e164, E164, hS164, hk164, hZ164, hown164, Ex164, Fc164, Fv164, Av164, lu164, lv164, I164, Li164, wh164, st164⟩ := ldcSVd (s := s) (vm0 := s.vm) (Z := Z) (own := "com/example/tenantd/tenantd/server/JsonWriterEndArrayPinLaw") (text := "[[]]") (index := 54) X163 hx hZ hown (hw _ (List.mem_of_getElem? (i := 194) rfl)) wS rfl hS0 hk9 N9 hkeep hI0 (by simp) (hh0 ("com/example/tenantd/tenantd/server/JsonWriterEndArrayPinLaw", 54) (List.mem_of_getElem? (i := 6) rfl)) hcw (vs := (List.range 4).map fun i => Value.int (tf [(91 : Int32), (91 : Int32), (93 : Int32), (93 : Int32)] i)) (z := Int32.ofNat 4) ⟨by decide +kernel, by rfl⟩ (by decide) (by decide) (g := (mkF m 236 #[.val (.int p1), .val (.int p2), .val (.int p3), .val (.int (5 : Int32)), .val (.int q1), .val (.int q2), .val (.int fol), .val (.ref b129), .val (.ref b129), .val (.ref T162.heap.size), .unset, .unset, .unset] [])) rfl (hb hby at_236) (n := 28) (by decide) (by decide) (by decide) (by decide)
      refine EndsW.of st164 ?_
      refine EndsW.of (F' := T164.setTop (mkF m 240 #[.val (.int p1), .val (.int p2), .val (.int p3), .val (.int (5 : Int32)), .val (.int q1), .val (.int q2), .val (.int fol), .val (.ref b129), .val (.ref b129), .val (.ref T162.heap.size), .val (.ref u2), .unset, .unset] [])) (fun _ kt => ?_) ?_
      · show Steps p.tables e below (T164.setTop (mkF m 238 #[.val (.int p1), .val (.int p2), .val (.int p3), .val (.int (5 : Int32)), .val (.int q1), .val (.int q2), .val (.int fol), .val (.ref b129), .val (.ref b129), .val (.ref T162.heap.size), .unset, .unset, .unset] [(.ref u2)])) _
        refine XS.astore X164.here hx rfl (hb hby at_238) rfl rfl (l' := #[.val (.int p1), .val (.int p2), .val (.int p3), .val (.int (5 : Int32)), .val (.int q1), .val (.int q2), .val (.int fol), .val (.ref b129), .val (.ref b129), .val (.ref T162.heap.size), .val (.ref u2), .unset, .unset]) rfl ?_
        exact kt
      have Ay : Ary .byte Z h164 v2 4 (tf [(91 : Int32), (91 : Int32), (93 : Int32), (93 : Int32)]) := ⟨by decide, c164, Av164⟩
      have J9 := (Jx4.keep K163).ext E164
      have St9 := St163.ext E164
      have O9 := (Ox4.keep K163 all0).ext E164
      have g9 : T162.heap.size < T163.heap.size := St163.1.lt
      have ne9 : ¬ T162.heap.size = u2 := own_ne2 (Nat.le_trans (Nat.le_of_eq hn0) Zx4) g9 wh164
      exact tail T164.vm k164 _ _ _ b129 a b _ _ u2 v2 [(91 : Int32), (91 : Int32), (93 : Int32), (93 : Int32)] _ _ q2 fol (by decide) hq2 hfol hS164 hk164 hZ164 hown164 X164 e164 N163 O9 J9 St9 ⟨Ex164, Fc164, Fv164, Ay⟩ ne9 g_w g_a g_b (Nat.le_trans Zx4 (Nat.le_trans K163.1 E164.1))
  refine EndsW.of (F' := s₁.setTop (mkF m 11 #[.val (.int p1), .val (.int p2), .val (.int p3), .val (.int ((p1 &&& (2147483647 : Int32)) % (6 : Int32))), .unset, .unset, .unset, .unset, .unset, .unset, .unset, .unset, .unset] [(.int (p2 &&& (1 : Int32)))])) (fun _ kt => ?_) ?_
  · show Steps p.tables e below (s₁.setTop (mkF m 0 #[.val (.int p1), .val (.int p2), .val (.int p3), .unset, .unset, .unset, .unset, .unset, .unset, .unset, .unset, .unset, .unset] [])) _
    refine XS.iloadN X0.here hx rfl (hb hby at_0) rfl ?_
    show Steps p.tables e below (s₁.setTop (mkF m 1 #[.val (.int p1), .val (.int p2), .val (.int p3), .unset, .unset, .unset, .unset, .unset, .unset, .unset, .unset, .unset, .unset] [(.int p1)])) _
    refine X0.ldcInt hx hown (mvT hZ (hw _ (List.mem_of_getElem? (i := 0) rfl))) (g := (mkF m 1 #[.val (.int p1), .val (.int p2), .val (.int p3), .unset, .unset, .unset, .unset, .unset, .unset, .unset, .unset, .unset, .unset] [(.int p1)])) rfl (hb hby at_1) _ ?_
    show Steps p.tables e below (s₁.setTop (mkF m 3 #[.val (.int p1), .val (.int p2), .val (.int p3), .unset, .unset, .unset, .unset, .unset, .unset, .unset, .unset, .unset, .unset] [(.int (2147483647 : Int32)), (.int p1)])) _
    refine XS.iand X0.here hx rfl (hb hby at_3) rfl ?_
    show Steps p.tables e below (s₁.setTop (mkF m 4 #[.val (.int p1), .val (.int p2), .val (.int p3), .unset, .unset, .unset, .unset, .unset, .unset, .unset, .unset, .unset, .unset] [(.int (p1 &&& (2147483647 : Int32)))])) _
    refine XS.bipush X0.here hx rfl (hb hby at_4) ?_
    show Steps p.tables e below (s₁.setTop (mkF m 6 #[.val (.int p1), .val (.int p2), .val (.int p3), .unset, .unset, .unset, .unset, .unset, .unset, .unset, .unset, .unset, .unset] [(.int (6 : Int32)), (.int (p1 &&& (2147483647 : Int32)))])) _
    refine iremM (g := (mkF m 6 #[.val (.int p1), .val (.int p2), .val (.int p3), .unset, .unset, .unset, .unset, .unset, .unset, .unset, .unset, .unset, .unset] [(.int (6 : Int32)), (.int (p1 &&& (2147483647 : Int32)))])) X0 hx rfl (hb hby at_6) rfl (by decide) ?_
    show Steps p.tables e below (s₁.setTop (mkF m 7 #[.val (.int p1), .val (.int p2), .val (.int p3), .unset, .unset, .unset, .unset, .unset, .unset, .unset, .unset, .unset, .unset] [(.int ((p1 &&& (2147483647 : Int32)) % (6 : Int32)))])) _
    refine XS.istoreN X0.here hx rfl (hb hby at_7) rfl (l' := #[.val (.int p1), .val (.int p2), .val (.int p3), .val (.int ((p1 &&& (2147483647 : Int32)) % (6 : Int32))), .unset, .unset, .unset, .unset, .unset, .unset, .unset, .unset, .unset]) rfl ?_
    show Steps p.tables e below (s₁.setTop (mkF m 8 #[.val (.int p1), .val (.int p2), .val (.int p3), .val (.int ((p1 &&& (2147483647 : Int32)) % (6 : Int32))), .unset, .unset, .unset, .unset, .unset, .unset, .unset, .unset, .unset] [])) _
    refine XS.iloadN X0.here hx rfl (hb hby at_8) rfl ?_
    show Steps p.tables e below (s₁.setTop (mkF m 9 #[.val (.int p1), .val (.int p2), .val (.int p3), .val (.int ((p1 &&& (2147483647 : Int32)) % (6 : Int32))), .unset, .unset, .unset, .unset, .unset, .unset, .unset, .unset, .unset] [(.int p2)])) _
    refine XS.iconst X0.here hx rfl (hb hby at_9) ?_
    show Steps p.tables e below (s₁.setTop (mkF m 10 #[.val (.int p1), .val (.int p2), .val (.int p3), .val (.int ((p1 &&& (2147483647 : Int32)) % (6 : Int32))), .unset, .unset, .unset, .unset, .unset, .unset, .unset, .unset, .unset] [(.int (1 : Int32)), (.int p2)])) _
    refine XS.iand X0.here hx rfl (hb hby at_10) rfl ?_
    exact kt
  by_cases hc11 : (p2 &&& (1 : Int32)) = (0 : Int32)
  · refine EndsW.of (F' := s₁.setTop (mkF m 24 #[.val (.int p1), .val (.int p2), .val (.int p3), .val (.int ((p1 &&& (2147483647 : Int32)) % (6 : Int32))), .val (.int (0 : Int32)), .unset, .unset, .unset, .unset, .unset, .unset, .unset, .unset] [(.int (p2 &&& (2 : Int32)))])) (fun _ kt => ?_) ?_
    · show Steps p.tables e below (s₁.setTop (mkF m 11 #[.val (.int p1), .val (.int p2), .val (.int p3), .val (.int ((p1 &&& (2147483647 : Int32)) % (6 : Int32))), .unset, .unset, .unset, .unset, .unset, .unset, .unset, .unset, .unset] [(.int (p2 &&& (1 : Int32)))])) _
      refine XS.ifYes X0.here hx rfl (pc0 := 11) (pc' := 18) rfl (hb hby at_11) rfl ((if0 _ _).trans (teq hc11).1) (by decide) (by decide) ?_
      show Steps p.tables e below (s₁.setTop (mkF m 18 #[.val (.int p1), .val (.int p2), .val (.int p3), .val (.int ((p1 &&& (2147483647 : Int32)) % (6 : Int32))), .unset, .unset, .unset, .unset, .unset, .unset, .unset, .unset, .unset] [])) _
      refine XS.iconst X0.here hx rfl (hb hby at_18) ?_
      show Steps p.tables e below (s₁.setTop (mkF m 19 #[.val (.int p1), .val (.int p2), .val (.int p3), .val (.int ((p1 &&& (2147483647 : Int32)) % (6 : Int32))), .unset, .unset, .unset, .unset, .unset, .unset, .unset, .unset, .unset] [(.int (0 : Int32))])) _
      refine XS.istore X0.here hx rfl (hb hby at_19) rfl (l' := #[.val (.int p1), .val (.int p2), .val (.int p3), .val (.int ((p1 &&& (2147483647 : Int32)) % (6 : Int32))), .val (.int (0 : Int32)), .unset, .unset, .unset, .unset, .unset, .unset, .unset, .unset]) rfl ?_
      show Steps p.tables e below (s₁.setTop (mkF m 21 #[.val (.int p1), .val (.int p2), .val (.int p3), .val (.int ((p1 &&& (2147483647 : Int32)) % (6 : Int32))), .val (.int (0 : Int32)), .unset, .unset, .unset, .unset, .unset, .unset, .unset, .unset] [])) _
      refine XS.iloadN X0.here hx rfl (hb hby at_21) rfl ?_
      show Steps p.tables e below (s₁.setTop (mkF m 22 #[.val (.int p1), .val (.int p2), .val (.int p3), .val (.int ((p1 &&& (2147483647 : Int32)) % (6 : Int32))), .val (.int (0 : Int32)), .unset, .unset, .unset, .unset, .unset, .unset, .unset, .unset] [(.int p2)])) _
      refine XS.iconst X0.here hx rfl (hb hby at_22) ?_
      show Steps p.tables e below (s₁.setTop (mkF m 23 #[.val (.int p1), .val (.int p2), .val (.int p3), .val (.int ((p1 &&& (2147483647 : Int32)) % (6 : Int32))), .val (.int (0 : Int32)), .unset, .unset, .unset, .unset, .unset, .unset, .unset, .unset] [(.int (2 : Int32)), (.int p2)])) _
      refine XS.iand X0.here hx rfl (hb hby at_23) rfl ?_
      exact kt
    by_cases hc24 : (p2 &&& (2 : Int32)) = (0 : Int32)
    · refine EndsW.of (F' := s₁.setTop (mkF m 39 #[.val (.int p1), .val (.int p2), .val (.int p3), .val (.int ((p1 &&& (2147483647 : Int32)) % (6 : Int32))), .val (.int (0 : Int32)), .val (.int (0 : Int32)), .val (.int (p3 &&& (3 : Int32))), .unset, .unset, .unset, .unset, .unset, .unset] [])) (fun _ kt => ?_) ?_
      · show Steps p.tables e below (s₁.setTop (mkF m 24 #[.val (.int p1), .val (.int p2), .val (.int p3), .val (.int ((p1 &&& (2147483647 : Int32)) % (6 : Int32))), .val (.int (0 : Int32)), .unset, .unset, .unset, .unset, .unset, .unset, .unset, .unset] [(.int (p2 &&& (2 : Int32)))])) _
        refine XS.ifYes X0.here hx rfl (pc0 := 24) (pc' := 31) rfl (hb hby at_24) rfl ((if0 _ _).trans (teq hc24).1) (by decide) (by decide) ?_
        show Steps p.tables e below (s₁.setTop (mkF m 31 #[.val (.int p1), .val (.int p2), .val (.int p3), .val (.int ((p1 &&& (2147483647 : Int32)) % (6 : Int32))), .val (.int (0 : Int32)), .unset, .unset, .unset, .unset, .unset, .unset, .unset, .unset] [])) _
        refine XS.iconst X0.here hx rfl (hb hby at_31) ?_
        show Steps p.tables e below (s₁.setTop (mkF m 32 #[.val (.int p1), .val (.int p2), .val (.int p3), .val (.int ((p1 &&& (2147483647 : Int32)) % (6 : Int32))), .val (.int (0 : Int32)), .unset, .unset, .unset, .unset, .unset, .unset, .unset, .unset] [(.int (0 : Int32))])) _
        refine XS.istore X0.here hx rfl (hb hby at_32) rfl (l' := #[.val (.int p1), .val (.int p2), .val (.int p3), .val (.int ((p1 &&& (2147483647 : Int32)) % (6 : Int32))), .val (.int (0 : Int32)), .val (.int (0 : Int32)), .unset, .unset, .unset, .unset, .unset, .unset, .unset]) rfl ?_
        show Steps p.tables e below (s₁.setTop (mkF m 34 #[.val (.int p1), .val (.int p2), .val (.int p3), .val (.int ((p1 &&& (2147483647 : Int32)) % (6 : Int32))), .val (.int (0 : Int32)), .val (.int (0 : Int32)), .unset, .unset, .unset, .unset, .unset, .unset, .unset] [])) _
        refine XS.iloadN X0.here hx rfl (hb hby at_34) rfl ?_
        show Steps p.tables e below (s₁.setTop (mkF m 35 #[.val (.int p1), .val (.int p2), .val (.int p3), .val (.int ((p1 &&& (2147483647 : Int32)) % (6 : Int32))), .val (.int (0 : Int32)), .val (.int (0 : Int32)), .unset, .unset, .unset, .unset, .unset, .unset, .unset] [(.int p3)])) _
        refine XS.iconst X0.here hx rfl (hb hby at_35) ?_
        show Steps p.tables e below (s₁.setTop (mkF m 36 #[.val (.int p1), .val (.int p2), .val (.int p3), .val (.int ((p1 &&& (2147483647 : Int32)) % (6 : Int32))), .val (.int (0 : Int32)), .val (.int (0 : Int32)), .unset, .unset, .unset, .unset, .unset, .unset, .unset] [(.int (3 : Int32)), (.int p3)])) _
        refine XS.iand X0.here hx rfl (hb hby at_36) rfl ?_
        show Steps p.tables e below (s₁.setTop (mkF m 37 #[.val (.int p1), .val (.int p2), .val (.int p3), .val (.int ((p1 &&& (2147483647 : Int32)) % (6 : Int32))), .val (.int (0 : Int32)), .val (.int (0 : Int32)), .unset, .unset, .unset, .unset, .unset, .unset, .unset] [(.int (p3 &&& (3 : Int32)))])) _
        refine XS.istore X0.here hx rfl (hb hby at_37) rfl (l' := #[.val (.int p1), .val (.int p2), .val (.int p3), .val (.int ((p1 &&& (2147483647 : Int32)) % (6 : Int32))), .val (.int (0 : Int32)), .val (.int (0 : Int32)), .val (.int (p3 &&& (3 : Int32))), .unset, .unset, .unset, .unset, .unset, .unset]) rfl ?_
        exact kt
      exact mid _ _ _ _ (own_m6 p1) (Or.inl rfl) (Or.inl rfl) (own_a3 p3)
    · refine EndsW.of (F' := s₁.setTop (mkF m 39 #[.val (.int p1), .val (.int p2), .val (.int p3), .val (.int ((p1 &&& (2147483647 : Int32)) % (6 : Int32))), .val (.int (0 : Int32)), .val (.int (1 : Int32)), .val (.int (p3 &&& (3 : Int32))), .unset, .unset, .unset, .unset, .unset, .unset] [])) (fun _ kt => ?_) ?_
      · show Steps p.tables e below (s₁.setTop (mkF m 24 #[.val (.int p1), .val (.int p2), .val (.int p3), .val (.int ((p1 &&& (2147483647 : Int32)) % (6 : Int32))), .val (.int (0 : Int32)), .unset, .unset, .unset, .unset, .unset, .unset, .unset, .unset] [(.int (p2 &&& (2 : Int32)))])) _
        refine XS.ifNo X0.here hx rfl (hb hby at_24) rfl ((if0 _ _).trans (feq hc24).1) ?_
        show Steps p.tables e below (s₁.setTop (mkF m 27 #[.val (.int p1), .val (.int p2), .val (.int p3), .val (.int ((p1 &&& (2147483647 : Int32)) % (6 : Int32))), .val (.int (0 : Int32)), .unset, .unset, .unset, .unset, .unset, .unset, .unset, .unset] [])) _
        refine XS.iconst X0.here hx rfl (hb hby at_27) ?_
        show Steps p.tables e below (s₁.setTop (mkF m 28 #[.val (.int p1), .val (.int p2), .val (.int p3), .val (.int ((p1 &&& (2147483647 : Int32)) % (6 : Int32))), .val (.int (0 : Int32)), .unset, .unset, .unset, .unset, .unset, .unset, .unset, .unset] [(.int (1 : Int32))])) _
        refine XS.goto X0.here hx rfl (pc0 := 28) (pc' := 32) rfl (hb hby at_28) (by decide) (by decide) ?_
        show Steps p.tables e below (s₁.setTop (mkF m 32 #[.val (.int p1), .val (.int p2), .val (.int p3), .val (.int ((p1 &&& (2147483647 : Int32)) % (6 : Int32))), .val (.int (0 : Int32)), .unset, .unset, .unset, .unset, .unset, .unset, .unset, .unset] [(.int (1 : Int32))])) _
        refine XS.istore X0.here hx rfl (hb hby at_32) rfl (l' := #[.val (.int p1), .val (.int p2), .val (.int p3), .val (.int ((p1 &&& (2147483647 : Int32)) % (6 : Int32))), .val (.int (0 : Int32)), .val (.int (1 : Int32)), .unset, .unset, .unset, .unset, .unset, .unset, .unset]) rfl ?_
        show Steps p.tables e below (s₁.setTop (mkF m 34 #[.val (.int p1), .val (.int p2), .val (.int p3), .val (.int ((p1 &&& (2147483647 : Int32)) % (6 : Int32))), .val (.int (0 : Int32)), .val (.int (1 : Int32)), .unset, .unset, .unset, .unset, .unset, .unset, .unset] [])) _
        refine XS.iloadN X0.here hx rfl (hb hby at_34) rfl ?_
        show Steps p.tables e below (s₁.setTop (mkF m 35 #[.val (.int p1), .val (.int p2), .val (.int p3), .val (.int ((p1 &&& (2147483647 : Int32)) % (6 : Int32))), .val (.int (0 : Int32)), .val (.int (1 : Int32)), .unset, .unset, .unset, .unset, .unset, .unset, .unset] [(.int p3)])) _
        refine XS.iconst X0.here hx rfl (hb hby at_35) ?_
        show Steps p.tables e below (s₁.setTop (mkF m 36 #[.val (.int p1), .val (.int p2), .val (.int p3), .val (.int ((p1 &&& (2147483647 : Int32)) % (6 : Int32))), .val (.int (0 : Int32)), .val (.int (1 : Int32)), .unset, .unset, .unset, .unset, .unset, .unset, .unset] [(.int (3 : Int32)), (.int p3)])) _
        refine XS.iand X0.here hx rfl (hb hby at_36) rfl ?_
        show Steps p.tables e below (s₁.setTop (mkF m 37 #[.val (.int p1), .val (.int p2), .val (.int p3), .val (.int ((p1 &&& (2147483647 : Int32)) % (6 : Int32))), .val (.int (0 : Int32)), .val (.int (1 : Int32)), .unset, .unset, .unset, .unset, .unset, .unset, .unset] [(.int (p3 &&& (3 : Int32)))])) _
        refine XS.istore X0.here hx rfl (hb hby at_37) rfl (l' := #[.val (.int p1), .val (.int p2), .val (.int p3), .val (.int ((p1 &&& (2147483647 : Int32)) % (6 : Int32))), .val (.int (0 : Int32)), .val (.int (1 : Int32)), .val (.int (p3 &&& (3 : Int32))), .unset, .unset, .unset, .unset, .unset, .unset]) rfl ?_
        exact kt
      exact mid _ _ _ _ (own_m6 p1) (Or.inl rfl) (Or.inr rfl) (own_a3 p3)
  · refine EndsW.of (F' := s₁.setTop (mkF m 24 #[.val (.int p1), .val (.int p2), .val (.int p3), .val (.int ((p1 &&& (2147483647 : Int32)) % (6 : Int32))), .val (.int (1 : Int32)), .unset, .unset, .unset, .unset, .unset, .unset, .unset, .unset] [(.int (p2 &&& (2 : Int32)))])) (fun _ kt => ?_) ?_
    · show Steps p.tables e below (s₁.setTop (mkF m 11 #[.val (.int p1), .val (.int p2), .val (.int p3), .val (.int ((p1 &&& (2147483647 : Int32)) % (6 : Int32))), .unset, .unset, .unset, .unset, .unset, .unset, .unset, .unset, .unset] [(.int (p2 &&& (1 : Int32)))])) _
      refine XS.ifNo X0.here hx rfl (hb hby at_11) rfl ((if0 _ _).trans (feq hc11).1) ?_
      show Steps p.tables e below (s₁.setTop (mkF m 14 #[.val (.int p1), .val (.int p2), .val (.int p3), .val (.int ((p1 &&& (2147483647 : Int32)) % (6 : Int32))), .unset, .unset, .unset, .unset, .unset, .unset, .unset, .unset, .unset] [])) _
      refine XS.iconst X0.here hx rfl (hb hby at_14) ?_
      show Steps p.tables e below (s₁.setTop (mkF m 15 #[.val (.int p1), .val (.int p2), .val (.int p3), .val (.int ((p1 &&& (2147483647 : Int32)) % (6 : Int32))), .unset, .unset, .unset, .unset, .unset, .unset, .unset, .unset, .unset] [(.int (1 : Int32))])) _
      refine XS.goto X0.here hx rfl (pc0 := 15) (pc' := 19) rfl (hb hby at_15) (by decide) (by decide) ?_
      show Steps p.tables e below (s₁.setTop (mkF m 19 #[.val (.int p1), .val (.int p2), .val (.int p3), .val (.int ((p1 &&& (2147483647 : Int32)) % (6 : Int32))), .unset, .unset, .unset, .unset, .unset, .unset, .unset, .unset, .unset] [(.int (1 : Int32))])) _
      refine XS.istore X0.here hx rfl (hb hby at_19) rfl (l' := #[.val (.int p1), .val (.int p2), .val (.int p3), .val (.int ((p1 &&& (2147483647 : Int32)) % (6 : Int32))), .val (.int (1 : Int32)), .unset, .unset, .unset, .unset, .unset, .unset, .unset, .unset]) rfl ?_
      show Steps p.tables e below (s₁.setTop (mkF m 21 #[.val (.int p1), .val (.int p2), .val (.int p3), .val (.int ((p1 &&& (2147483647 : Int32)) % (6 : Int32))), .val (.int (1 : Int32)), .unset, .unset, .unset, .unset, .unset, .unset, .unset, .unset] [])) _
      refine XS.iloadN X0.here hx rfl (hb hby at_21) rfl ?_
      show Steps p.tables e below (s₁.setTop (mkF m 22 #[.val (.int p1), .val (.int p2), .val (.int p3), .val (.int ((p1 &&& (2147483647 : Int32)) % (6 : Int32))), .val (.int (1 : Int32)), .unset, .unset, .unset, .unset, .unset, .unset, .unset, .unset] [(.int p2)])) _
      refine XS.iconst X0.here hx rfl (hb hby at_22) ?_
      show Steps p.tables e below (s₁.setTop (mkF m 23 #[.val (.int p1), .val (.int p2), .val (.int p3), .val (.int ((p1 &&& (2147483647 : Int32)) % (6 : Int32))), .val (.int (1 : Int32)), .unset, .unset, .unset, .unset, .unset, .unset, .unset, .unset] [(.int (2 : Int32)), (.int p2)])) _
      refine XS.iand X0.here hx rfl (hb hby at_23) rfl ?_
      exact kt
    by_cases hc24 : (p2 &&& (2 : Int32)) = (0 : Int32)
    · refine EndsW.of (F' := s₁.setTop (mkF m 39 #[.val (.int p1), .val (.int p2), .val (.int p3), .val (.int ((p1 &&& (2147483647 : Int32)) % (6 : Int32))), .val (.int (1 : Int32)), .val (.int (0 : Int32)), .val (.int (p3 &&& (3 : Int32))), .unset, .unset, .unset, .unset, .unset, .unset] [])) (fun _ kt => ?_) ?_
      · show Steps p.tables e below (s₁.setTop (mkF m 24 #[.val (.int p1), .val (.int p2), .val (.int p3), .val (.int ((p1 &&& (2147483647 : Int32)) % (6 : Int32))), .val (.int (1 : Int32)), .unset, .unset, .unset, .unset, .unset, .unset, .unset, .unset] [(.int (p2 &&& (2 : Int32)))])) _
        refine XS.ifYes X0.here hx rfl (pc0 := 24) (pc' := 31) rfl (hb hby at_24) rfl ((if0 _ _).trans (teq hc24).1) (by decide) (by decide) ?_
        show Steps p.tables e below (s₁.setTop (mkF m 31 #[.val (.int p1), .val (.int p2), .val (.int p3), .val (.int ((p1 &&& (2147483647 : Int32)) % (6 : Int32))), .val (.int (1 : Int32)), .unset, .unset, .unset, .unset, .unset, .unset, .unset, .unset] [])) _
        refine XS.iconst X0.here hx rfl (hb hby at_31) ?_
        show Steps p.tables e below (s₁.setTop (mkF m 32 #[.val (.int p1), .val (.int p2), .val (.int p3), .val (.int ((p1 &&& (2147483647 : Int32)) % (6 : Int32))), .val (.int (1 : Int32)), .unset, .unset, .unset, .unset, .unset, .unset, .unset, .unset] [(.int (0 : Int32))])) _
        refine XS.istore X0.here hx rfl (hb hby at_32) rfl (l' := #[.val (.int p1), .val (.int p2), .val (.int p3), .val (.int ((p1 &&& (2147483647 : Int32)) % (6 : Int32))), .val (.int (1 : Int32)), .val (.int (0 : Int32)), .unset, .unset, .unset, .unset, .unset, .unset, .unset]) rfl ?_
        show Steps p.tables e below (s₁.setTop (mkF m 34 #[.val (.int p1), .val (.int p2), .val (.int p3), .val (.int ((p1 &&& (2147483647 : Int32)) % (6 : Int32))), .val (.int (1 : Int32)), .val (.int (0 : Int32)), .unset, .unset, .unset, .unset, .unset, .unset, .unset] [])) _
        refine XS.iloadN X0.here hx rfl (hb hby at_34) rfl ?_
        show Steps p.tables e below (s₁.setTop (mkF m 35 #[.val (.int p1), .val (.int p2), .val (.int p3), .val (.int ((p1 &&& (2147483647 : Int32)) % (6 : Int32))), .val (.int (1 : Int32)), .val (.int (0 : Int32)), .unset, .unset, .unset, .unset, .unset, .unset, .unset] [(.int p3)])) _
        refine XS.iconst X0.here hx rfl (hb hby at_35) ?_
        show Steps p.tables e below (s₁.setTop (mkF m 36 #[.val (.int p1), .val (.int p2), .val (.int p3), .val (.int ((p1 &&& (2147483647 : Int32)) % (6 : Int32))), .val (.int (1 : Int32)), .val (.int (0 : Int32)), .unset, .unset, .unset, .unset, .unset, .unset, .unset] [(.int (3 : Int32)), (.int p3)])) _
        refine XS.iand X0.here hx rfl (hb hby at_36) rfl ?_
        show Steps p.tables e below (s₁.setTop (mkF m 37 #[.val (.int p1), .val (.int p2), .val (.int p3), .val (.int ((p1 &&& (2147483647 : Int32)) % (6 : Int32))), .val (.int (1 : Int32)), .val (.int (0 : Int32)), .unset, .unset, .unset, .unset, .unset, .unset, .unset] [(.int (p3 &&& (3 : Int32)))])) _
        refine XS.istore X0.here hx rfl (hb hby at_37) rfl (l' := #[.val (.int p1), .val (.int p2), .val (.int p3), .val (.int ((p1 &&& (2147483647 : Int32)) % (6 : Int32))), .val (.int (1 : Int32)), .val (.int (0 : Int32)), .val (.int (p3 &&& (3 : Int32))), .unset, .unset, .unset, .unset, .unset, .unset]) rfl ?_
        exact kt
      exact mid _ _ _ _ (own_m6 p1) (Or.inr rfl) (Or.inl rfl) (own_a3 p3)
    · refine EndsW.of (F' := s₁.setTop (mkF m 39 #[.val (.int p1), .val (.int p2), .val (.int p3), .val (.int ((p1 &&& (2147483647 : Int32)) % (6 : Int32))), .val (.int (1 : Int32)), .val (.int (1 : Int32)), .val (.int (p3 &&& (3 : Int32))), .unset, .unset, .unset, .unset, .unset, .unset] [])) (fun _ kt => ?_) ?_
      · show Steps p.tables e below (s₁.setTop (mkF m 24 #[.val (.int p1), .val (.int p2), .val (.int p3), .val (.int ((p1 &&& (2147483647 : Int32)) % (6 : Int32))), .val (.int (1 : Int32)), .unset, .unset, .unset, .unset, .unset, .unset, .unset, .unset] [(.int (p2 &&& (2 : Int32)))])) _
        refine XS.ifNo X0.here hx rfl (hb hby at_24) rfl ((if0 _ _).trans (feq hc24).1) ?_
        show Steps p.tables e below (s₁.setTop (mkF m 27 #[.val (.int p1), .val (.int p2), .val (.int p3), .val (.int ((p1 &&& (2147483647 : Int32)) % (6 : Int32))), .val (.int (1 : Int32)), .unset, .unset, .unset, .unset, .unset, .unset, .unset, .unset] [])) _
        refine XS.iconst X0.here hx rfl (hb hby at_27) ?_
        show Steps p.tables e below (s₁.setTop (mkF m 28 #[.val (.int p1), .val (.int p2), .val (.int p3), .val (.int ((p1 &&& (2147483647 : Int32)) % (6 : Int32))), .val (.int (1 : Int32)), .unset, .unset, .unset, .unset, .unset, .unset, .unset, .unset] [(.int (1 : Int32))])) _
        refine XS.goto X0.here hx rfl (pc0 := 28) (pc' := 32) rfl (hb hby at_28) (by decide) (by decide) ?_
        show Steps p.tables e below (s₁.setTop (mkF m 32 #[.val (.int p1), .val (.int p2), .val (.int p3), .val (.int ((p1 &&& (2147483647 : Int32)) % (6 : Int32))), .val (.int (1 : Int32)), .unset, .unset, .unset, .unset, .unset, .unset, .unset, .unset] [(.int (1 : Int32))])) _
        refine XS.istore X0.here hx rfl (hb hby at_32) rfl (l' := #[.val (.int p1), .val (.int p2), .val (.int p3), .val (.int ((p1 &&& (2147483647 : Int32)) % (6 : Int32))), .val (.int (1 : Int32)), .val (.int (1 : Int32)), .unset, .unset, .unset, .unset, .unset, .unset, .unset]) rfl ?_
        show Steps p.tables e below (s₁.setTop (mkF m 34 #[.val (.int p1), .val (.int p2), .val (.int p3), .val (.int ((p1 &&& (2147483647 : Int32)) % (6 : Int32))), .val (.int (1 : Int32)), .val (.int (1 : Int32)), .unset, .unset, .unset, .unset, .unset, .unset, .unset] [])) _
        refine XS.iloadN X0.here hx rfl (hb hby at_34) rfl ?_
        show Steps p.tables e below (s₁.setTop (mkF m 35 #[.val (.int p1), .val (.int p2), .val (.int p3), .val (.int ((p1 &&& (2147483647 : Int32)) % (6 : Int32))), .val (.int (1 : Int32)), .val (.int (1 : Int32)), .unset, .unset, .unset, .unset, .unset, .unset, .unset] [(.int p3)])) _
        refine XS.iconst X0.here hx rfl (hb hby at_35) ?_
        show Steps p.tables e below (s₁.setTop (mkF m 36 #[.val (.int p1), .val (.int p2), .val (.int p3), .val (.int ((p1 &&& (2147483647 : Int32)) % (6 : Int32))), .val (.int (1 : Int32)), .val (.int (1 : Int32)), .unset, .unset, .unset, .unset, .unset, .unset, .unset] [(.int (3 : Int32)), (.int p3)])) _
        refine XS.iand X0.here hx rfl (hb hby at_36) rfl ?_
        show Steps p.tables e below (s₁.setTop (mkF m 37 #[.val (.int p1), .val (.int p2), .val (.int p3), .val (.int ((p1 &&& (2147483647 : Int32)) % (6 : Int32))), .val (.int (1 : Int32)), .val (.int (1 : Int32)), .unset, .unset, .unset, .unset, .unset, .unset, .unset] [(.int (p3 &&& (3 : Int32)))])) _
        refine XS.istore X0.here hx rfl (hb hby at_37) rfl (l' := #[.val (.int p1), .val (.int p2), .val (.int p3), .val (.int ((p1 &&& (2147483647 : Int32)) % (6 : Int32))), .val (.int (1 : Int32)), .val (.int (1 : Int32)), .val (.int (p3 &&& (3 : Int32))), .unset, .unset, .unset, .unset, .unset, .unset]) rfl ?_
        exact kt
      exact mid _ _ _ _ (own_m6 p1) (Or.inr rfl) (Or.inr rfl) (own_a3 p3)
set_option maxRecDepth 65536 in
set_option maxHeartbeats 40000000 in
theorem comes_1 {Post : Tables → Env → Array Value → State → Outcome → State → Prop} (hpost : ∀ tb e args s v u, (limb_1_1.after args s (.returned v) u = true ∧ limb_1_2.after args s (.returned v) u = true ∧ True) → FramedW s (.returned v) u (Jvm.fieldLocs frame_1_writes args s ++ Jvm.arrayLocs frame_1_arrays args s ++ Jvm.staticLocs frame_1_statics s) 40 7872 → Post tb e args s (.returned v) u) :
    ArmFor flags0 classFile x code maxLocals ret World_1 tables_1 room_1 Calls_1 rest_1 Pre_1 Post := by
  intro l hfl _ _ p e ha hc hk s m args below hf hA hF happ hP
  obtain ⟨hcalls, hrest, hpre⟩ := hP
  obtain ⟨-, -, -, hnamed, -, -, -, hat⟩ := (Spec.applies_iff hf).mp happ
  obtain ⟨hg, hn⟩ := and_e (Cond.before_iff.mp (show (Jvm.Cond.and given_1 narrow_1).before args s = true from hpre))
  obtain ⟨g0, gt0⟩ := and_e hg
  obtain ⟨gv0, gt1⟩ := and_e gt0
  obtain ⟨gv1, gt2⟩ := and_e gt1
  obtain ⟨w0, w1, w2, rfl⟩ : ∃ w0 w1 w2 : Value, args = #[w0, w1, w2] := by
    have hs : args.size = 3 := by simpa [Cond.value, given_1] using g0
    obtain ⟨L⟩ := args
    match L, hs with
    | [w0, w1, w2], _ => exact ⟨w0, w1, w2, rfl⟩
  have hw := fun d (hd : d ∈ tables_1) => atoms_spec (ws := Jvm.Cond.code x code maxLocals ret :: tables_1) hat d (List.mem_cons_of_mem _ hd)
  have hfit : Fit s := fun {y c} hc i hi => by
    obtain ⟨ha, rfl⟩ := Array.getElem?_eq_some_iff.mp hc
    have q := List.all_eq_true.mp ((Array.all_eq_true_iff_forall_mem.mp hF) _ (Array.getElem_mem ha)) i (List.mem_range.mpr hi)
    simpa [Array.getElem?_eq_getElem hi] using q
  obtain ⟨i0, ei0⟩ := is_v gv0
  obtain rfl : w0 = (.int i0) := Option.some.inj ei0
  obtain ⟨i1, ei1⟩ := is_v gv1
  obtain rfl : w1 = (.int i1) := Option.some.inj ei1
  obtain ⟨i2, ei2⟩ := is_v gt2
  obtain rfl : w2 = (.int i2) := Option.some.inj ei2
  obtain ⟨hsets, hown0⟩ := atoms_of _ (rest_1_c_eq ▸ (show rest_1_c.before _ s = true from hrest))
  have n5 := not_v (Cond.before_iff.mp (hsets _ (List.mem_of_getElem? (i := 2) rfl)))
  obtain ⟨cs, ecs⟩ := is_v (Cond.before_iff.mp (hsets _ (List.mem_of_getElem? (i := 1) rfl)))
  have S0 : Sta s s.heap "java/lang/String" "COMPACT_STRINGS" "Z" (.int cs) := Sta.start ecs (Or.inl (hsets _ (List.mem_of_getElem? (i := 0) rfl)))
  obtain ⟨fv, efv, rfv⟩ := isR_v (Cond.before_iff.mp (hsets _ (List.mem_of_getElem? (i := 8) rfl)))
  have S1 : Sta s s.heap "jdk/internal/util/Preconditions" "SIOOBE_FORMATTER" "Ljava/util/function/BiFunction;" fv := Sta.start efv (Or.inl (hsets _ (List.mem_of_getElem? (i := 7) rfl)))
  have hcs : ¬ (cs = (0 : Int32)) := gotF (Cond.eq_ints ecs (Term.int_eval (0))) n5
  have hfv : fv = .null ∨ ∃ x : Addr, fv = .ref x := by cases fv <;> simp [Value.isRef] at rfv ⊢
  have hcw : Jvm.Lit.compactW.before _ s = true := hsets _ (List.mem_of_getElem? (i := 2) rfl)
  have hh0 : ∀ q ∈ consts_1, Jvm.Lit.constHeld s q.1 q.2 := hcalls.1
  obtain ⟨n, o, h1, h2, h3, _, L, rfl, ⟨rfl, N⟩, hq⟩ := rm0 l s _ hw tables_1 i0 i1 i2 cs fv s.heap s.heap.size (Nat.le_refl _) S0 hcs (Old.start s) S1 hfv hh0 hcw p e ha hc hk s m _ below hf ((Spec.applies_iff_loose hf).mp happ).1 ⟨rfl, State.Warmed39.refl s, rfl, rfl⟩ trivial
  refine ⟨n, _, h1, h2, h3, hpost _ _ _ _ _ _ ⟨Cond.after_iff.mpr rfl, Cond.after_iff.mpr (eq_i res_at (Term.int_eval (1)) rfl), trivial⟩ ⟨hq.1, hq.2.1, hq.2.2.1, (hq.2.2.2.sift fun y hy => Or.inr (N y hy)).mono (by decide) (by decide)⟩⟩
theorem main_1_1 : Claimed_1_1 := comes_1 fun _ _ _ _ _ _ h hF => ⟨h.1, hF⟩
theorem main_1_2 : Claimed_1_2 := comes_1 fun _ _ _ _ _ _ h hF => ⟨h.2.1, hF⟩
end Jvm.Pilot.@@N@@
namespace Jvm.Pilot.@@N@@
open Jvm Jvm.ClassFile Sem Op Lib Jvm.Free Jvm.Stand Jvm.Pilot.@@N@@.Jvm.D
/-! MADE BY PROGRAM (witnessworld.py) out of the Statement's table words and the real class files: 23 classes; the members and pool entries that the words name. The judged class is class 1, her method 2. -/
namespace start1
open Jvm.ClassFile
def u (s : String) : CpInfo := .utf8 (stringToUtf16 s)
/-- a pool by its gaps: so many unusable entries, then the entry; so many at the end -/
def gap : Nat → List CpInfo → List CpInfo
  | 0, r => r
  | n + 1, r => .unusable :: gap n r
def poolList (es : List (Nat × CpInfo)) (last : Nat) : List CpInfo := es.foldr (fun e r => gap e.1 (e.2 :: r)) (gap last [])
def pool (es : List (Nat × CpInfo)) (last : Nat) : Array CpInfo := ⟨poolList es last⟩
def fileOf (pool : Array CpInfo) (this : Nat) (attrs : Array Attribute := #[]) (ms : Array MethodInfo := #[]) (fl : Nat := 33) (sup : Nat := 0) (ifs : Array Nat := #[]) (fds : Array FieldInfo := #[]) : ClassFile where
  minorVersion := 0
  majorVersion := 65
  constantPool := pool
  accessFlags := fl
  thisClass := this
  superClass := sup
  interfaces := ifs
  fields := fds
  methods := ms
  attributes := attrs
def plain (name : String) (sup : Option ClassId) : Class where
  name := name
  kind := .ordinary
  loader := none
  accessFlags := 33
  super := sup
  interfaces := #[]
  cf := none
  fields := #[]
  methods := #[]
  instanceTypes := #[]
  staticTypes := #[]
  resolved := #[]
  callSites := []
  init := .initialized
  statics := none
  mirror := none

def pool0 : Array CpInfo := pool [(5, u "<init>"), (0, u "()V"), (1, .class_ 10), (1, u "java/lang/Object")] 113

def k0c0 : Code := { maxStack := 0, maxLocals := 1, code := object_method_1_code, exceptionTable := #[], attributes := #[] }
def k0m0 : Method := { name := "<init>", desc := "()V", sig := { parameters := [], returnType := none }, accessFlags := 1, code := some k0c0 }
/-- java/lang/Object -/
def k0 : Class := { plain "java/lang/Object" none with
  accessFlags := 33
  interfaces := #[]
  cf := some (fileOf pool0 8 #[] #[{ accessFlags := 1, nameIndex := 5, descriptorIndex := 6, attributes := #[] }] 33 0 #[] #[])
  fields := #[]
  methods := #[k0m0]
  instanceTypes := #[]
  staticTypes := #[]
  resolved := Array.replicate 124 none
  statics := none }

def pool1 : Array CpInfo := pool [(2, .class_ 4), (0, .nameAndType 5 6), (0, u "java/lang/Object"), (0, u "<init>"), (0, u "()V"), (0, .methodref 8 9), (0, .class_ 10), (0, .nameAndType 11 12), (0, u "java/lang/String"), (0, u "length"), (0, u "()I"), (0, .methodref 8 14), (0, .nameAndType 15 16), (0, u "charAt"), (0, u "(I)C"), (0, .integer 2147483647), (0, .class_ 19), (0, u "com/example/tenantd/tenantd/server/JsonWriter"), (0, .methodref 18 3), (0, .methodref 18 22), (0, .nameAndType 23 24), (0, u "array"), (0, u "()Lcom/example/tenantd/tenantd/server/JsonWriter;"), (0, .methodref 18 26), (0, .nameAndType 27 28), (0, u "value"), (0, u "(Z)Lcom/example/tenantd/tenantd/server/JsonWriter;"), (0, .methodref 18 30), (0, .nameAndType 31 24), (0, u "object"), (0, .methodref 18 33), (0, .nameAndType 34 24), (0, u "endObject"), (0, .methodref 18 36), (0, .nameAndType 37 24), (0, u "endArray"), (0, .methodref 18 39), (0, .nameAndType 40 41), (0, u "toString"), (0, u "()Ljava/lang/String;"), (0, .string 43), (0, u "]"), (0, .string 45), (0, u "[]"), (0, .string 47), (0, u "[true]"), (0, .string 49), (0, u "[false]"), (0, .string 51), (0, u "[[]"), (0, .string 53), (0, u "[{}]"), (0, .string 55), (0, u "[[]]"), (0, .methodref 8 57), (0, .nameAndType 58 59), (0, u "equals"), (0, u "(Ljava/lang/Object;)Z"), (0, .methodref 61 62), (0, .class_ 63), (0, .nameAndType 64 65), (0, u "com/example/tenantd/tenantd/server/JsonWriterEndArrayPinLaw"), (0, u "at"), (0, u "(Ljava/lang/String;IC)Z"), (3, u "law"), (0, u "(III)Z")] 2

def k1m0 : Method := { name := "<init>", desc := "()V", sig := { parameters := [], returnType := none }, accessFlags := 1, code := none }
def k1c1 : Code := { maxStack := 2, maxLocals := 3, code := method_2_code, exceptionTable := #[], attributes := #[] }
def k1m1 : Method := { name := "at", desc := "(Ljava/lang/String;IC)Z", sig := { parameters := [(.object "java/lang/String"), .int, .char], returnType := some .boolean }, accessFlags := 10, code := some k1c1 }
def k1c2 : Code := { maxStack := 3, maxLocals := 13, code := code, exceptionTable := #[], attributes := #[] }
def k1m2 : Method := { name := "law", desc := "(III)Z", sig := { parameters := [.int, .int, .int], returnType := some .boolean }, accessFlags := 9, code := some k1c2 }
/-- com/example/tenantd/tenantd/server/JsonWriterEndArrayPinLaw -/
def k1 : Class := { plain "com/example/tenantd/tenantd/server/JsonWriterEndArrayPinLaw" (some 0) with
  accessFlags := 49
  interfaces := #[]
  cf := some (fileOf pool1 61 #[] #[{ accessFlags := 1, nameIndex := 5, descriptorIndex := 6, attributes := #[] }, { accessFlags := 10, nameIndex := 64, descriptorIndex := 65, attributes := #[] }, { accessFlags := 9, nameIndex := 69, descriptorIndex := 70, attributes := #[] }] 49 2 #[] #[])
  fields := #[]
  methods := #[k1m0, k1m1, k1m2]
  instanceTypes := #[]
  staticTypes := #[]
  resolved := Array.replicate 73 none
  statics := none }

def pool2 : Array CpInfo := pool [(1, .methodref 2 3), (0, .class_ 4), (0, .nameAndType 5 6), (0, u "java/lang/Object"), (0, u "<init>"), (0, u "()V"), (0, .class_ 8), (0, u "java/lang/StringBuilder"), (0, .methodref 7 10), (0, .nameAndType 5 11), (0, u "(I)V"), (0, .fieldref 13 14), (0, .class_ 15), (0, .nameAndType 16 17), (0, u "com/example/tenantd/tenantd/server/JsonWriter"), (0, u "text"), (0, u "Ljava/lang/StringBuilder;"), (0, .methodref 13 19), (0, .nameAndType 20 6), (0, u "separate"), (0, .methodref 7 22), (0, .nameAndType 23 24), (0, u "append"), (0, u "(C)Ljava/lang/StringBuilder;"), (0, .fieldref 13 26), (0, .nameAndType 27 28), (0, u "afterValue"), (0, u "Z"), (5, .class_ 36), (1, u "com/example/tenantd/tenantd/server/JsonWriter$Name"), (7, .nameAndType 46 47), (1, u "toString"), (0, u "()Ljava/lang/String;"), (3, .methodref 7 52), (0, .nameAndType 23 53), (0, u "(Z)Ljava/lang/StringBuilder;"), (4, u "array"), (0, u "()Lcom/example/tenantd/tenantd/server/JsonWriter;"), (16, u "value"), (3, u "endArray"), (4, u "object"), (22, u "endObject"), (11, u "(Z)Lcom/example/tenantd/tenantd/server/JsonWriter;"), (25, .methodref 7 44), (66, u "HEX_DIGITS"), (0, u "[C")] 35

def k2c0 : Code := { maxStack := 4, maxLocals := 1, code := prog_55_method_1_code, exceptionTable := #[], attributes := #[] }
def k2m0 : Method := { name := "<init>", desc := "()V", sig := { parameters := [], returnType := none }, accessFlags := 0, code := some k2c0 }
def k2c1 : Code := { maxStack := 2, maxLocals := 1, code := prog_55_method_2_code, exceptionTable := #[], attributes := #[] }
def k2m1 : Method := { name := "object", desc := "()Lcom/example/tenantd/tenantd/server/JsonWriter;", sig := { parameters := [], returnType := some (.object "com/example/tenantd/tenantd/server/JsonWriter") }, accessFlags := 0, code := some k2c1 }
def k2c2 : Code := { maxStack := 2, maxLocals := 1, code := prog_55_method_3_code, exceptionTable := #[], attributes := #[] }
def k2m2 : Method := { name := "endObject", desc := "()Lcom/example/tenantd/tenantd/server/JsonWriter;", sig := { parameters := [], returnType := some (.object "com/example/tenantd/tenantd/server/JsonWriter") }, accessFlags := 0, code := some k2c2 }
def k2c3 : Code := { maxStack := 2, maxLocals := 1, code := prog_55_method_4_code, exceptionTable := #[], attributes := #[] }
def k2m3 : Method := { name := "array", desc := "()Lcom/example/tenantd/tenantd/server/JsonWriter;", sig := { parameters := [], returnType := some (.object "com/example/tenantd/tenantd/server/JsonWriter") }, accessFlags := 0, code := some k2c3 }
def k2c4 : Code := { maxStack := 2, maxLocals := 1, code := prog_55_method_5_code, exceptionTable := #[], attributes := #[] }
def k2m4 : Method := { name := "endArray", desc := "()Lcom/example/tenantd/tenantd/server/JsonWriter;", sig := { parameters := [], returnType := some (.object "com/example/tenantd/tenantd/server/JsonWriter") }, accessFlags := 0, code := some k2c4 }
def k2c5 : Code := { maxStack := 2, maxLocals := 2, code := prog_55_method_11_code, exceptionTable := #[], attributes := #[] }
def k2m5 : Method := { name := "value", desc := "(Z)Lcom/example/tenantd/tenantd/server/JsonWriter;", sig := { parameters := [.boolean], returnType := some (.object "com/example/tenantd/tenantd/server/JsonWriter") }, accessFlags := 0, code := some k2c5 }
def k2c6 : Code := { maxStack := 1, maxLocals := 1, code := prog_55_method_13_code, exceptionTable := #[], attributes := #[] }
def k2m6 : Method := { name := "toString", desc := "()Ljava/lang/String;", sig := { parameters := [], returnType := some (.object "java/lang/String") }, accessFlags := 1, code := some k2c6 }
def k2c7 : Code := { maxStack := 2, maxLocals := 1, code := prog_55_method_14_code, exceptionTable := #[], attributes := #[] }
def k2m7 : Method := { name := "separate", desc := "()V", sig := { parameters := [], returnType := none }, accessFlags := 2, code := some k2c7 }
/-- com/example/tenantd/tenantd/server/JsonWriter -/
def k2 : Class := { plain "com/example/tenantd/tenantd/server/JsonWriter" (some 0) with
  accessFlags := 32
  interfaces := #[]
  cf := some (fileOf pool2 13 #[.nestMembers #[34]] #[{ accessFlags := 0, nameIndex := 5, descriptorIndex := 6, attributes := #[] }, { accessFlags := 0, nameIndex := 85, descriptorIndex := 59, attributes := #[] }, { accessFlags := 0, nameIndex := 108, descriptorIndex := 59, attributes := #[] }, { accessFlags := 0, nameIndex := 58, descriptorIndex := 59, attributes := #[] }, { accessFlags := 0, nameIndex := 80, descriptorIndex := 59, attributes := #[] }, { accessFlags := 0, nameIndex := 76, descriptorIndex := 120, attributes := #[] }, { accessFlags := 1, nameIndex := 46, descriptorIndex := 47, attributes := #[] }, { accessFlags := 2, nameIndex := 20, descriptorIndex := 6, attributes := #[] }] 32 2 #[] #[{ accessFlags := 26, nameIndex := 213, descriptorIndex := 214, attributes := #[] }, { accessFlags := 18, nameIndex := 16, descriptorIndex := 17, attributes := #[] }, { accessFlags := 2, nameIndex := 27, descriptorIndex := 28, attributes := #[] }])
  fields := #[{ name := "HEX_DIGITS", type := (.array .char), accessFlags := 26, slot := 0, constantValue := 0 }, { name := "text", type := (.object "java/lang/StringBuilder"), accessFlags := 18, slot := 0, constantValue := 0 }, { name := "afterValue", type := .boolean, accessFlags := 2, slot := 1, constantValue := 0 }]
  methods := #[k2m0, k2m1, k2m2, k2m3, k2m4, k2m5, k2m6, k2m7]
  instanceTypes := #[(.object "java/lang/StringBuilder"), .boolean]
  staticTypes := #[(.array .char)]
  resolved := Array.replicate 250 none
  statics := none }

def pool3 : Array CpInfo := pool [(1, .class_ 2), (0, u "java/lang/Appendable"), (0, .class_ 4), (0, u "java/lang/Object")] 9

/-- java/lang/Appendable -/
def k3 : Class := { plain "java/lang/Appendable" (some 0) with
  accessFlags := 1537
  interfaces := #[]
  cf := some (fileOf pool3 1 #[] #[] 1537 3 #[] #[])
  fields := #[]
  methods := #[]
  instanceTypes := #[]
  staticTypes := #[]
  resolved := Array.replicate 14 none
  statics := none }

def pool4 : Array CpInfo := pool [(2, .class_ 4), (1, u "java/lang/CharSequence"), (42, .class_ 48), (0, u "java/lang/CharSequence$1CodePointIterator"), (10, .class_ 60), (0, u "java/lang/CharSequence$1CharIterator"), (5, .class_ 67), (0, u "java/lang/Object")] 63

/-- java/lang/CharSequence -/
def k4 : Class := { plain "java/lang/CharSequence" (some 0) with
  accessFlags := 1537
  interfaces := #[]
  cf := some (fileOf pool4 2 #[.nestMembers #[47, 59]] #[] 1537 66 #[] #[])
  fields := #[]
  methods := #[]
  instanceTypes := #[]
  staticTypes := #[]
  resolved := Array.replicate 131 none
  statics := none }

def pool5 : Array CpInfo := pool [(1, .class_ 2), (0, u "java/lang/String"), (0, .methodref 4 5), (0, .class_ 6), (0, .nameAndType 7 8), (0, u "java/lang/Object"), (0, u "<init>"), (0, u "()V"), (1, .class_ 12), (1, u "java/lang/AbstractStringBuilder"), (0, u "EMPTYVALUE"), (0, u "[B"), (0, .fieldref 10 16), (0, .nameAndType 17 14), (0, u "value"), (0, .fieldref 1 19), (0, .nameAndType 20 21), (0, u "COMPACT_STRINGS"), (0, u "Z"), (0, .fieldref 10 23), (0, .nameAndType 24 25), (0, u "coder"), (0, u "B"), (8, u "length"), (0, u "()I"), (9, u "append"), (2, .class_ 49), (0, u "java/lang/CharSequence"), (25, u "maybeLatin1"), (3, .fieldref 10 80), (0, .nameAndType 81 82), (0, u "count"), (0, u "I"), (0, .methodref 10 84), (0, .nameAndType 85 86), (0, u "isLatin1"), (0, u "()Z"), (1, .class_ 90), (1, u "java/lang/StringLatin1"), (9, .methodref 10 101), (0, .nameAndType 102 103), (0, u "ensureCapacityInternal"), (0, u "(I)V"), (87, .methodref 88 192), (0, .nameAndType 193 194), (0, u "canEncode"), (0, u "(C)Z"), (97, u "(C)Ljava/lang/AbstractStringBuilder;"), (110, u "()[B"), (40, .class_ 445), (0, u "java/lang/Appendable"), (62, u "(Z)Ljava/lang/AbstractStringBuilder;"), (43, u "getValue")] 56

def k5m0 : Method := { name := "<init>", desc := "()V", sig := { parameters := [], returnType := none }, accessFlags := 0, code := none }
def k5c1 : Code := { maxStack := 2, maxLocals := 2, code := jdk_68_method_2_code, exceptionTable := #[], attributes := #[] }
def k5m1 : Method := { name := "<init>", desc := "(I)V", sig := { parameters := [.int], returnType := none }, accessFlags := 0, code := some k5c1 }
def k5c2 : Code := { maxStack := 1, maxLocals := 1, code := jdk_68_method_6_code, exceptionTable := #[], attributes := #[] }
def k5m2 : Method := { name := "length", desc := "()I", sig := { parameters := [], returnType := some .int }, accessFlags := 1, code := some k5c2 }
def k5c3 : Code := { maxStack := 4, maxLocals := 3, code := jdk_68_method_9_code, exceptionTable := #[], attributes := #[] }
def k5m3 : Method := { name := "ensureCapacityInternal", desc := "(I)V", sig := { parameters := [.int], returnType := none }, accessFlags := 2, code := some k5c3 }
def k5c4 : Code := { maxStack := 7, maxLocals := 4, code := jdk_68_method_30_code, exceptionTable := #[], attributes := #[] }
def k5m4 : Method := { name := "append", desc := "(Z)Ljava/lang/AbstractStringBuilder;", sig := { parameters := [.boolean], returnType := some (.object "java/lang/AbstractStringBuilder") }, accessFlags := 1, code := some k5c4 }
def k5c5 : Code := { maxStack := 5, maxLocals := 2, code := jdk_68_method_31_code, exceptionTable := #[], attributes := #[] }
def k5m5 : Method := { name := "append", desc := "(C)Ljava/lang/AbstractStringBuilder;", sig := { parameters := [.char], returnType := some (.object "java/lang/AbstractStringBuilder") }, accessFlags := 1, code := some k5c5 }
def k5c6 : Code := { maxStack := 1, maxLocals := 1, code := jdk_68_method_64_code, exceptionTable := #[], attributes := #[] }
def k5m6 : Method := { name := "getValue", desc := "()[B", sig := { parameters := [], returnType := some (.array .byte) }, accessFlags := 16, code := some k5c6 }
def k5c7 : Code := { maxStack := 1, maxLocals := 1, code := jdk_68_method_68_code, exceptionTable := #[], attributes := #[] }
def k5m7 : Method := { name := "isLatin1", desc := "()Z", sig := { parameters := [], returnType := some .boolean }, accessFlags := 16, code := some k5c7 }
/-- java/lang/AbstractStringBuilder -/
def k5 : Class := { plain "java/lang/AbstractStringBuilder" (some 0) with
  accessFlags := 1056
  interfaces := #[3, 4]
  cf := some (fileOf pool5 10 #[] #[{ accessFlags := 0, nameIndex := 7, descriptorIndex := 8, attributes := #[] }, { accessFlags := 0, nameIndex := 7, descriptorIndex := 103, attributes := #[] }, { accessFlags := 1, nameIndex := 34, descriptorIndex := 35, attributes := #[] }, { accessFlags := 2, nameIndex := 102, descriptorIndex := 103, attributes := #[] }, { accessFlags := 1, nameIndex := 45, descriptorIndex := 508, attributes := #[] }, { accessFlags := 1, nameIndex := 45, descriptorIndex := 292, attributes := #[] }, { accessFlags := 16, nameIndex := 552, descriptorIndex := 403, attributes := #[] }, { accessFlags := 16, nameIndex := 85, descriptorIndex := 86, attributes := #[] }] 1056 4 #[444, 48] #[{ accessFlags := 0, nameIndex := 17, descriptorIndex := 14, attributes := #[] }, { accessFlags := 0, nameIndex := 24, descriptorIndex := 25, attributes := #[] }, { accessFlags := 0, nameIndex := 75, descriptorIndex := 21, attributes := #[] }, { accessFlags := 0, nameIndex := 81, descriptorIndex := 82, attributes := #[] }, { accessFlags := 26, nameIndex := 13, descriptorIndex := 14, attributes := #[] }])
  fields := #[{ name := "value", type := (.array .byte), accessFlags := 0, slot := 0, constantValue := 0 }, { name := "coder", type := .byte, accessFlags := 0, slot := 1, constantValue := 0 }, { name := "maybeLatin1", type := .boolean, accessFlags := 0, slot := 2, constantValue := 0 }, { name := "count", type := .int, accessFlags := 0, slot := 3, constantValue := 0 }, { name := "EMPTYVALUE", type := (.array .byte), accessFlags := 26, slot := 0, constantValue := 0 }]
  methods := #[k5m0, k5m1, k5m2, k5m3, k5m4, k5m5, k5m6, k5m7]
  instanceTypes := #[(.array .byte), .byte, .boolean, .int]
  staticTypes := #[(.array .byte)]
  resolved := Array.replicate 609 none
  statics := none }

def pool6 : Array CpInfo := pool [(1, .class_ 2), (0, u "java/io/Serializable"), (0, .class_ 4), (0, u "java/lang/Object")] 2

/-- java/io/Serializable -/
def k6 : Class := { plain "java/io/Serializable" (some 0) with
  accessFlags := 1537
  interfaces := #[]
  cf := some (fileOf pool6 1 #[] #[] 1537 3 #[] #[])
  fields := #[]
  methods := #[]
  instanceTypes := #[]
  staticTypes := #[]
  resolved := Array.replicate 7 none
  statics := none }

def pool7 : Array CpInfo := pool [(1, .class_ 2), (0, u "java/lang/Comparable"), (0, .class_ 4), (0, u "java/lang/Object")] 7

/-- java/lang/Comparable -/
def k7 : Class := { plain "java/lang/Comparable" (some 0) with
  accessFlags := 1537
  interfaces := #[]
  cf := some (fileOf pool7 1 #[] #[] 1537 3 #[] #[])
  fields := #[]
  methods := #[]
  instanceTypes := #[]
  staticTypes := #[]
  resolved := Array.replicate 12 none
  statics := none }

def pool8 : Array CpInfo := pool [(1, .methodref 2 3), (0, .class_ 4), (0, .nameAndType 5 6), (0, u "java/lang/AbstractStringBuilder"), (0, u "<init>"), (0, u "(I)V"), (11, .class_ 20), (1, u "java/lang/String"), (3, .class_ 26), (1, u "java/lang/StringBuilder"), (0, u "append"), (19, .methodref 2 48), (0, .nameAndType 27 49), (0, u "(Z)Ljava/lang/AbstractStringBuilder;"), (0, .methodref 2 51), (0, .nameAndType 27 52), (0, u "(C)Ljava/lang/AbstractStringBuilder;"), (84, .methodref 18 138), (0, .nameAndType 5 139), (0, u "(Ljava/lang/StringBuilder;)V"), (5, u "()V"), (10, u "()I"), (129, u "(C)Ljava/lang/StringBuilder;"), (2, u "(Z)Ljava/lang/StringBuilder;"), (53, .methodref 2 344), (0, .nameAndType 345 156), (0, u "length"), (3, .class_ 350), (0, u "java/lang/Appendable"), (0, .class_ 352), (0, u "java/io/Serializable"), (0, .class_ 354), (0, u "java/lang/Comparable"), (0, .class_ 356), (0, u "java/lang/CharSequence"), (0, u "serialVersionUID"), (0, u "J"), (40, u "toString"), (0, u "()Ljava/lang/String;")] 21

def k8m0 : Method := { name := "<init>", desc := "()V", sig := { parameters := [], returnType := none }, accessFlags := 1, code := none }
def k8c1 : Code := { maxStack := 2, maxLocals := 2, code := jdk_67_method_2_code, exceptionTable := #[], attributes := #[] }
def k8m1 : Method := { name := "<init>", desc := "(I)V", sig := { parameters := [.int], returnType := none }, accessFlags := 1, code := some k8c1 }
def k8c2 : Code := { maxStack := 2, maxLocals := 2, code := jdk_67_method_13_code, exceptionTable := #[], attributes := #[] }
def k8m2 : Method := { name := "append", desc := "(Z)Ljava/lang/StringBuilder;", sig := { parameters := [.boolean], returnType := some (.object "java/lang/StringBuilder") }, accessFlags := 1, code := some k8c2 }
def k8c3 : Code := { maxStack := 2, maxLocals := 2, code := jdk_67_method_14_code, exceptionTable := #[], attributes := #[] }
def k8m3 : Method := { name := "append", desc := "(C)Ljava/lang/StringBuilder;", sig := { parameters := [.char], returnType := some (.object "java/lang/StringBuilder") }, accessFlags := 1, code := some k8c3 }
def k8c4 : Code := { maxStack := 3, maxLocals := 1, code := jdk_67_method_42_code, exceptionTable := #[], attributes := #[] }
def k8m4 : Method := { name := "toString", desc := "()Ljava/lang/String;", sig := { parameters := [], returnType := some (.object "java/lang/String") }, accessFlags := 1, code := some k8c4 }
def k8c5 : Code := { maxStack := 1, maxLocals := 1, code := jdk_67_method_93_code, exceptionTable := #[], attributes := #[] }
def k8m5 : Method := { name := "length", desc := "()I", sig := { parameters := [], returnType := some .int }, accessFlags := 4161, code := some k8c5 }
/-- java/lang/StringBuilder -/
def k8 : Class := { plain "java/lang/StringBuilder" (some 5) with
  accessFlags := 49
  interfaces := #[3, 6, 7, 4]
  cf := some (fileOf pool8 24 #[] #[{ accessFlags := 1, nameIndex := 5, descriptorIndex := 145, attributes := #[] }, { accessFlags := 1, nameIndex := 5, descriptorIndex := 6, attributes := #[] }, { accessFlags := 1, nameIndex := 27, descriptorIndex := 289, attributes := #[] }, { accessFlags := 1, nameIndex := 27, descriptorIndex := 286, attributes := #[] }, { accessFlags := 1, nameIndex := 399, descriptorIndex := 400, attributes := #[] }, { accessFlags := 4161, nameIndex := 345, descriptorIndex := 156, attributes := #[] }] 49 2 #[349, 351, 353, 355] #[{ accessFlags := 24, nameIndex := 357, descriptorIndex := 358, attributes := #[] }])
  fields := #[{ name := "serialVersionUID", type := .long, accessFlags := 24, slot := 0, constantValue := 0 }]
  methods := #[k8m0, k8m1, k8m2, k8m3, k8m4, k8m5]
  instanceTypes := #[(.array .byte), .byte, .boolean, .int]
  staticTypes := #[.long]
  resolved := Array.replicate 422 none
  statics := none }

def pool9 : Array CpInfo := pool [(1, .class_ 2), (0, u "java/lang/constant/Constable"), (0, .class_ 4), (0, u "java/lang/Object")] 6

/-- java/lang/constant/Constable -/
def k9 : Class := { plain "java/lang/constant/Constable" (some 0) with
  accessFlags := 1537
  interfaces := #[]
  cf := some (fileOf pool9 1 #[] #[] 1537 3 #[] #[])
  fields := #[]
  methods := #[]
  instanceTypes := #[]
  staticTypes := #[]
  resolved := Array.replicate 11 none
  statics := none }

def pool10 : Array CpInfo := pool [(1, .class_ 2), (0, u "java/lang/constant/ConstantDesc"), (0, .class_ 4), (0, u "java/lang/Object")] 32

/-- java/lang/constant/ConstantDesc -/
def k10 : Class := { plain "java/lang/constant/ConstantDesc" (some 0) with
  accessFlags := 1537
  interfaces := #[]
  cf := some (fileOf pool10 1 #[] #[] 1537 3 #[] #[])
  fields := #[]
  methods := #[]
  instanceTypes := #[]
  staticTypes := #[]
  resolved := Array.replicate 37 none
  statics := none }

def pool11 : Array CpInfo := pool [(1, .methodref 2 3), (0, .class_ 4), (0, .nameAndType 5 6), (0, u "java/lang/Object"), (0, u "<init>"), (0, u "()V"), (2, .fieldref 10 11), (0, .class_ 12), (0, .nameAndType 13 14), (0, u "java/lang/String"), (0, u "value"), (0, u "[B"), (0, .fieldref 10 16), (0, .nameAndType 17 18), (0, u "coder"), (0, u "B"), (2, u "hash"), (0, u "I"), (2, u "hashIsZero"), (0, u "Z"), (11, .fieldref 10 39), (0, .nameAndType 40 26), (0, u "COMPACT_STRINGS"), (13, .methodref 55 56), (0, .class_ 57), (0, .nameAndType 58 59), (0, u "java/util/Arrays"), (0, u "copyOfRange"), (0, u "([BII)[B"), (47, .class_ 109), (1, u "java/lang/StringLatin1"), (32, u "()Z"), (191, u "()I"), (0, .methodref 10 336), (0, .nameAndType 17 337), (0, u "()B"), (2, u "()[B"), (22, u "([BI)C"), (27, u "(II)V"), (35, u "(I)C"), (61, .methodref 10 490), (0, .nameAndType 5 491), (0, u "(Ljava/lang/AbstractStringBuilder;Ljava/lang/Void;)V"), (0, .methodref 10 493), (0, .nameAndType 494 142), (0, u "isLatin1"), (0, .methodref 107 496), (0, .nameAndType 497 363), (0, u "charAt"), (3, u "checkIndex"), (4, .nameAndType 507 334), (0, u "length"), (33, .methodref 107 542), (0, .nameAndType 543 544), (0, u "equals"), (0, u "([B[B)Z"), (4, .methodref 550 506), (0, .class_ 551), (0, u "java/lang/AbstractStringBuilder"), (0, .methodref 550 553), (0, .nameAndType 554 340), (0, u "getValue"), (18, u "(Ljava/lang/Object;)Z"), (1, .class_ 576), (0, u "java/lang/CharSequence"), (22, u "CASE_INSENSITIVE_ORDER"), (0, u "Ljava/util/Comparator;"), (446, .methodref 550 493), (5, .fieldref 1054 1055), (0, .class_ 1056), (0, .nameAndType 1057 1058), (0, u "jdk/internal/util/Preconditions"), (0, u "SIOOBE_FORMATTER"), (0, u "Ljava/util/function/BiFunction;"), (0, .methodref 1054 1060), (0, .nameAndType 501 1061), (0, u "(IILjava/util/function/BiFunction;)I"), (39, u "serialPersistentFields"), (0, u "[Ljava/io/ObjectStreamField;"), (0, .class_ 1104), (0, u "java/lang/String$CaseInsensitiveComparator"), (1, .class_ 1107), (0, u "java/io/Serializable"), (0, .class_ 1109), (0, u "java/lang/Comparable"), (0, .class_ 1111), (0, u "java/lang/constant/Constable"), (0, .class_ 1113), (0, u "java/lang/constant/ConstantDesc"), (2, u "serialVersionUID"), (0, u "J"), (3, u "REPL"), (0, u "C"), (2, u "LATIN1"), (1, u "UTF16"), (105, u "(Ljava/lang/StringBuilder;)V")] 217

def k11m0 : Method := { name := "<init>", desc := "()V", sig := { parameters := [], returnType := none }, accessFlags := 1, code := none }
def k11c1 : Code := { maxStack := 3, maxLocals := 2, code := jdk_42_method_53_code, exceptionTable := #[], attributes := #[] }
def k11m1 : Method := { name := "<init>", desc := "(Ljava/lang/StringBuilder;)V", sig := { parameters := [(.object "java/lang/StringBuilder")], returnType := none }, accessFlags := 1, code := some k11c1 }
def k11c2 : Code := { maxStack := 2, maxLocals := 1, code := jdk_42_method_54_code, exceptionTable := #[], attributes := #[] }
def k11m2 : Method := { name := "length", desc := "()I", sig := { parameters := [], returnType := some .int }, accessFlags := 1, code := some k11c2 }
def k11c3 : Code := { maxStack := 2, maxLocals := 2, code := jdk_42_method_56_code, exceptionTable := #[], attributes := #[] }
def k11m3 : Method := { name := "charAt", desc := "(I)C", sig := { parameters := [.int], returnType := some .char }, accessFlags := 1, code := some k11c3 }
def k11c4 : Code := { maxStack := 2, maxLocals := 3, code := jdk_42_method_66_code, exceptionTable := #[], attributes := #[] }
def k11m4 : Method := { name := "equals", desc := "(Ljava/lang/Object;)Z", sig := { parameters := [(.object "java/lang/Object")], returnType := some .boolean }, accessFlags := 1, code := some k11c4 }
def k11c5 : Code := { maxStack := 5, maxLocals := 5, code := jdk_42_method_150_code, exceptionTable := #[], attributes := #[] }
def k11m5 : Method := { name := "<init>", desc := "(Ljava/lang/AbstractStringBuilder;Ljava/lang/Void;)V", sig := { parameters := [(.object "java/lang/AbstractStringBuilder"), (.object "java/lang/Void")], returnType := none }, accessFlags := 0, code := some k11c5 }
def k11c6 : Code := { maxStack := 1, maxLocals := 1, code := jdk_42_method_152_code, exceptionTable := #[], attributes := #[] }
def k11m6 : Method := { name := "coder", desc := "()B", sig := { parameters := [], returnType := some .byte }, accessFlags := 0, code := some k11c6 }
def k11c7 : Code := { maxStack := 1, maxLocals := 1, code := jdk_42_method_154_code, exceptionTable := #[], attributes := #[] }
def k11m7 : Method := { name := "isLatin1", desc := "()Z", sig := { parameters := [], returnType := some .boolean }, accessFlags := 0, code := some k11c7 }
def k11c8 : Code := { maxStack := 3, maxLocals := 2, code := jdk_42_method_155_code, exceptionTable := #[], attributes := #[] }
def k11m8 : Method := { name := "checkIndex", desc := "(II)V", sig := { parameters := [.int, .int], returnType := none }, accessFlags := 8, code := some k11c8 }
/-- java/lang/String -/
def k11 : Class := { plain "java/lang/String" (some 0) with
  accessFlags := 49
  interfaces := #[6, 7, 4, 9, 10]
  cf := some (fileOf pool11 10 #[.nestMembers #[1103]] #[{ accessFlags := 1, nameIndex := 5, descriptorIndex := 6, attributes := #[] }, { accessFlags := 1, nameIndex := 5, descriptorIndex := 1233, attributes := #[] }, { accessFlags := 1, nameIndex := 507, descriptorIndex := 334, attributes := #[] }, { accessFlags := 1, nameIndex := 497, descriptorIndex := 427, attributes := #[] }, { accessFlags := 1, nameIndex := 543, descriptorIndex := 573, attributes := #[] }, { accessFlags := 0, nameIndex := 5, descriptorIndex := 491, attributes := #[] }, { accessFlags := 0, nameIndex := 17, descriptorIndex := 337, attributes := #[] }, { accessFlags := 0, nameIndex := 494, descriptorIndex := 142, attributes := #[] }, { accessFlags := 8, nameIndex := 501, descriptorIndex := 391, attributes := #[] }] 49 2 #[1106, 1108, 575, 1110, 1112] #[{ accessFlags := 18, nameIndex := 13, descriptorIndex := 14, attributes := #[] }, { accessFlags := 18, nameIndex := 17, descriptorIndex := 18, attributes := #[] }, { accessFlags := 2, nameIndex := 21, descriptorIndex := 22, attributes := #[] }, { accessFlags := 2, nameIndex := 25, descriptorIndex := 26, attributes := #[] }, { accessFlags := 26, nameIndex := 1116, descriptorIndex := 1117, attributes := #[] }, { accessFlags := 24, nameIndex := 40, descriptorIndex := 26, attributes := #[] }, { accessFlags := 26, nameIndex := 1101, descriptorIndex := 1102, attributes := #[] }, { accessFlags := 26, nameIndex := 1121, descriptorIndex := 1122, attributes := #[] }, { accessFlags := 25, nameIndex := 599, descriptorIndex := 600, attributes := #[] }, { accessFlags := 24, nameIndex := 1125, descriptorIndex := 18, attributes := #[] }, { accessFlags := 24, nameIndex := 1127, descriptorIndex := 18, attributes := #[] }])
  fields := #[{ name := "value", type := (.array .byte), accessFlags := 18, slot := 0, constantValue := 0 }, { name := "coder", type := .byte, accessFlags := 18, slot := 1, constantValue := 0 }, { name := "hash", type := .int, accessFlags := 2, slot := 2, constantValue := 0 }, { name := "hashIsZero", type := .boolean, accessFlags := 2, slot := 3, constantValue := 0 }, { name := "serialVersionUID", type := .long, accessFlags := 26, slot := 0, constantValue := 0 }, { name := "COMPACT_STRINGS", type := .boolean, accessFlags := 24, slot := 1, constantValue := 0 }, { name := "serialPersistentFields", type := (.array (.object "java/io/ObjectStreamField")), accessFlags := 26, slot := 2, constantValue := 0 }, { name := "REPL", type := .char, accessFlags := 26, slot := 3, constantValue := 0 }, { name := "CASE_INSENSITIVE_ORDER", type := (.object "java/util/Comparator"), accessFlags := 25, slot := 4, constantValue := 0 }, { name := "LATIN1", type := .byte, accessFlags := 24, slot := 5, constantValue := 0 }, { name := "UTF16", type := .byte, accessFlags := 24, slot := 6, constantValue := 0 }]
  methods := #[k11m0, k11m1, k11m2, k11m3, k11m4, k11m5, k11m6, k11m7, k11m8]
  instanceTypes := #[(.array .byte), .byte, .int, .boolean]
  staticTypes := #[.long, .boolean, (.array (.object "java/io/ObjectStreamField")), .char, (.object "java/util/Comparator"), .byte, .byte]
  resolved := Array.replicate 1451 none
  statics := some 0 }

def pool12 : Array CpInfo := pool [(1, .class_ 2), (0, u "java/lang/String"), (1, .class_ 6), (1, u "java/lang/Object"), (0, u "<init>"), (0, u "()V"), (0, .methodref 1 10), (0, .nameAndType 11 12), (0, u "checkIndex"), (0, u "(II)V"), (1, .class_ 16), (1, u "java/lang/StringLatin1"), (36, u "([BI)C"), (36, u "canEncode"), (14, u "(C)Z"), (15, u "$assertionsDisabled"), (0, u "Z"), (98, .class_ 223), (1, u "java/lang/StringLatin1$LinesSpliterator"), (28, u "charAt"), (28, u "equals"), (0, u "([B[B)Z"), (107, .class_ 391), (0, u "java/lang/StringLatin1$CharsSpliterator")] 3

def k12m0 : Method := { name := "<init>", desc := "()V", sig := { parameters := [], returnType := none }, accessFlags := 0, code := none }
def k12c1 : Code := { maxStack := 2, maxLocals := 2, code := jdk_43_method_2_code, exceptionTable := #[], attributes := #[] }
def k12m1 : Method := { name := "charAt", desc := "([BI)C", sig := { parameters := [(.array .byte), .int], returnType := some .char }, accessFlags := 9, code := some k12c1 }
def k12c2 : Code := { maxStack := 2, maxLocals := 1, code := jdk_43_method_3_code, exceptionTable := #[], attributes := #[] }
def k12m2 : Method := { name := "canEncode", desc := "(C)Z", sig := { parameters := [.char], returnType := some .boolean }, accessFlags := 9, code := some k12c2 }
def k12c3 : Code := { maxStack := 3, maxLocals := 3, code := jdk_43_method_13_code, exceptionTable := #[], attributes := #[] }
def k12m3 : Method := { name := "equals", desc := "([B[B)Z", sig := { parameters := [(.array .byte), (.array .byte)], returnType := some .boolean }, accessFlags := 9, code := some k12c3 }
/-- java/lang/StringLatin1 -/
def k12 : Class := { plain "java/lang/StringLatin1" (some 0) with
  accessFlags := 48
  interfaces := #[]
  cf := some (fileOf pool12 14 #[.nestMembers #[390, 221]] #[{ accessFlags := 0, nameIndex := 7, descriptorIndex := 8, attributes := #[] }, { accessFlags := 9, nameIndex := 252, descriptorIndex := 53, attributes := #[] }, { accessFlags := 9, nameIndex := 90, descriptorIndex := 105, attributes := #[] }, { accessFlags := 9, nameIndex := 281, descriptorIndex := 282, attributes := #[] }] 48 4 #[] #[{ accessFlags := 4120, nameIndex := 121, descriptorIndex := 122, attributes := #[] }])
  fields := #[{ name := "$assertionsDisabled", type := .boolean, accessFlags := 4120, slot := 0, constantValue := 0 }]
  methods := #[k12m0, k12m1, k12m2, k12m3]
  instanceTypes := #[]
  staticTypes := #[.boolean]
  resolved := Array.replicate 395 none
  statics := none }

def pool13 : Array CpInfo := pool [(2, .class_ 4), (1, u "java/lang/Object"), (0, u "<init>"), (0, u "()V"), (7, .class_ 16), (1, u "java/util/Arrays"), (57, .class_ 76), (1, u "java/util/Arrays$NaturalOrder"), (36, .class_ 115), (1, u "java/util/Arrays$LegacyMergeSort"), (1, u "Z"), (21, u "copyOfRange"), (10, .methodref 151 152), (0, .class_ 153), (0, .nameAndType 154 155), (0, u "java/lang/System"), (0, u "arraycopy"), (0, u "(Ljava/lang/Object;ILjava/lang/Object;II)V"), (148, .methodref 305 306), (0, .class_ 307), (0, .nameAndType 308 309), (0, u "java/lang/Math"), (0, u "min"), (0, u "(II)I"), (29, .methodref 14 340), (0, .nameAndType 341 342), (0, u "copyOfRangeByte"), (0, u "([BII)[B"), (0, .methodref 14 344), (0, .nameAndType 345 346), (0, u "checkLength"), (0, u "(II)V"), (28, .class_ 376), (0, u "java/util/Arrays$ArrayList"), (68, u "$assertionsDisabled"), (269, u "MIN_ARRAY_SORT_GRAN"), (0, u "I"), (2, u "INSERTIONSORT_THRESHOLD"), (255, .class_ 976), (0, u "java/util/Arrays$ArrayItr")] 52

def k13m0 : Method := { name := "<init>", desc := "()V", sig := { parameters := [], returnType := none }, accessFlags := 2, code := none }
def k13c1 : Code := { maxStack := 4, maxLocals := 2, code := jdk_65_method_131_code, exceptionTable := #[], attributes := #[] }
def k13m1 : Method := { name := "checkLength", desc := "(II)V", sig := { parameters := [.int, .int], returnType := none }, accessFlags := 10, code := some k13c1 }
def k13c2 : Code := { maxStack := 3, maxLocals := 3, code := jdk_65_method_132_code, exceptionTable := #[], attributes := #[] }
def k13m2 : Method := { name := "copyOfRange", desc := "([BII)[B", sig := { parameters := [(.array .byte), .int, .int], returnType := some (.array .byte) }, accessFlags := 9, code := some k13c2 }
def k13c3 : Code := { maxStack := 6, maxLocals := 5, code := jdk_65_method_133_code, exceptionTable := #[], attributes := #[] }
def k13m3 : Method := { name := "copyOfRangeByte", desc := "([BII)[B", sig := { parameters := [(.array .byte), .int, .int], returnType := some (.array .byte) }, accessFlags := 10, code := some k13c3 }
/-- java/util/Arrays -/
def k13 : Class := { plain "java/util/Arrays" (some 0) with
  accessFlags := 49
  interfaces := #[]
  cf := some (fileOf pool13 14 #[.nestMembers #[975, 375, 113, 74]] #[{ accessFlags := 2, nameIndex := 5, descriptorIndex := 6, attributes := #[] }, { accessFlags := 10, nameIndex := 345, descriptorIndex := 346, attributes := #[] }, { accessFlags := 9, nameIndex := 139, descriptorIndex := 342, attributes := #[] }, { accessFlags := 10, nameIndex := 341, descriptorIndex := 342, attributes := #[] }] 49 2 #[] #[{ accessFlags := 26, nameIndex := 715, descriptorIndex := 716, attributes := #[] }, { accessFlags := 26, nameIndex := 719, descriptorIndex := 716, attributes := #[] }, { accessFlags := 4120, nameIndex := 445, descriptorIndex := 117, attributes := #[] }])
  fields := #[{ name := "MIN_ARRAY_SORT_GRAN", type := .int, accessFlags := 26, slot := 0, constantValue := 0 }, { name := "INSERTIONSORT_THRESHOLD", type := .int, accessFlags := 26, slot := 1, constantValue := 0 }, { name := "$assertionsDisabled", type := .boolean, accessFlags := 4120, slot := 2, constantValue := 0 }]
  methods := #[k13m0, k13m1, k13m2, k13m3]
  instanceTypes := #[]
  staticTypes := #[.int, .int, .boolean]
  resolved := Array.replicate 1029 none
  statics := none }

def pool14 : Array CpInfo := pool [(1, .class_ 2), (0, u "java/lang/Math"), (1, .class_ 6), (1, u "java/lang/Object"), (0, u "<init>"), (0, u "()V"), (89, .class_ 100), (1, u "java/lang/Math$RandomNumberGeneratorHolder"), (71, u "negativeZeroFloatBits"), (0, u "J"), (2, u "negativeZeroDoubleBits"), (24, u "min"), (43, u "$assertionsDisabled"), (0, u "Z"), (88, u "(II)I"), (2, u "twoToTheDoubleScaleDown"), (0, u "D"), (4, u "twoToTheDoubleScaleUp"), (9, u "E"), (3, u "PI"), (2, u "TAU"), (2, u "DEGREES_TO_RADIANS"), (0, u "RADIANS_TO_DEGREES")] 94

def k14m0 : Method := { name := "<init>", desc := "()V", sig := { parameters := [], returnType := none }, accessFlags := 2, code := none }
def k14c1 : Code := { maxStack := 2, maxLocals := 2, code := jdk_29_method_69_code, exceptionTable := #[], attributes := #[] }
def k14m1 : Method := { name := "min", desc := "(II)I", sig := { parameters := [.int, .int], returnType := some .int }, accessFlags := 9, code := some k14c1 }
/-- java/lang/Math -/
def k14 : Class := { plain "java/lang/Math" (some 0) with
  accessFlags := 49
  interfaces := #[]
  cf := some (fileOf pool14 1 #[.nestMembers #[98]] #[{ accessFlags := 2, nameIndex := 7, descriptorIndex := 8, attributes := #[] }, { accessFlags := 9, nameIndex := 201, descriptorIndex := 335, attributes := #[] }] 49 4 #[] #[{ accessFlags := 25, nameIndex := 354, descriptorIndex := 339, attributes := #[] }, { accessFlags := 25, nameIndex := 358, descriptorIndex := 339, attributes := #[] }, { accessFlags := 25, nameIndex := 361, descriptorIndex := 339, attributes := #[] }, { accessFlags := 26, nameIndex := 364, descriptorIndex := 339, attributes := #[] }, { accessFlags := 26, nameIndex := 365, descriptorIndex := 339, attributes := #[] }, { accessFlags := 26, nameIndex := 172, descriptorIndex := 173, attributes := #[] }, { accessFlags := 26, nameIndex := 176, descriptorIndex := 173, attributes := #[] }, { accessFlags := 8, nameIndex := 344, descriptorIndex := 339, attributes := #[] }, { accessFlags := 8, nameIndex := 338, descriptorIndex := 339, attributes := #[] }, { accessFlags := 4120, nameIndex := 245, descriptorIndex := 246, attributes := #[] }])
  fields := #[{ name := "E", type := .double, accessFlags := 25, slot := 0, constantValue := 0 }, { name := "PI", type := .double, accessFlags := 25, slot := 1, constantValue := 0 }, { name := "TAU", type := .double, accessFlags := 25, slot := 2, constantValue := 0 }, { name := "DEGREES_TO_RADIANS", type := .double, accessFlags := 26, slot := 3, constantValue := 0 }, { name := "RADIANS_TO_DEGREES", type := .double, accessFlags := 26, slot := 4, constantValue := 0 }, { name := "negativeZeroFloatBits", type := .long, accessFlags := 26, slot := 5, constantValue := 0 }, { name := "negativeZeroDoubleBits", type := .long, accessFlags := 26, slot := 6, constantValue := 0 }, { name := "twoToTheDoubleScaleUp", type := .double, accessFlags := 8, slot := 7, constantValue := 0 }, { name := "twoToTheDoubleScaleDown", type := .double, accessFlags := 8, slot := 8, constantValue := 0 }, { name := "$assertionsDisabled", type := .boolean, accessFlags := 4120, slot := 9, constantValue := 0 }]
  methods := #[k14m0, k14m1]
  instanceTypes := #[]
  staticTypes := #[.double, .double, .double, .double, .double, .long, .long, .double, .double, .boolean]
  resolved := Array.replicate 460 none
  statics := none }

def pool15 : Array CpInfo := pool [(2, .class_ 4), (1, u "java/lang/Object"), (0, u "<init>"), (0, u "()V"), (1, .class_ 10), (1, u "java/lang/System"), (0, u "allowSecurityManager"), (0, u "I"), (16, u "cons"), (0, u "Ljava/io/Console;"), (77, .class_ 110), (1, u "java/lang/System$CallersHolder"), (43, u "initialErrStream"), (0, u "Ljava/io/PrintStream;"), (19, u "security"), (0, u "Ljava/lang/SecurityManager;"), (31, .class_ 209), (0, u "java/lang/System$1"), (7, u "props"), (0, u "Ljava/util/Properties;"), (2, u "lineSeparator"), (0, u "Ljava/lang/String;"), (96, .class_ 321), (1, u "java/lang/System$LoggerFinder"), (5, .class_ 328), (0, u "java/lang/System$Logger"), (67, u "err"), (2, u "out"), (91, u "notSupportedJnuEncoding"), (15, u "in"), (17, u "initialIn"), (0, u "Ljava/io/InputStream;"), (35, u "bootLayer"), (0, u "Ljava/lang/ModuleLayer;"), (99, .class_ 664), (0, u "java/lang/System$2"), (9, u "NEVER"), (2, u "MAYBE"), (49, u "arraycopy"), (0, u "(Ljava/lang/Object;ILjava/lang/Object;II)V"), (72, .class_ 802), (0, u "java/lang/System$Logger$Level")] 31

def k15m0 : Method := { name := "<init>", desc := "()V", sig := { parameters := [], returnType := none }, accessFlags := 2, code := none }
def k15m1 : Method := { name := "arraycopy", desc := "(Ljava/lang/Object;ILjava/lang/Object;II)V", sig := { parameters := [(.object "java/lang/Object"), .int, (.object "java/lang/Object"), .int, .int], returnType := none }, accessFlags := 265, code := none }
/-- java/lang/System -/
def k15 : Class := { plain "java/lang/System" (some 0) with
  accessFlags := 49
  interfaces := #[]
  cf := some (fileOf pool15 8 #[.nestMembers #[319, 327, 801, 108, 663, 208]] #[{ accessFlags := 2, nameIndex := 5, descriptorIndex := 6, attributes := #[] }, { accessFlags := 265, nameIndex := 727, descriptorIndex := 728, attributes := #[] }] 49 2 #[] #[{ accessFlags := 25, nameIndex := 507, descriptorIndex := 526, attributes := #[] }, { accessFlags := 25, nameIndex := 399, descriptorIndex := 155, attributes := #[] }, { accessFlags := 25, nameIndex := 396, descriptorIndex := 155, attributes := #[] }, { accessFlags := 10, nameIndex := 525, descriptorIndex := 526, attributes := #[] }, { accessFlags := 26, nameIndex := 674, descriptorIndex := 12, attributes := #[] }, { accessFlags := 26, nameIndex := 677, descriptorIndex := 12, attributes := #[] }, { accessFlags := 10, nameIndex := 11, descriptorIndex := 12, attributes := #[] }, { accessFlags := 74, nameIndex := 175, descriptorIndex := 176, attributes := #[] }, { accessFlags := 10, nameIndex := 491, descriptorIndex := 222, attributes := #[] }, { accessFlags := 74, nameIndex := 29, descriptorIndex := 30, attributes := #[] }, { accessFlags := 74, nameIndex := 154, descriptorIndex := 155, attributes := #[] }, { accessFlags := 10, nameIndex := 217, descriptorIndex := 218, attributes := #[] }, { accessFlags := 10, nameIndex := 221, descriptorIndex := 222, attributes := #[] }, { accessFlags := 8, nameIndex := 562, descriptorIndex := 563, attributes := #[] }])
  fields := #[{ name := "in", type := (.object "java/io/InputStream"), accessFlags := 25, slot := 0, constantValue := 0 }, { name := "out", type := (.object "java/io/PrintStream"), accessFlags := 25, slot := 1, constantValue := 0 }, { name := "err", type := (.object "java/io/PrintStream"), accessFlags := 25, slot := 2, constantValue := 0 }, { name := "initialIn", type := (.object "java/io/InputStream"), accessFlags := 10, slot := 3, constantValue := 0 }, { name := "NEVER", type := .int, accessFlags := 26, slot := 4, constantValue := 0 }, { name := "MAYBE", type := .int, accessFlags := 26, slot := 5, constantValue := 0 }, { name := "allowSecurityManager", type := .int, accessFlags := 10, slot := 6, constantValue := 0 }, { name := "security", type := (.object "java/lang/SecurityManager"), accessFlags := 74, slot := 7, constantValue := 0 }, { name := "notSupportedJnuEncoding", type := (.object "java/lang/String"), accessFlags := 10, slot := 8, constantValue := 0 }, { name := "cons", type := (.object "java/io/Console"), accessFlags := 74, slot := 9, constantValue := 0 }, { name := "initialErrStream", type := (.object "java/io/PrintStream"), accessFlags := 74, slot := 10, constantValue := 0 }, { name := "props", type := (.object "java/util/Properties"), accessFlags := 10, slot := 11, constantValue := 0 }, { name := "lineSeparator", type := (.object "java/lang/String"), accessFlags := 10, slot := 12, constantValue := 0 }, { name := "bootLayer", type := (.object "java/lang/ModuleLayer"), accessFlags := 8, slot := 13, constantValue := 0 }]
  methods := #[k15m0, k15m1]
  instanceTypes := #[]
  staticTypes := #[(.object "java/io/InputStream"), (.object "java/io/PrintStream"), (.object "java/io/PrintStream"), (.object "java/io/InputStream"), .int, .int, .int, (.object "java/lang/SecurityManager"), (.object "java/lang/String"), (.object "java/io/Console"), (.object "java/io/PrintStream"), (.object "java/util/Properties"), (.object "java/lang/String"), (.object "java/lang/ModuleLayer")]
  resolved := Array.replicate 834 none
  statics := none }

def pool16 : Array CpInfo := pool [(2, .class_ 4), (1, u "java/lang/Object"), (0, u "<init>"), (0, u "()V"), (17, .class_ 26), (1, u "jdk/internal/util/Preconditions"), (6, u "checkIndex"), (21, .class_ 56), (0, u "jdk/internal/util/Preconditions$4"), (57, .class_ 115), (0, u "jdk/internal/util/Preconditions$1"), (7, u "SIOOBE_FORMATTER"), (0, u "Ljava/util/function/BiFunction;"), (0, .class_ 126), (0, u "jdk/internal/util/Preconditions$2"), (3, u "AIOOBE_FORMATTER"), (0, .class_ 132), (0, u "jdk/internal/util/Preconditions$3"), (3, u "IOOBE_FORMATTER"), (41, u "(IILjava/util/function/BiFunction;)I")] 15

def k16m0 : Method := { name := "<init>", desc := "()V", sig := { parameters := [], returnType := none }, accessFlags := 1, code := none }
def k16c1 : Code := { maxStack := 3, maxLocals := 3, code := jdk_41_method_11_code, exceptionTable := #[], attributes := #[] }
def k16m1 : Method := { name := "checkIndex", desc := "(IILjava/util/function/BiFunction;)I", sig := { parameters := [.int, .int, (.object "java/util/function/BiFunction")], returnType := some .int }, accessFlags := 9, code := some k16c1 }
/-- jdk/internal/util/Preconditions -/
def k16 : Class := { plain "jdk/internal/util/Preconditions" (some 0) with
  accessFlags := 33
  interfaces := #[]
  cf := some (fileOf pool16 24 #[.nestMembers #[55, 131, 125, 114]] #[{ accessFlags := 1, nameIndex := 5, descriptorIndex := 6, attributes := #[] }, { accessFlags := 9, nameIndex := 33, descriptorIndex := 178, attributes := #[] }] 33 2 #[] #[{ accessFlags := 25, nameIndex := 123, descriptorIndex := 124, attributes := #[] }, { accessFlags := 25, nameIndex := 130, descriptorIndex := 124, attributes := #[] }, { accessFlags := 25, nameIndex := 136, descriptorIndex := 124, attributes := #[] }])
  fields := #[{ name := "SIOOBE_FORMATTER", type := (.object "java/util/function/BiFunction"), accessFlags := 25, slot := 0, constantValue := 0 }, { name := "AIOOBE_FORMATTER", type := (.object "java/util/function/BiFunction"), accessFlags := 25, slot := 1, constantValue := 0 }, { name := "IOOBE_FORMATTER", type := (.object "java/util/function/BiFunction"), accessFlags := 25, slot := 2, constantValue := 0 }]
  methods := #[k16m0, k16m1]
  instanceTypes := #[]
  staticTypes := #[(.object "java/util/function/BiFunction"), (.object "java/util/function/BiFunction"), (.object "java/util/function/BiFunction")]
  resolved := Array.replicate 194 none
  statics := some 1 }

def pool17 : Array CpInfo := pool [(9, u "<init>"), (6, .class_ 18), (1, u "java/lang/Object"), (0, u "()V"), (1, .class_ 23), (1, u "jdk/internal/util/ArraysSupport"), (0, u "LOG2_ARRAY_LONG_INDEX_SCALE"), (0, u "I"), (2, u "U"), (0, u "Ljdk/internal/misc/Unsafe;"), (8, u "BIG_ENDIAN"), (0, u "Z"), (8, u "LOG2_BYTE_BIT_SIZE"), (4, u "LOG2_ARRAY_INT_INDEX_SCALE"), (54, u "JLA"), (0, u "Ljdk/internal/access/JavaLangAccess;"), (11, u "LOG2_ARRAY_BOOLEAN_INDEX_SCALE"), (9, u "LOG2_ARRAY_BYTE_INDEX_SCALE"), (5, u "LOG2_ARRAY_CHAR_INDEX_SCALE"), (5, u "LOG2_ARRAY_SHORT_INDEX_SCALE"), (18, u "LOG2_ARRAY_FLOAT_INDEX_SCALE"), (24, u "LOG2_ARRAY_DOUBLE_INDEX_SCALE"), (89, u "T_BOOLEAN"), (2, u "T_CHAR"), (1, u "T_FLOAT"), (1, u "T_DOUBLE"), (1, u "T_BYTE"), (1, u "T_SHORT"), (1, u "T_INT"), (1, u "T_LONG"), (1, u "SOFT_MAX_ARRAY_LENGTH")] 83

def k17m0 : Method := { name := "<init>", desc := "()V", sig := { parameters := [], returnType := none }, accessFlags := 2, code := none }
/-- jdk/internal/util/ArraysSupport -/
def k17 : Class := { plain "jdk/internal/util/ArraysSupport" (some 0) with
  accessFlags := 33
  interfaces := #[]
  cf := some (fileOf pool17 21 #[] #[{ accessFlags := 2, nameIndex := 9, descriptorIndex := 19, attributes := #[] }] 33 16 #[] #[{ accessFlags := 24, nameIndex := 28, descriptorIndex := 29, attributes := #[] }, { accessFlags := 26, nameIndex := 38, descriptorIndex := 39, attributes := #[] }, { accessFlags := 25, nameIndex := 121, descriptorIndex := 25, attributes := #[] }, { accessFlags := 25, nameIndex := 131, descriptorIndex := 25, attributes := #[] }, { accessFlags := 25, nameIndex := 137, descriptorIndex := 25, attributes := #[] }, { accessFlags := 25, nameIndex := 143, descriptorIndex := 25, attributes := #[] }, { accessFlags := 25, nameIndex := 53, descriptorIndex := 25, attributes := #[] }, { accessFlags := 25, nameIndex := 24, descriptorIndex := 25, attributes := #[] }, { accessFlags := 25, nameIndex := 162, descriptorIndex := 25, attributes := #[] }, { accessFlags := 25, nameIndex := 187, descriptorIndex := 25, attributes := #[] }, { accessFlags := 26, nameIndex := 48, descriptorIndex := 25, attributes := #[] }, { accessFlags := 25, nameIndex := 277, descriptorIndex := 25, attributes := #[] }, { accessFlags := 25, nameIndex := 280, descriptorIndex := 25, attributes := #[] }, { accessFlags := 25, nameIndex := 282, descriptorIndex := 25, attributes := #[] }, { accessFlags := 25, nameIndex := 284, descriptorIndex := 25, attributes := #[] }, { accessFlags := 25, nameIndex := 286, descriptorIndex := 25, attributes := #[] }, { accessFlags := 25, nameIndex := 288, descriptorIndex := 25, attributes := #[] }, { accessFlags := 25, nameIndex := 290, descriptorIndex := 25, attributes := #[] }, { accessFlags := 25, nameIndex := 292, descriptorIndex := 25, attributes := #[] }, { accessFlags := 26, nameIndex := 108, descriptorIndex := 109, attributes := #[] }, { accessFlags := 25, nameIndex := 294, descriptorIndex := 25, attributes := #[] }])
  fields := #[{ name := "U", type := (.object "jdk/internal/misc/Unsafe"), accessFlags := 24, slot := 0, constantValue := 0 }, { name := "BIG_ENDIAN", type := .boolean, accessFlags := 26, slot := 1, constantValue := 0 }, { name := "LOG2_ARRAY_BOOLEAN_INDEX_SCALE", type := .int, accessFlags := 25, slot := 2, constantValue := 0 }, { name := "LOG2_ARRAY_BYTE_INDEX_SCALE", type := .int, accessFlags := 25, slot := 3, constantValue := 0 }, { name := "LOG2_ARRAY_CHAR_INDEX_SCALE", type := .int, accessFlags := 25, slot := 4, constantValue := 0 }, { name := "LOG2_ARRAY_SHORT_INDEX_SCALE", type := .int, accessFlags := 25, slot := 5, constantValue := 0 }, { name := "LOG2_ARRAY_INT_INDEX_SCALE", type := .int, accessFlags := 25, slot := 6, constantValue := 0 }, { name := "LOG2_ARRAY_LONG_INDEX_SCALE", type := .int, accessFlags := 25, slot := 7, constantValue := 0 }, { name := "LOG2_ARRAY_FLOAT_INDEX_SCALE", type := .int, accessFlags := 25, slot := 8, constantValue := 0 }, { name := "LOG2_ARRAY_DOUBLE_INDEX_SCALE", type := .int, accessFlags := 25, slot := 9, constantValue := 0 }, { name := "LOG2_BYTE_BIT_SIZE", type := .int, accessFlags := 26, slot := 10, constantValue := 0 }, { name := "T_BOOLEAN", type := .int, accessFlags := 25, slot := 11, constantValue := 0 }, { name := "T_CHAR", type := .int, accessFlags := 25, slot := 12, constantValue := 0 }, { name := "T_FLOAT", type := .int, accessFlags := 25, slot := 13, constantValue := 0 }, { name := "T_DOUBLE", type := .int, accessFlags := 25, slot := 14, constantValue := 0 }, { name := "T_BYTE", type := .int, accessFlags := 25, slot := 15, constantValue := 0 }, { name := "T_SHORT", type := .int, accessFlags := 25, slot := 16, constantValue := 0 }, { name := "T_INT", type := .int, accessFlags := 25, slot := 17, constantValue := 0 }, { name := "T_LONG", type := .int, accessFlags := 25, slot := 18, constantValue := 0 }, { name := "JLA", type := (.object "jdk/internal/access/JavaLangAccess"), accessFlags := 26, slot := 19, constantValue := 0 }, { name := "SOFT_MAX_ARRAY_LENGTH", type := .int, accessFlags := 25, slot := 20, constantValue := 0 }]
  methods := #[k17m0]
  instanceTypes := #[]
  staticTypes := #[(.object "jdk/internal/misc/Unsafe"), .boolean, .int, .int, .int, .int, .int, .int, .int, .int, .int, .int, .int, .int, .int, .int, .int, .int, .int, (.object "jdk/internal/access/JavaLangAccess"), .int]
  resolved := Array.replicate 378 none
  statics := none }

def pool18 : Array CpInfo := pool [(1, u "java/lang/Cloneable"), (0, .class_ 1), (0, u "java/lang/Object"), (0, .class_ 3)] 3

/-- java/lang/Cloneable -/
def k18 : Class := { plain "java/lang/Cloneable" (some 0) with
  accessFlags := 1537
  interfaces := #[]
  cf := some (fileOf pool18 2 #[] #[] 1537 4 #[] #[])
  fields := #[]
  methods := #[]
  instanceTypes := #[]
  staticTypes := #[]
  resolved := Array.replicate 8 none
  statics := none }

/-- the primitive byte -/
def k19 : Class := { plain "byte" none with kind := .primitive 'B', accessFlags := 0x411 }
/-- [B -/
def k20 : Class := { plain "[B" (some 0) with kind := .array 19 .byte, interfaces := #[18, 6], accessFlags := 1041 }

/-- the primitive int -/
def k21 : Class := { plain "int" none with kind := .primitive 'I', accessFlags := 0x411 }
/-- [I -/
def k22 : Class := { plain "[I" (some 0) with kind := .array 21 .int, interfaces := #[18, 6], accessFlags := 1041 }

def heap : Heap := #[{ cls := 11, slots := #[.long 0, .int 1, .null, .int 0, .null, .int 0, .int 0], vm := .statics 11 },
  { cls := 16, slots := #[.null, .null, .null], vm := .statics 16 }]
def classes : Array Class := #[k0, k1, k2, k3, k4, k5, k6, k7, k8, k9, k10, k11, k12, k13, k14, k15, k16, k17, k18, k19, k20, k21, k22]
def interned : List (Array UInt16 × Addr) := []
def slotsUsed : Nat := 10
def theMethod : MethodId := ⟨1, 2⟩
def args0 : Array Value := #[.int 5, .int 3, .int 1]
def aboutOver (below : List Frame) : State where
  vm := { classes := classes, interned := interned.toArray }
  heap := heap
  slotsUsed := slotsUsed
  threads := #[{ frames := .invoking theMethod args0 :: below }]
def below0 : List Frame := [.native { method := ⟨0, 0⟩, args := #[] }]
def about1 : State := aboutOver below0
def p0 : Program := .bare "" "" ""
def e0 : Env := launch0.env 0 0 0
theorem w_frames : about1.frames = Frame.invoking theMethod args0 :: below0 := rfl
set_option maxRecDepth 65536 in
theorem w_args : argsFit about1.vm theMethod args0 = true := by decide +kernel
set_option maxRecDepth 65536 in
theorem w_heap : heapFits about1 = true := by decide +kernel
set_option maxRecDepth 65536 in
theorem w_runnable : about1.curStatus? = some .runnable := by decide +kernel
set_option maxRecDepth 65536 in
theorem w_alone : about1.alone = true := by decide +kernel
set_option maxRecDepth 65536 in
theorem w_named : about1.methodNamed? x = some theMethod := by decide +kernel
set_option maxRecDepth 65536 in
theorem w_hears : about1.hears theMethod below0 = true := by decide +kernel
set_option maxRecDepth 65536 in
theorem w_ripe : about1.ripe theMethod args0 below0 = true := by decide +kernel
theorem w_running : about1.status = .running := rfl
set_option maxRecDepth 65536 in
theorem w_room : about1.hasRoom e0.platform room_1 = true :=
  launch0.hasRoom_least _ room_1 (by decide +kernel) (by decide +kernel) (by decide +kernel) (by decide +kernel) (by decide +kernel) (by decide +kernel)
theorem allAtoms_all (ts : List Jvm.Cond) (a : Array Jvm.Value) (st : Jvm.State) : (allAtoms ts).before a st = ts.all (fun c => c.before a st) := by
  induction ts with
  | nil => rfl
  | cons c t ih =>
    show (Jvm.Cond.and c (allAtoms t)).before a st = _
    rw [Jvm.Cond.before_and, ih, List.all_cons]
def words1 : List Jvm.Cond := Jvm.Cond.code x code maxLocals ret :: tables_1
/-- a 'code' word, met by the world's own term for the bytes: nothing is compared byte by byte -/
theorem code_word {y : MethodName} {bytes : ByteArray} {mx : Nat} {rt : Option FieldType} {a : Array Value} {s : State} {m : MethodId} {meth : Method} {c : Code} (h1 : s.methodNamed? y = some m) (h2 : s.vm.method? m = some meth) (h3 : meth.code = some c) (h4 : c.code = bytes)
    (h5 : (c.maxLocals == mx && c.exceptionTable.isEmpty && decide (c.maxStack ≤ mostOperands) && decide (meth.sig.returnType = rt) && !meth.locks && decide (parseMethodDescriptor y.desc = some meth.sig)) = true) : (Jvm.Cond.code y bytes mx rt).before a s = true := by
  simp only [Bool.and_eq_true, beq_iff_eq, Bool.not_eq_true', decide_eq_true_eq] at h5
  obtain ⟨⟨⟨⟨⟨g1, g2⟩, g3⟩, g4⟩, g5⟩, g6⟩ := h5
  simp [Cond.before, Cond.holds, Cond.value, h1, h2, h3, h4, g1, g2, g3, g4, g5, g6]
def isCode : Jvm.Cond → Bool
  | .code _ _ _ _ => true
  | _ => false
theorem all_split {L : List Jvm.Cond} {P : Jvm.Cond → Bool} (h1 : L.all (fun c => isCode c || P c) = true) (h2 : ∀ c ∈ L.filter isCode, P c = true) : L.all P = true := by
  refine List.all_eq_true.mpr fun c hc => ?_
  have h := List.all_eq_true.mp h1 c hc
  rcases Bool.eq_false_or_eq_true (isCode c) with hi | hi
  · exact h2 c (List.mem_filter.mpr ⟨hc, hi⟩)
  · simpa [hi] using h
set_option maxRecDepth 65536 in
theorem w_c0 : (Jvm.Cond.code x code maxLocals ret).before args0 about1 = true := code_word (m := ⟨1, 2⟩) (meth := k1m2) (c := k1c2) (by decide +kernel) rfl rfl rfl (by decide +kernel)
set_option maxRecDepth 65536 in
theorem w_c1 : (Jvm.Cond.code ({ cls := "com/example/tenantd/tenantd/server/JsonWriter", name := "<init>", desc := "()V" } : Jvm.MethodName) prog_55_method_1_code (1 : Nat) (Option.none : Option Jvm.ClassFile.FieldType)).before args0 about1 = true := code_word (m := ⟨2, 0⟩) (meth := k2m0) (c := k2c0) (by decide +kernel) rfl rfl rfl (by decide +kernel)
set_option maxRecDepth 65536 in
theorem w_c2 : (Jvm.Cond.code ({ cls := "java/lang/Object", name := "<init>", desc := "()V" } : Jvm.MethodName) object_method_1_code (1 : Nat) (Option.none : Option Jvm.ClassFile.FieldType)).before args0 about1 = true := code_word (m := ⟨0, 0⟩) (meth := k0m0) (c := k0c0) (by decide +kernel) rfl rfl rfl (by decide +kernel)
set_option maxRecDepth 65536 in
theorem w_c3 : (Jvm.Cond.code ({ cls := "java/lang/StringBuilder", name := "<init>", desc := "(I)V" } : Jvm.MethodName) jdk_67_method_2_code (2 : Nat) (Option.none : Option Jvm.ClassFile.FieldType)).before args0 about1 = true := code_word (m := ⟨8, 1⟩) (meth := k8m1) (c := k8c1) (by decide +kernel) rfl rfl rfl (by decide +kernel)
set_option maxRecDepth 65536 in
theorem w_c4 : (Jvm.Cond.code ({ cls := "java/lang/AbstractStringBuilder", name := "<init>", desc := "(I)V" } : Jvm.MethodName) jdk_68_method_2_code (2 : Nat) (Option.none : Option Jvm.ClassFile.FieldType)).before args0 about1 = true := code_word (m := ⟨5, 1⟩) (meth := k5m1) (c := k5c1) (by decide +kernel) rfl rfl rfl (by decide +kernel)
set_option maxRecDepth 65536 in
theorem w_c5 : (Jvm.Cond.code ({ cls := "com/example/tenantd/tenantd/server/JsonWriter", name := "endArray", desc := "()Lcom/example/tenantd/tenantd/server/JsonWriter;" } : Jvm.MethodName) prog_55_method_5_code (1 : Nat) (Option.some (Jvm.ClassFile.FieldType.object "com/example/tenantd/tenantd/server/JsonWriter"))).before args0 about1 = true := code_word (m := ⟨2, 4⟩) (meth := k2m4) (c := k2c4) (by decide +kernel) rfl rfl rfl (by decide +kernel)
set_option maxRecDepth 65536 in
theorem w_c6 : (Jvm.Cond.code ({ cls := "java/lang/StringBuilder", name := "append", desc := "(C)Ljava/lang/StringBuilder;" } : Jvm.MethodName) jdk_67_method_14_code (2 : Nat) (Option.some (Jvm.ClassFile.FieldType.object "java/lang/StringBuilder"))).before args0 about1 = true := code_word (m := ⟨8, 3⟩) (meth := k8m3) (c := k8c3) (by decide +kernel) rfl rfl rfl (by decide +kernel)
set_option maxRecDepth 65536 in
theorem w_c7 : (Jvm.Cond.code ({ cls := "java/lang/AbstractStringBuilder", name := "append", desc := "(C)Ljava/lang/AbstractStringBuilder;" } : Jvm.MethodName) jdk_68_method_31_code (2 : Nat) (Option.some (Jvm.ClassFile.FieldType.object "java/lang/AbstractStringBuilder"))).before args0 about1 = true := code_word (m := ⟨5, 5⟩) (meth := k5m5) (c := k5c5) (by decide +kernel) rfl rfl rfl (by decide +kernel)
set_option maxRecDepth 65536 in
theorem w_c8 : (Jvm.Cond.code ({ cls := "java/lang/AbstractStringBuilder", name := "ensureCapacityInternal", desc := "(I)V" } : Jvm.MethodName) jdk_68_method_9_code (3 : Nat) (Option.none : Option Jvm.ClassFile.FieldType)).before args0 about1 = true := code_word (m := ⟨5, 3⟩) (meth := k5m3) (c := k5c3) (by decide +kernel) rfl rfl rfl (by decide +kernel)
set_option maxRecDepth 65536 in
theorem w_c9 : (Jvm.Cond.code ({ cls := "java/lang/AbstractStringBuilder", name := "isLatin1", desc := "()Z" } : Jvm.MethodName) jdk_68_method_68_code (1 : Nat) (Option.some Jvm.ClassFile.FieldType.boolean)).before args0 about1 = true := code_word (m := ⟨5, 7⟩) (meth := k5m7) (c := k5c7) (by decide +kernel) rfl rfl rfl (by decide +kernel)
set_option maxRecDepth 65536 in
theorem w_c10 : (Jvm.Cond.code ({ cls := "java/lang/StringLatin1", name := "canEncode", desc := "(C)Z" } : Jvm.MethodName) jdk_43_method_3_code (1 : Nat) (Option.some Jvm.ClassFile.FieldType.boolean)).before args0 about1 = true := code_word (m := ⟨12, 2⟩) (meth := k12m2) (c := k12c2) (by decide +kernel) rfl rfl rfl (by decide +kernel)
set_option maxRecDepth 65536 in
theorem w_c11 : (Jvm.Cond.code ({ cls := "com/example/tenantd/tenantd/server/JsonWriter", name := "toString", desc := "()Ljava/lang/String;" } : Jvm.MethodName) prog_55_method_13_code (1 : Nat) (Option.some (Jvm.ClassFile.FieldType.object "java/lang/String"))).before args0 about1 = true := code_word (m := ⟨2, 6⟩) (meth := k2m6) (c := k2c6) (by decide +kernel) rfl rfl rfl (by decide +kernel)
set_option maxRecDepth 65536 in
theorem w_c12 : (Jvm.Cond.code ({ cls := "java/lang/StringBuilder", name := "toString", desc := "()Ljava/lang/String;" } : Jvm.MethodName) jdk_67_method_42_code (1 : Nat) (Option.some (Jvm.ClassFile.FieldType.object "java/lang/String"))).before args0 about1 = true := code_word (m := ⟨8, 4⟩) (meth := k8m4) (c := k8c4) (by decide +kernel) rfl rfl rfl (by decide +kernel)
set_option maxRecDepth 65536 in
theorem w_c13 : (Jvm.Cond.code ({ cls := "java/lang/String", name := "<init>", desc := "(Ljava/lang/StringBuilder;)V" } : Jvm.MethodName) jdk_42_method_53_code (2 : Nat) (Option.none : Option Jvm.ClassFile.FieldType)).before args0 about1 = true := code_word (m := ⟨11, 1⟩) (meth := k11m1) (c := k11c1) (by decide +kernel) rfl rfl rfl (by decide +kernel)
set_option maxRecDepth 65536 in
theorem w_c14 : (Jvm.Cond.code ({ cls := "java/lang/String", name := "<init>", desc := "(Ljava/lang/AbstractStringBuilder;Ljava/lang/Void;)V" } : Jvm.MethodName) jdk_42_method_150_code (5 : Nat) (Option.none : Option Jvm.ClassFile.FieldType)).before args0 about1 = true := code_word (m := ⟨11, 5⟩) (meth := k11m5) (c := k11c5) (by decide +kernel) rfl rfl rfl (by decide +kernel)
set_option maxRecDepth 65536 in
theorem w_c15 : (Jvm.Cond.code ({ cls := "java/lang/AbstractStringBuilder", name := "getValue", desc := "()[B" } : Jvm.MethodName) jdk_68_method_64_code (1 : Nat) (Option.some (Jvm.ClassFile.FieldType.array Jvm.ClassFile.FieldType.byte))).before args0 about1 = true := code_word (m := ⟨5, 6⟩) (meth := k5m6) (c := k5c6) (by decide +kernel) rfl rfl rfl (by decide +kernel)
set_option maxRecDepth 65536 in
theorem w_c16 : (Jvm.Cond.code ({ cls := "java/lang/StringBuilder", name := "length", desc := "()I" } : Jvm.MethodName) jdk_67_method_93_code (1 : Nat) (Option.some Jvm.ClassFile.FieldType.int)).before args0 about1 = true := code_word (m := ⟨8, 5⟩) (meth := k8m5) (c := k8c5) (by decide +kernel) rfl rfl rfl (by decide +kernel)
set_option maxRecDepth 65536 in
theorem w_c17 : (Jvm.Cond.code ({ cls := "java/lang/AbstractStringBuilder", name := "length", desc := "()I" } : Jvm.MethodName) jdk_68_method_6_code (1 : Nat) (Option.some Jvm.ClassFile.FieldType.int)).before args0 about1 = true := code_word (m := ⟨5, 2⟩) (meth := k5m2) (c := k5c2) (by decide +kernel) rfl rfl rfl (by decide +kernel)
set_option maxRecDepth 65536 in
theorem w_c18 : (Jvm.Cond.code ({ cls := "java/util/Arrays", name := "copyOfRange", desc := "([BII)[B" } : Jvm.MethodName) jdk_65_method_132_code (3 : Nat) (Option.some (Jvm.ClassFile.FieldType.array Jvm.ClassFile.FieldType.byte))).before args0 about1 = true := code_word (m := ⟨13, 2⟩) (meth := k13m2) (c := k13c2) (by decide +kernel) rfl rfl rfl (by decide +kernel)
set_option maxRecDepth 65536 in
theorem w_c19 : (Jvm.Cond.code ({ cls := "java/util/Arrays", name := "copyOfRangeByte", desc := "([BII)[B" } : Jvm.MethodName) jdk_65_method_133_code (5 : Nat) (Option.some (Jvm.ClassFile.FieldType.array Jvm.ClassFile.FieldType.byte))).before args0 about1 = true := code_word (m := ⟨13, 3⟩) (meth := k13m3) (c := k13c3) (by decide +kernel) rfl rfl rfl (by decide +kernel)
set_option maxRecDepth 65536 in
theorem w_c20 : (Jvm.Cond.code ({ cls := "java/util/Arrays", name := "checkLength", desc := "(II)V" } : Jvm.MethodName) jdk_65_method_131_code (2 : Nat) (Option.none : Option Jvm.ClassFile.FieldType)).before args0 about1 = true := code_word (m := ⟨13, 1⟩) (meth := k13m1) (c := k13c1) (by decide +kernel) rfl rfl rfl (by decide +kernel)
set_option maxRecDepth 65536 in
theorem w_c21 : (Jvm.Cond.code ({ cls := "java/lang/Math", name := "min", desc := "(II)I" } : Jvm.MethodName) jdk_29_method_69_code (2 : Nat) (Option.some Jvm.ClassFile.FieldType.int)).before args0 about1 = true := code_word (m := ⟨14, 1⟩) (meth := k14m1) (c := k14c1) (by decide +kernel) rfl rfl rfl (by decide +kernel)
set_option maxRecDepth 65536 in
theorem w_c22 : (Jvm.Cond.code ({ cls := "java/lang/String", name := "equals", desc := "(Ljava/lang/Object;)Z" } : Jvm.MethodName) jdk_42_method_66_code (3 : Nat) (Option.some Jvm.ClassFile.FieldType.boolean)).before args0 about1 = true := code_word (m := ⟨11, 4⟩) (meth := k11m4) (c := k11c4) (by decide +kernel) rfl rfl rfl (by decide +kernel)
set_option maxRecDepth 65536 in
theorem w_c23 : (Jvm.Cond.code ({ cls := "java/lang/StringLatin1", name := "equals", desc := "([B[B)Z" } : Jvm.MethodName) jdk_43_method_13_code (3 : Nat) (Option.some Jvm.ClassFile.FieldType.boolean)).before args0 about1 = true := code_word (m := ⟨12, 3⟩) (meth := k12m3) (c := k12c3) (by decide +kernel) rfl rfl rfl (by decide +kernel)
set_option maxRecDepth 65536 in
theorem w_c24 : (Jvm.Cond.code ({ cls := "java/lang/String", name := "length", desc := "()I" } : Jvm.MethodName) jdk_42_method_54_code (1 : Nat) (Option.some Jvm.ClassFile.FieldType.int)).before args0 about1 = true := code_word (m := ⟨11, 2⟩) (meth := k11m2) (c := k11c2) (by decide +kernel) rfl rfl rfl (by decide +kernel)
set_option maxRecDepth 65536 in
theorem w_c25 : (Jvm.Cond.code ({ cls := "java/lang/String", name := "coder", desc := "()B" } : Jvm.MethodName) jdk_42_method_152_code (1 : Nat) (Option.some Jvm.ClassFile.FieldType.byte)).before args0 about1 = true := code_word (m := ⟨11, 6⟩) (meth := k11m6) (c := k11c6) (by decide +kernel) rfl rfl rfl (by decide +kernel)
set_option maxRecDepth 65536 in
theorem w_c26 : (Jvm.Cond.code ({ cls := "com/example/tenantd/tenantd/server/JsonWriter", name := "array", desc := "()Lcom/example/tenantd/tenantd/server/JsonWriter;" } : Jvm.MethodName) prog_55_method_4_code (1 : Nat) (Option.some (Jvm.ClassFile.FieldType.object "com/example/tenantd/tenantd/server/JsonWriter"))).before args0 about1 = true := code_word (m := ⟨2, 3⟩) (meth := k2m3) (c := k2c3) (by decide +kernel) rfl rfl rfl (by decide +kernel)
set_option maxRecDepth 65536 in
theorem w_c27 : (Jvm.Cond.code ({ cls := "com/example/tenantd/tenantd/server/JsonWriter", name := "separate", desc := "()V" } : Jvm.MethodName) prog_55_method_14_code (1 : Nat) (Option.none : Option Jvm.ClassFile.FieldType)).before args0 about1 = true := code_word (m := ⟨2, 7⟩) (meth := k2m7) (c := k2c7) (by decide +kernel) rfl rfl rfl (by decide +kernel)
set_option maxRecDepth 65536 in
theorem w_c28 : (Jvm.Cond.code ({ cls := "com/example/tenantd/tenantd/server/JsonWriterEndArrayPinLaw", name := "at", desc := "(Ljava/lang/String;IC)Z" } : Jvm.MethodName) method_2_code (3 : Nat) (Option.some Jvm.ClassFile.FieldType.boolean)).before args0 about1 = true := code_word (m := ⟨1, 1⟩) (meth := k1m1) (c := k1c1) (by decide +kernel) rfl rfl rfl (by decide +kernel)
set_option maxRecDepth 65536 in
theorem w_c29 : (Jvm.Cond.code ({ cls := "java/lang/String", name := "charAt", desc := "(I)C" } : Jvm.MethodName) jdk_42_method_56_code (2 : Nat) (Option.some Jvm.ClassFile.FieldType.char)).before args0 about1 = true := code_word (m := ⟨11, 3⟩) (meth := k11m3) (c := k11c3) (by decide +kernel) rfl rfl rfl (by decide +kernel)
set_option maxRecDepth 65536 in
theorem w_c30 : (Jvm.Cond.code ({ cls := "java/lang/String", name := "isLatin1", desc := "()Z" } : Jvm.MethodName) jdk_42_method_154_code (1 : Nat) (Option.some Jvm.ClassFile.FieldType.boolean)).before args0 about1 = true := code_word (m := ⟨11, 7⟩) (meth := k11m7) (c := k11c7) (by decide +kernel) rfl rfl rfl (by decide +kernel)
set_option maxRecDepth 65536 in
theorem w_c31 : (Jvm.Cond.code ({ cls := "java/lang/StringLatin1", name := "charAt", desc := "([BI)C" } : Jvm.MethodName) jdk_43_method_2_code (2 : Nat) (Option.some Jvm.ClassFile.FieldType.char)).before args0 about1 = true := code_word (m := ⟨12, 1⟩) (meth := k12m1) (c := k12c1) (by decide +kernel) rfl rfl rfl (by decide +kernel)
set_option maxRecDepth 65536 in
theorem w_c32 : (Jvm.Cond.code ({ cls := "java/lang/String", name := "checkIndex", desc := "(II)V" } : Jvm.MethodName) jdk_42_method_155_code (2 : Nat) (Option.none : Option Jvm.ClassFile.FieldType)).before args0 about1 = true := code_word (m := ⟨11, 8⟩) (meth := k11m8) (c := k11c8) (by decide +kernel) rfl rfl rfl (by decide +kernel)
set_option maxRecDepth 65536 in
theorem w_c33 : (Jvm.Cond.code ({ cls := "jdk/internal/util/Preconditions", name := "checkIndex", desc := "(IILjava/util/function/BiFunction;)I" } : Jvm.MethodName) jdk_41_method_11_code (3 : Nat) (Option.some Jvm.ClassFile.FieldType.int)).before args0 about1 = true := code_word (m := ⟨16, 1⟩) (meth := k16m1) (c := k16c1) (by decide +kernel) rfl rfl rfl (by decide +kernel)
set_option maxRecDepth 65536 in
theorem w_c34 : (Jvm.Cond.code ({ cls := "com/example/tenantd/tenantd/server/JsonWriter", name := "value", desc := "(Z)Lcom/example/tenantd/tenantd/server/JsonWriter;" } : Jvm.MethodName) prog_55_method_11_code (2 : Nat) (Option.some (Jvm.ClassFile.FieldType.object "com/example/tenantd/tenantd/server/JsonWriter"))).before args0 about1 = true := code_word (m := ⟨2, 5⟩) (meth := k2m5) (c := k2c5) (by decide +kernel) rfl rfl rfl (by decide +kernel)
set_option maxRecDepth 65536 in
theorem w_c35 : (Jvm.Cond.code ({ cls := "java/lang/StringBuilder", name := "append", desc := "(Z)Ljava/lang/StringBuilder;" } : Jvm.MethodName) jdk_67_method_13_code (2 : Nat) (Option.some (Jvm.ClassFile.FieldType.object "java/lang/StringBuilder"))).before args0 about1 = true := code_word (m := ⟨8, 2⟩) (meth := k8m2) (c := k8c2) (by decide +kernel) rfl rfl rfl (by decide +kernel)
set_option maxRecDepth 65536 in
theorem w_c36 : (Jvm.Cond.code ({ cls := "java/lang/AbstractStringBuilder", name := "append", desc := "(Z)Ljava/lang/AbstractStringBuilder;" } : Jvm.MethodName) jdk_68_method_30_code (4 : Nat) (Option.some (Jvm.ClassFile.FieldType.object "java/lang/AbstractStringBuilder"))).before args0 about1 = true := code_word (m := ⟨5, 4⟩) (meth := k5m4) (c := k5c4) (by decide +kernel) rfl rfl rfl (by decide +kernel)
set_option maxRecDepth 65536 in
theorem w_c37 : (Jvm.Cond.code ({ cls := "com/example/tenantd/tenantd/server/JsonWriter", name := "object", desc := "()Lcom/example/tenantd/tenantd/server/JsonWriter;" } : Jvm.MethodName) prog_55_method_2_code (1 : Nat) (Option.some (Jvm.ClassFile.FieldType.object "com/example/tenantd/tenantd/server/JsonWriter"))).before args0 about1 = true := code_word (m := ⟨2, 1⟩) (meth := k2m1) (c := k2c1) (by decide +kernel) rfl rfl rfl (by decide +kernel)
set_option maxRecDepth 65536 in
theorem w_c38 : (Jvm.Cond.code ({ cls := "com/example/tenantd/tenantd/server/JsonWriter", name := "endObject", desc := "()Lcom/example/tenantd/tenantd/server/JsonWriter;" } : Jvm.MethodName) prog_55_method_3_code (1 : Nat) (Option.some (Jvm.ClassFile.FieldType.object "com/example/tenantd/tenantd/server/JsonWriter"))).before args0 about1 = true := code_word (m := ⟨2, 2⟩) (meth := k2m2) (c := k2c2) (by decide +kernel) rfl rfl rfl (by decide +kernel)
def codes1 : List Jvm.Cond := [Jvm.Cond.code x code maxLocals ret, Jvm.Cond.code ({ cls := "com/example/tenantd/tenantd/server/JsonWriter", name := "<init>", desc := "()V" } : Jvm.MethodName) prog_55_method_1_code (1 : Nat) (Option.none : Option Jvm.ClassFile.FieldType), Jvm.Cond.code ({ cls := "java/lang/Object", name := "<init>", desc := "()V" } : Jvm.MethodName) object_method_1_code (1 : Nat) (Option.none : Option Jvm.ClassFile.FieldType), Jvm.Cond.code ({ cls := "java/lang/StringBuilder", name := "<init>", desc := "(I)V" } : Jvm.MethodName) jdk_67_method_2_code (2 : Nat) (Option.none : Option Jvm.ClassFile.FieldType), Jvm.Cond.code ({ cls := "java/lang/AbstractStringBuilder", name := "<init>", desc := "(I)V" } : Jvm.MethodName) jdk_68_method_2_code (2 : Nat) (Option.none : Option Jvm.ClassFile.FieldType), Jvm.Cond.code ({ cls := "com/example/tenantd/tenantd/server/JsonWriter", name := "endArray", desc := "()Lcom/example/tenantd/tenantd/server/JsonWriter;" } : Jvm.MethodName) prog_55_method_5_code (1 : Nat) (Option.some (Jvm.ClassFile.FieldType.object "com/example/tenantd/tenantd/server/JsonWriter")), Jvm.Cond.code ({ cls := "java/lang/StringBuilder", name := "append", desc := "(C)Ljava/lang/StringBuilder;" } : Jvm.MethodName) jdk_67_method_14_code (2 : Nat) (Option.some (Jvm.ClassFile.FieldType.object "java/lang/StringBuilder")), Jvm.Cond.code ({ cls := "java/lang/AbstractStringBuilder", name := "append", desc := "(C)Ljava/lang/AbstractStringBuilder;" } : Jvm.MethodName) jdk_68_method_31_code (2 : Nat) (Option.some (Jvm.ClassFile.FieldType.object "java/lang/AbstractStringBuilder")), Jvm.Cond.code ({ cls := "java/lang/AbstractStringBuilder", name := "ensureCapacityInternal", desc := "(I)V" } : Jvm.MethodName) jdk_68_method_9_code (3 : Nat) (Option.none : Option Jvm.ClassFile.FieldType), Jvm.Cond.code ({ cls := "java/lang/AbstractStringBuilder", name := "isLatin1", desc := "()Z" } : Jvm.MethodName) jdk_68_method_68_code (1 : Nat) (Option.some Jvm.ClassFile.FieldType.boolean), Jvm.Cond.code ({ cls := "java/lang/StringLatin1", name := "canEncode", desc := "(C)Z" } : Jvm.MethodName) jdk_43_method_3_code (1 : Nat) (Option.some Jvm.ClassFile.FieldType.boolean), Jvm.Cond.code ({ cls := "com/example/tenantd/tenantd/server/JsonWriter", name := "toString", desc := "()Ljava/lang/String;" } : Jvm.MethodName) prog_55_method_13_code (1 : Nat) (Option.some (Jvm.ClassFile.FieldType.object "java/lang/String")), Jvm.Cond.code ({ cls := "java/lang/StringBuilder", name := "toString", desc := "()Ljava/lang/String;" } : Jvm.MethodName) jdk_67_method_42_code (1 : Nat) (Option.some (Jvm.ClassFile.FieldType.object "java/lang/String")), Jvm.Cond.code ({ cls := "java/lang/String", name := "<init>", desc := "(Ljava/lang/StringBuilder;)V" } : Jvm.MethodName) jdk_42_method_53_code (2 : Nat) (Option.none : Option Jvm.ClassFile.FieldType), Jvm.Cond.code ({ cls := "java/lang/String", name := "<init>", desc := "(Ljava/lang/AbstractStringBuilder;Ljava/lang/Void;)V" } : Jvm.MethodName) jdk_42_method_150_code (5 : Nat) (Option.none : Option Jvm.ClassFile.FieldType), Jvm.Cond.code ({ cls := "java/lang/AbstractStringBuilder", name := "getValue", desc := "()[B" } : Jvm.MethodName) jdk_68_method_64_code (1 : Nat) (Option.some (Jvm.ClassFile.FieldType.array Jvm.ClassFile.FieldType.byte)), Jvm.Cond.code ({ cls := "java/lang/StringBuilder", name := "length", desc := "()I" } : Jvm.MethodName) jdk_67_method_93_code (1 : Nat) (Option.some Jvm.ClassFile.FieldType.int), Jvm.Cond.code ({ cls := "java/lang/AbstractStringBuilder", name := "length", desc := "()I" } : Jvm.MethodName) jdk_68_method_6_code (1 : Nat) (Option.some Jvm.ClassFile.FieldType.int), Jvm.Cond.code ({ cls := "java/util/Arrays", name := "copyOfRange", desc := "([BII)[B" } : Jvm.MethodName) jdk_65_method_132_code (3 : Nat) (Option.some (Jvm.ClassFile.FieldType.array Jvm.ClassFile.FieldType.byte)), Jvm.Cond.code ({ cls := "java/util/Arrays", name := "copyOfRangeByte", desc := "([BII)[B" } : Jvm.MethodName) jdk_65_method_133_code (5 : Nat) (Option.some (Jvm.ClassFile.FieldType.array Jvm.ClassFile.FieldType.byte)), Jvm.Cond.code ({ cls := "java/util/Arrays", name := "checkLength", desc := "(II)V" } : Jvm.MethodName) jdk_65_method_131_code (2 : Nat) (Option.none : Option Jvm.ClassFile.FieldType), Jvm.Cond.code ({ cls := "java/lang/Math", name := "min", desc := "(II)I" } : Jvm.MethodName) jdk_29_method_69_code (2 : Nat) (Option.some Jvm.ClassFile.FieldType.int), Jvm.Cond.code ({ cls := "java/lang/String", name := "equals", desc := "(Ljava/lang/Object;)Z" } : Jvm.MethodName) jdk_42_method_66_code (3 : Nat) (Option.some Jvm.ClassFile.FieldType.boolean), Jvm.Cond.code ({ cls := "java/lang/StringLatin1", name := "equals", desc := "([B[B)Z" } : Jvm.MethodName) jdk_43_method_13_code (3 : Nat) (Option.some Jvm.ClassFile.FieldType.boolean), Jvm.Cond.code ({ cls := "java/lang/String", name := "length", desc := "()I" } : Jvm.MethodName) jdk_42_method_54_code (1 : Nat) (Option.some Jvm.ClassFile.FieldType.int), Jvm.Cond.code ({ cls := "java/lang/String", name := "coder", desc := "()B" } : Jvm.MethodName) jdk_42_method_152_code (1 : Nat) (Option.some Jvm.ClassFile.FieldType.byte), Jvm.Cond.code ({ cls := "com/example/tenantd/tenantd/server/JsonWriter", name := "array", desc := "()Lcom/example/tenantd/tenantd/server/JsonWriter;" } : Jvm.MethodName) prog_55_method_4_code (1 : Nat) (Option.some (Jvm.ClassFile.FieldType.object "com/example/tenantd/tenantd/server/JsonWriter")), Jvm.Cond.code ({ cls := "com/example/tenantd/tenantd/server/JsonWriter", name := "separate", desc := "()V" } : Jvm.MethodName) prog_55_method_14_code (1 : Nat) (Option.none : Option Jvm.ClassFile.FieldType), Jvm.Cond.code ({ cls := "com/example/tenantd/tenantd/server/JsonWriterEndArrayPinLaw", name := "at", desc := "(Ljava/lang/String;IC)Z" } : Jvm.MethodName) method_2_code (3 : Nat) (Option.some Jvm.ClassFile.FieldType.boolean), Jvm.Cond.code ({ cls := "java/lang/String", name := "charAt", desc := "(I)C" } : Jvm.MethodName) jdk_42_method_56_code (2 : Nat) (Option.some Jvm.ClassFile.FieldType.char), Jvm.Cond.code ({ cls := "java/lang/String", name := "isLatin1", desc := "()Z" } : Jvm.MethodName) jdk_42_method_154_code (1 : Nat) (Option.some Jvm.ClassFile.FieldType.boolean), Jvm.Cond.code ({ cls := "java/lang/StringLatin1", name := "charAt", desc := "([BI)C" } : Jvm.MethodName) jdk_43_method_2_code (2 : Nat) (Option.some Jvm.ClassFile.FieldType.char), Jvm.Cond.code ({ cls := "java/lang/String", name := "checkIndex", desc := "(II)V" } : Jvm.MethodName) jdk_42_method_155_code (2 : Nat) (Option.none : Option Jvm.ClassFile.FieldType), Jvm.Cond.code ({ cls := "jdk/internal/util/Preconditions", name := "checkIndex", desc := "(IILjava/util/function/BiFunction;)I" } : Jvm.MethodName) jdk_41_method_11_code (3 : Nat) (Option.some Jvm.ClassFile.FieldType.int), Jvm.Cond.code ({ cls := "com/example/tenantd/tenantd/server/JsonWriter", name := "value", desc := "(Z)Lcom/example/tenantd/tenantd/server/JsonWriter;" } : Jvm.MethodName) prog_55_method_11_code (2 : Nat) (Option.some (Jvm.ClassFile.FieldType.object "com/example/tenantd/tenantd/server/JsonWriter")), Jvm.Cond.code ({ cls := "java/lang/StringBuilder", name := "append", desc := "(Z)Ljava/lang/StringBuilder;" } : Jvm.MethodName) jdk_67_method_13_code (2 : Nat) (Option.some (Jvm.ClassFile.FieldType.object "java/lang/StringBuilder")), Jvm.Cond.code ({ cls := "java/lang/AbstractStringBuilder", name := "append", desc := "(Z)Ljava/lang/AbstractStringBuilder;" } : Jvm.MethodName) jdk_68_method_30_code (4 : Nat) (Option.some (Jvm.ClassFile.FieldType.object "java/lang/AbstractStringBuilder")), Jvm.Cond.code ({ cls := "com/example/tenantd/tenantd/server/JsonWriter", name := "object", desc := "()Lcom/example/tenantd/tenantd/server/JsonWriter;" } : Jvm.MethodName) prog_55_method_2_code (1 : Nat) (Option.some (Jvm.ClassFile.FieldType.object "com/example/tenantd/tenantd/server/JsonWriter")), Jvm.Cond.code ({ cls := "com/example/tenantd/tenantd/server/JsonWriter", name := "endObject", desc := "()Lcom/example/tenantd/tenantd/server/JsonWriter;" } : Jvm.MethodName) prog_55_method_3_code (1 : Nat) (Option.some (Jvm.ClassFile.FieldType.object "com/example/tenantd/tenantd/server/JsonWriter"))]
set_option maxRecDepth 65536 in
theorem codes_eq : words1.filter isCode = codes1 := rfl
theorem w_codes : ∀ c ∈ words1.filter isCode, c.before args0 about1 = true := by
  rw [codes_eq]
  intro c hc
  simp only [codes1, List.mem_cons, List.not_mem_nil, or_false] at hc
  rcases hc with rfl | rfl | rfl | rfl | rfl | rfl | rfl | rfl | rfl | rfl | rfl | rfl | rfl | rfl | rfl | rfl | rfl | rfl | rfl | rfl | rfl | rfl | rfl | rfl | rfl | rfl | rfl | rfl | rfl | rfl | rfl | rfl | rfl | rfl | rfl | rfl | rfl | rfl | rfl
  · exact w_c0
  · exact w_c1
  · exact w_c2
  · exact w_c3
  · exact w_c4
  · exact w_c5
  · exact w_c6
  · exact w_c7
  · exact w_c8
  · exact w_c9
  · exact w_c10
  · exact w_c11
  · exact w_c12
  · exact w_c13
  · exact w_c14
  · exact w_c15
  · exact w_c16
  · exact w_c17
  · exact w_c18
  · exact w_c19
  · exact w_c20
  · exact w_c21
  · exact w_c22
  · exact w_c23
  · exact w_c24
  · exact w_c25
  · exact w_c26
  · exact w_c27
  · exact w_c28
  · exact w_c29
  · exact w_c30
  · exact w_c31
  · exact w_c32
  · exact w_c33
  · exact w_c34
  · exact w_c35
  · exact w_c36
  · exact w_c37
  · exact w_c38
set_option maxRecDepth 65536 in
theorem w_t1 : (words1.take 24).all (fun c => isCode c || c.before args0 about1) = true := by decide +kernel
set_option maxRecDepth 65536 in
theorem w_t2 : ((words1.drop 24).take 24).all (fun c => isCode c || c.before args0 about1) = true := by decide +kernel
set_option maxRecDepth 65536 in
theorem w_t3 : (((words1.drop 24).drop 24).take 24).all (fun c => isCode c || c.before args0 about1) = true := by decide +kernel
set_option maxRecDepth 65536 in
theorem w_t4 : ((((words1.drop 24).drop 24).drop 24).take 24).all (fun c => isCode c || c.before args0 about1) = true := by decide +kernel
set_option maxRecDepth 65536 in
theorem w_t5 : (((((words1.drop 24).drop 24).drop 24).drop 24).take 24).all (fun c => isCode c || c.before args0 about1) = true := by decide +kernel
set_option maxRecDepth 65536 in
theorem w_t6 : ((((((words1.drop 24).drop 24).drop 24).drop 24).drop 24).take 24).all (fun c => isCode c || c.before args0 about1) = true := by decide +kernel
set_option maxRecDepth 65536 in
theorem w_t7 : (((((((words1.drop 24).drop 24).drop 24).drop 24).drop 24).drop 24).take 24).all (fun c => isCode c || c.before args0 about1) = true := by decide +kernel
set_option maxRecDepth 65536 in
theorem w_t8 : ((((((((words1.drop 24).drop 24).drop 24).drop 24).drop 24).drop 24).drop 24).take 24).all (fun c => isCode c || c.before args0 about1) = true := by decide +kernel
set_option maxRecDepth 65536 in
theorem w_t9 : ((((((((words1.drop 24).drop 24).drop 24).drop 24).drop 24).drop 24).drop 24).drop 24).all (fun c => isCode c || c.before args0 about1) = true := by decide +kernel
theorem w_tables : (allAtoms (Jvm.Cond.code x code maxLocals ret :: tables_1)).before args0 about1 = true := by
  rw [allAtoms_all]
  show words1.all (fun c => c.before args0 about1) = true
  refine all_split ?_ w_codes
  rw [← List.take_append_drop 24 words1, List.all_append, w_t1, ← List.take_append_drop 24 (words1.drop 24), List.all_append, w_t2, ← List.take_append_drop 24 ((words1.drop 24).drop 24), List.all_append, w_t3, ← List.take_append_drop 24 (((words1.drop 24).drop 24).drop 24), List.all_append, w_t4, ← List.take_append_drop 24 ((((words1.drop 24).drop 24).drop 24).drop 24), List.all_append, w_t5, ← List.take_append_drop 24 (((((words1.drop 24).drop 24).drop 24).drop 24).drop 24), List.all_append, w_t6, ← List.take_append_drop 24 ((((((words1.drop 24).drop 24).drop 24).drop 24).drop 24).drop 24), List.all_append, w_t7, ← List.take_append_drop 24 (((((((words1.drop 24).drop 24).drop 24).drop 24).drop 24).drop 24).drop 24), List.all_append, w_t8, w_t9]
  rfl
set_option maxRecDepth 65536 in
theorem w_rest : rest_1_c.before args0 about1 = true := by decide +kernel
set_option maxRecDepth 65536 in
theorem w_case : (Jvm.Cond.and given_1 narrow_1).before args0 about1 = true := by decide +kernel
set_option maxRecDepth 65536 in
theorem w_consts : constsHeld consts_1 about1 := Jvm.Lit.constsHeldB_iff.mp (by decide +kernel)
theorem w_applies : (headSpec (Jvm.Cond.code x code maxLocals ret :: tables_1) room_1).applies x e0.platform about1 = true :=
  (Spec.applies_iff w_frames).mpr ⟨w_running, w_runnable, w_alone, w_named, w_hears, w_ripe, w_room, w_tables⟩
theorem atStart : AtStart classFile x code maxLocals ret World_1 tables_1 room_1 Calls_1 rest_1 Pre_1 launch0 p0 e0 about1 theMethod args0 below0 :=
  ⟨lists_1, trivial, launch0.admits_env _ _ _, launch0.least_env, fairChoices_fair.cas, fairChoices_fair.clock, w_frames, w_args, w_heap, w_applies, ⟨w_consts, trivial⟩, w_rest, w_case⟩
end start1
theorem witness_1 : WitnessClaimed_1 := ⟨start1.p0, start1.e0, start1.about1, start1.theMethod, start1.args0, start1.below0, start1.atStart⟩
end Jvm.Pilot.@@N@@
