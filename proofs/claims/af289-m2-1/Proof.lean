import JvmDerived
import JvmDerived.Pilot.@@N@@Statement
import JvmDerived.Pilot.@@N@@Code
set_option linter.unusedVariables false
set_option linter.unusedSimpArgs false
namespace Jvm.RoadKit
open Sem ClassFile Op Lib Jvm.Stand Jvm.Free Jvm.LawKit
section New
variable {p : Program} {l : Launch} {e : Env} {R : Room} {s : State} {m : MethodId} {args : Array Value} {below : List Frame} {meth : Method} {c : Code} {T : State} {locs : List Loc} {cells slots : Nat}
theorem retI (X : Stand p l e R s m args below meth c T locs cells slots) (hx : p.tables.exec = Jvm.exec) {pc : Nat} {Ls : Array Slot} {z : Int32} {rest : List Value} (hret : meth.sig.returnType = some .int) (hd : decode c.code pc = .ok (.ireturn, 1)) {fs : List Frame}
    (hl : ∀ (f : JFrame) (acts : List Action), f.method = m → f.locked = none → f.entered = [] → (doReturn e (T.setTop f) acts (some (.int z))).1 = T.setFrames fs) : Steps p.tables e below (T.setTop (mkF m pc Ls (.int z :: rest))) (T.setFrames fs) := by
  have hm' : T.vm.method? m = some meth := X.method'
  have hn : narrow .int (.int z) = .int z := rfl
  show Steps p.tables e below (T.setTop { method := m, pc := pc, locals := Ls, stack := _ :: rest, locked := none }) _
  jvm_step X.here [X.here.top, hx, hd, hm', hret, hn]
  first | (intro acts; rw [hl _ acts rfl rfl rfl]) | rw [hl _ _ rfl rfl rfl]
  exact Steps.refl _
end New
end Jvm.RoadKit
namespace OwnP
open Jvm Jvm.FP Jvm.FP.Core Jvm.Free.Fl Jvm.RoadKit Jvm.Op Jvm.ClassFile
theorem own_nn64 {x : UInt64} (h : val64 x ≠ .nan) : NoNaN64 x := by
  rw [noNaN64_iff]
  refine Nat.le_of_not_lt fun q => h ((decode_nan (f := b64) x.toNat).mpr ?_)
  exact q
theorem own_qmin : b64.qmin = -1074 := by decide
theorem own_qmax : b64.qmax = 971 := by decide
theorem own_tails : b64.tails = 2 ^ 52 := by decide
theorem own_e9 : val64 4741671816366391296 = .fin false 8388608000000000 (-23) := by decide +kernel
theorem own_two : val64 4611686018427387904 = .fin false (2 ^ 52) (-51) := by decide +kernel
theorem own_p63 : val64 4890909195324358656 = .fin false (2 ^ 52) 11 := by decide +kernel
theorem own_l1 : FP.l2d 1 = Core.dconst1 := by decide +kernel
theorem own_l9 : FP.l2d 1000000000 = 4741671816366391296 := by decide +kernel
/-- a rounded magnitude between two numbers of the format is finite -/
theorem own_fin {s t : Bool} {A B c' : Nat} {e q' : Int} (hB : 0 < B) (hV : fits b64 (.fin t c' q')) (h : zmag b64 (roundRatio b64 s A B e) ≤ zmag b64 (.fin t c' q')) : ∃ c q, roundRatio b64 s A B e = .fin s c q ∧ fits b64 (.fin s c q) := by
  have hf := roundRatio_fits good_b64 s A hB e
  rcases roundRatio_cases b64 s A B e with ⟨c, q, r⟩ | r
  · exact ⟨c, q, r, r ▸ hf⟩
  · exfalso
    have := zmag_lt_top good_b64 hV
    rw [r] at h
    have h' : b64.tails * 2 ^ (b64.exps - 2) ≤ inUnits c' q' b64.qmin := h
    omega
/-- a whole number other than 0, of at most 64 digits, as a double -/
theorem own_long (n : Int64) (hn : n.toInt ≠ 0) : ∃ c q, val64 (FP.l2d n) = .fin (decide (n.toInt < 0)) c q ∧ fits b64 (.fin (decide (n.toInt < 0)) c q) ∧ 2 ^ 1074 ≤ c * 2 ^ (q + 1074).toNat ∧ c * 2 ^ (q + 1074).toNat ≤ 2 ^ 63 * 2 ^ 1074 ∧ (2 ≤ n.toInt → 2 * 2 ^ 1074 ≤ c * 2 ^ (q + 1074).toNat) := by
  have e : val64 (FP.l2d n) = roundRatio b64 (decide (n.toInt < 0)) n.toInt.natAbs 1 0 := val64_l2d n
  have hr := rng64 n
  have hq := own_qmin
  have hV : fits b64 (.fin false (2 ^ 52) 11) := ⟨by decide, by decide, by decide, Or.inr (by decide)⟩
  have hV1 : fits b64 (.fin false (2 ^ 52) (-52)) := ⟨by decide, by decide, by decide, Or.inr (by decide)⟩
  have hV2 : fits b64 (.fin false (2 ^ 52) (-51)) := ⟨by decide, by decide, by decide, Or.inr (by decide)⟩
  have u : inUnits n.toInt.natAbs 0 (-1074) = n.toInt.natAbs * 2 ^ 1074 := rfl
  have z63 : zmag b64 (.fin false (2 ^ 52) 11) = 2 ^ 63 * 2 ^ 1074 := by decide +kernel
  have z1 : zmag b64 (.fin false (2 ^ 52) (-52)) = 2 ^ 1074 := by decide +kernel
  have z2 : zmag b64 (.fin false (2 ^ 52) (-51)) = 2 * 2 ^ 1074 := by decide +kernel
  have hle := zmag_roundRatio_le good_b64 (s := decide (n.toInt < 0)) (A := n.toInt.natAbs) (B := 1) (e := 0) (e0 := -1074) (by decide) hV (by exact Datum.noConfusion) (by omega) (by omega) (by
    rw [u, z63, hq]
    simp only [Int.sub_self, Int.toNat_zero, Nat.pow_zero, Nat.mul_one]
    exact Nat.mul_le_mul_right _ (by omega))
  have hge := zmag_roundRatio_ge good_b64 (s := decide (n.toInt < 0)) (A := n.toInt.natAbs) (B := 1) (e := 0) (e0 := -1074) (by decide) hV1 (by omega) (by omega) (by
    rw [u, z1, hq]
    simp only [Int.sub_self, Int.toNat_zero, Nat.pow_zero, Nat.mul_one]
    exact Nat.le_mul_of_pos_left _ (by omega))
  have hge2 : 2 ≤ n.toInt → zmag b64 (.fin false (2 ^ 52) (-51)) ≤ zmag b64 (roundRatio b64 (decide (n.toInt < 0)) n.toInt.natAbs 1 0) := fun h2 => zmag_roundRatio_ge good_b64 (s := decide (n.toInt < 0)) (A := n.toInt.natAbs) (B := 1) (e := 0) (e0 := -1074) (by decide) hV2 (by omega) (by omega) (by
    rw [u, z2, hq]
    simp only [Int.sub_self, Int.toNat_zero, Nat.pow_zero, Nat.mul_one]
    exact Nat.mul_le_mul_right _ (by omega))
  obtain ⟨c, q, r, hf⟩ := own_fin (by decide) hV hle
  rw [r] at hle hge hge2
  rw [z63] at hle
  rw [z1] at hge
  rw [z2] at hge2
  have w : zmag b64 (.fin (decide (n.toInt < 0)) c q) = c * 2 ^ (q + 1074).toNat := by
    show c * 2 ^ (q - b64.qmin).toNat = _
    rw [hq, show q - -1074 = q + 1074 by omega]
  rw [w] at hle hge hge2
  exact ⟨c, q, e.trans r, hf, hge, hle, hge2⟩
/-- c * 1e9, for c other than 0 -/
theorem own_big (n : Int64) (hn : n.toInt ≠ 0) : ∃ c q, val64 (FP.dmul (FP.l2d n) 4741671816366391296) = .fin (decide (n.toInt < 0)) c q ∧ fits b64 (.fin (decide (n.toInt < 0)) c q) ∧ 2 ^ 1074 ≤ c * 2 ^ (q + 1074).toNat := by
  obtain ⟨c, q, e, hf, h1, h2, -⟩ := own_long n hn
  have hq := own_qmin
  have hs : (decide (n.toInt < 0) != false) = decide (n.toInt < 0) := by cases decide (n.toInt < 0) <;> rfl
  have ev : val64 (FP.dmul (FP.l2d n) 4741671816366391296) = roundRatio b64 (decide (n.toInt < 0)) (c * 8388608000000000) 1 (q + -23) := by
    rw [show FP.dmul (FP.l2d n) 4741671816366391296 = Core.dmul (FP.l2d n) 4741671816366391296 from rfl, val64_dmul, e, own_e9]
    simp only [exactProduct, hs]
    rfl
  have hV : fits b64 (.fin false (2 ^ 52) 48) := ⟨by decide, by decide, by decide, Or.inr (by decide)⟩
  have hV1 : fits b64 (.fin false (2 ^ 52) (-52)) := ⟨by decide, by decide, by decide, Or.inr (by decide)⟩
  have zV : zmag b64 (.fin false (2 ^ 52) 48) = 2 ^ 100 * 2 ^ 1074 := by decide +kernel
  have z1 : zmag b64 (.fin false (2 ^ 52) (-52)) = 2 ^ 1074 := by decide +kernel
  have hqq : -1074 ≤ q := hq ▸ hf.2.1
  have u : inUnits (c * 8388608000000000) (q + -23) (-1097) = c * 2 ^ (q + 1074).toNat * 8388608000000000 := by
    show c * 8388608000000000 * 2 ^ (q + -23 - -1097).toNat = _
    rw [show q + -23 - -1097 = q + 1074 by omega]
    ac_rfl
  have p23 : (2 : Nat) ^ (b64.qmin - -1097).toNat = 8388608 := by decide +kernel
  generalize hm : c * 2 ^ (q + 1074).toNat = m at *
  have hle := zmag_roundRatio_le good_b64 (s := decide (n.toInt < 0)) (A := c * 8388608000000000) (B := 1) (e := q + -23) (e0 := -1097) (by decide) hV (by exact Datum.noConfusion) (by omega) (by omega) (by
    rw [u, zV, p23, Nat.mul_one]
    generalize (2 : Nat) ^ 1074 = P at *
    have : m ≤ 9223372036854775808 * P := h2
    have e1 : (2 : Nat) ^ 100 = 1267650600228229401496703205376 := by decide +kernel
    rw [e1]
    omega)
  have hge := zmag_roundRatio_ge good_b64 (s := decide (n.toInt < 0)) (A := c * 8388608000000000) (B := 1) (e := q + -23) (e0 := -1097) (by decide) hV1 (by omega) (by omega) (by
    rw [u, z1, p23, Nat.mul_one]
    generalize (2 : Nat) ^ 1074 = P at *
    omega)
  obtain ⟨c', q', r, hf'⟩ := own_fin (by decide) hV hle
  rw [r, z1] at hge
  refine ⟨c', q', ev.trans r, hf', ?_⟩
  have w : zmag b64 (.fin (decide (n.toInt < 0)) c' q') = c' * 2 ^ (q' + 1074).toNat := by
    show c' * 2 ^ (q' - b64.qmin).toNat = _
    rw [hq, show q' - -1074 = q' + 1074 by omega]
  rw [w] at hge
  exact hge
theorem own_zm (s : Bool) (c : Nat) (q : Int) : zmag b64 (.fin s c q) = c * 2 ^ (q + 1074).toNat := by
  show c * 2 ^ (q - b64.qmin).toNat = _
  rw [own_qmin, show q - -1074 = q + 1074 by omega]
/-- the quotient of x (one at the least) by n (from 2 to 2^63): between x / 2^63 and x / 2, with x's sign -/
theorem own_div {s : Bool} {cX cN : Nat} {qX qN : Int} (hX : fits b64 (.fin s cX qX)) (hN : fits b64 (.fin false cN qN)) (x1 : 2 ^ 1074 ≤ cX * 2 ^ (qX + 1074).toNat) (n1 : 2 * 2 ^ 1074 ≤ cN * 2 ^ (qN + 1074).toNat) (n2 : cN * 2 ^ (qN + 1074).toNat ≤ 2 ^ 63 * 2 ^ 1074) :
    0 < cN ∧ (∃ c q, roundRatio b64 s cX cN (qX - qN) = .fin s c q ∧ fits b64 (.fin s c q) ∧ 2 * (c * 2 ^ (q + 1074).toNat) ≤ cX * 2 ^ (qX + 1074).toNat ∧ zmag b64 (.fin s cX (qX - 63)) ≤ c * 2 ^ (q + 1074).toNat) ∧ roundRatio b64 s cX (2 ^ 52) (qX - 11) = .fin s cX (qX - 63) ∧ fits b64 (.fin s cX (qX - 63)) := by
  have hq := own_qmin
  have hx := own_qmax
  have ht := own_tails
  obtain ⟨k1, k2, k3, k4⟩ := id hX
  obtain ⟨j1, j2, j3, j4⟩ := id hN
  rw [hq] at k2 j2 k4
  rw [hx] at k3 j3
  have k1' : cX < 2 ^ 53 := k1
  have h0 : 0 < cN := Nat.pos_of_ne_zero fun h => by rw [h, Nat.zero_mul] at n1; have := Nat.two_pow_pos 1074; omega
  obtain ⟨a, rfl⟩ : ∃ a : Nat, qX = (a : Int) - 1074 := ⟨(qX + 1074).toNat, by omega⟩
  obtain ⟨b, rfl⟩ : ∃ b : Nat, qN = (b : Int) - 1074 := ⟨(qN + 1074).toNat, by omega⟩
  rw [show ((a : Int) - 1074 + 1074).toNat = a by omega] at *
  rw [show ((b : Int) - 1074 + 1074).toNat = b by omega] at *
  have ha : 1022 ≤ a := by
    refine Nat.le_of_not_lt fun h => ?_
    have q1 : cX * 2 ^ a < 2 ^ 53 * 2 ^ a := Nat.mul_lt_mul_of_pos_right k1' (Nat.two_pow_pos a)
    have q2 : (2 : Nat) ^ 53 * 2 ^ a = 2 ^ (53 + a) := (Nat.pow_add 2 53 a).symm
    have q3 : (2 : Nat) ^ (53 + a) ≤ 2 ^ 1074 := Nat.pow_le_pow_right (by decide) (by omega)
    omega
  have hn : b64.tails ≤ cX := by
    rcases k4 with k4 | k4
    · omega
    · exact k4
  have hH : fits b64 (.fin s cX ((a : Int) - 1074 - 1)) := ⟨k1, by rw [hq]; omega, by rw [hx]; omega, Or.inr hn⟩
  have hT : fits b64 (.fin s cX ((a : Int) - 1074 - 63)) := ⟨k1, by rw [hq]; omega, by rw [hx]; omega, Or.inr hn⟩
  have zH : zmag b64 (.fin s cX ((a : Int) - 1074 - 1)) = cX * 2 ^ (a - 1) := by rw [own_zm, show ((a : Int) - 1074 - 1 + 1074).toNat = a - 1 by omega]
  have zT : zmag b64 (.fin s cX ((a : Int) - 1074 - 63)) = cX * 2 ^ (a - 63) := by rw [own_zm, show ((a : Int) - 1074 - 63 + 1074).toNat = a - 63 by omega]
  have u : inUnits cX ((a : Int) - 1074 - ((b : Int) - 1074)) (-3074) = cX * 2 ^ (a + 3074 - b) := by
    show cX * 2 ^ ((a : Int) - 1074 - ((b : Int) - 1074) - -3074).toNat = _
    rw [show ((a : Int) - 1074 - ((b : Int) - 1074) - -3074).toNat = a + 3074 - b by omega]
  have p2 : (2 : Nat) ^ (b64.qmin - -3074).toNat = 2 ^ 2000 := by rw [hq]; rfl
  have pb := Nat.two_pow_pos b
  have eL : cX * 2 ^ (a + 3074 - b) * 2 ^ b = cX * 2 ^ (a + 3074) := by rw [Nat.mul_assoc, ← Nat.pow_add, show a + 3074 - b + b = a + 3074 by omega]
  have hle := zmag_roundRatio_le good_b64 (s := s) (A := cX) (B := cN) (e := (a : Int) - 1074 - ((b : Int) - 1074)) (e0 := -3074) h0 hH (by exact Datum.noConfusion) (by omega) (by omega) (by
    rw [u, zH, p2]
    refine Nat.le_of_mul_le_mul_right ?_ pb
    rw [eL]
    calc cX * 2 ^ (a + 3074) = cX * 2 ^ (a - 1) * 2 ^ 2000 * (2 * 2 ^ 1074) := by
          rw [show a + 3074 = (a - 1) + 2000 + (1 + 1074) by omega, Nat.pow_add, Nat.pow_add, Nat.pow_add 2 1 1074, Nat.pow_one]; generalize (2 : Nat) ^ 2000 = P2; generalize (2 : Nat) ^ 1074 = P1; generalize (2 : Nat) ^ 63 = P3; ac_rfl
      _ ≤ cX * 2 ^ (a - 1) * 2 ^ 2000 * (cN * 2 ^ b) := Nat.mul_le_mul_left _ n1
      _ = cX * 2 ^ (a - 1) * 2 ^ 2000 * cN * 2 ^ b := by generalize (2 : Nat) ^ 2000 = P2; generalize (2 : Nat) ^ 1074 = P1; generalize (2 : Nat) ^ 63 = P3; ac_rfl)
  have hge := zmag_roundRatio_ge good_b64 (s := s) (A := cX) (B := cN) (e := (a : Int) - 1074 - ((b : Int) - 1074)) (e0 := -3074) h0 hT (by omega) (by omega) (by
    rw [u, zT, p2]
    refine Nat.le_of_mul_le_mul_right ?_ pb
    rw [eL]
    calc cX * 2 ^ (a - 63) * 2 ^ 2000 * cN * 2 ^ b = cX * 2 ^ (a - 63) * 2 ^ 2000 * (cN * 2 ^ b) := by generalize (2 : Nat) ^ 2000 = P2; generalize (2 : Nat) ^ 1074 = P1; generalize (2 : Nat) ^ 63 = P3; ac_rfl
      _ ≤ cX * 2 ^ (a - 63) * 2 ^ 2000 * (2 ^ 63 * 2 ^ 1074) := Nat.mul_le_mul_left _ n2
      _ = cX * 2 ^ (a + 3074) := by rw [show a + 3074 = (a - 63) + 2000 + (63 + 1074) by omega, Nat.pow_add, Nat.pow_add, Nat.pow_add 2 63 1074]; generalize (2 : Nat) ^ 2000 = P2; generalize (2 : Nat) ^ 1074 = P1; generalize (2 : Nat) ^ 63 = P3; ac_rfl)
  obtain ⟨c, q, r, hf⟩ := own_fin h0 hH hle
  rw [r] at hle hge
  rw [own_zm s c q] at hle hge
  rw [zH] at hle
  refine ⟨h0, ⟨c, q, r, hf, ?_, hge⟩, ?_, hT⟩
  · calc 2 * (c * 2 ^ (q + 1074).toNat) ≤ 2 * (cX * 2 ^ (a - 1)) := Nat.mul_le_mul_left _ hle
      _ = cX * 2 ^ a := by
        rw [show a = (a - 1) + 1 by omega, Nat.pow_succ]
        show 2 * (cX * 2 ^ (a - 1)) = cX * (2 ^ (a - 1) * 2)
        ac_rfl
  · refine roundRatio_exact good_b64 (Nat.two_pow_pos 52) hT ?_
    rw [show ((a : Int) - 1074 - 11 - ((a : Int) - 1074 - 63)).toNat = 52 by omega, show ((a : Int) - 1074 - 63 - ((a : Int) - 1074 - 11)).toNat = 0 by omega, Nat.pow_zero, Nat.mul_one]
theorem own_cmp {x y : UInt64} (hx : val64 x ≠ .nan) (hy : val64 y ≠ .nan) (h : zval b64 (val64 x) ≤ zval b64 (val64 y)) (o : CmpOp) : ¬ (0 : Int32) < cmpValue (FP.dcmp x y) o ∧ ¬ cmpValue (FP.dcmp y x) o < (0 : Int32) := by
  have e1 : FP.dcmp x y = some (compare (zval b64 (val64 x)) (zval b64 (val64 y))) := order_zval good_b64 (val64_fits x) (val64_fits y) hx hy
  have e2 : FP.dcmp y x = some (compare (zval b64 (val64 y)) (zval b64 (val64 x))) := order_zval good_b64 (val64_fits y) (val64_fits x) hy hx
  rw [e1, e2]
  generalize zval b64 (val64 x) = i at *
  generalize zval b64 (val64 y) = j at *
  by_cases q : i = j
  · subst q
    have e : compare i i = .eq := by simp [compare, compareOfLessAndEq]
    rw [e]
    cases o <;> decide
  · have e3 : compare i j = .lt := by show compareOfLessAndEq i j = _; unfold compareOfLessAndEq; rw [if_pos (by omega)]
    have e4 : compare j i = .gt := by show compareOfLessAndEq j i = _; unfold compareOfLessAndEq; rw [if_neg (by omega), if_neg (by omega)]
    rw [e3, e4]
    cases o <;> decide
theorem own_m2 (c n : Int64) (hc : c.toInt ≠ 0) (hn : 2 ≤ n.toInt) (X r d t : UInt64) (eX : FP.dmul (FP.l2d c) 4741671816366391296 = X) (er : FP.ddiv X (FP.l2d n) = r) (ed : FP.dmul r 4611686018427387904 = d) (et : FP.ddiv X 4890909195324358656 = t) :
    (val64 X ≠ .nan ∧ val64 r ≠ .nan ∧ val64 d ≠ .nan ∧ val64 t ≠ .nan) ∧
    (¬ c.toInt < 0 → zval b64 (val64 0) ≤ zval b64 (val64 r) ∧ zval b64 (val64 d) ≤ zval b64 (val64 X) ∧ zval b64 (val64 t) ≤ zval b64 (val64 r)) ∧
    (c.toInt < 0 → zval b64 (val64 r) ≤ zval b64 (val64 0) ∧ zval b64 (val64 X) ≤ zval b64 (val64 d) ∧ zval b64 (val64 r) ≤ zval b64 (val64 t)) := by
  obtain ⟨cX, qX, vX, fX, x1⟩ := own_big c hc
  obtain ⟨cN, qN, vN, fN, -, n2, n1⟩ := own_long n (by omega)
  have hsn : decide (n.toInt < 0) = false := by simp; omega
  rw [hsn] at vN fN
  rw [eX] at vX
  generalize hs : decide (c.toInt < 0) = s at *
  obtain ⟨h0, ⟨cr, qr, vr, fr, r1, r2⟩, vt, ft⟩ := own_div fX fN x1 (n1 hn) n2
  have hsb : (s != false) = s := by cases s <;> rfl
  have vr' : val64 r = .fin s cr qr := by
    rw [← er, show FP.ddiv X (FP.l2d n) = Core.ddiv X (FP.l2d n) from rfl, val64_ddiv, vX, vN]
    simp only [quotient, hsb]
    rw [if_neg (by omega)]
    exact vr
  have vt' : val64 t = .fin s cX (qX - 63) := by
    rw [← et, show FP.ddiv X 4890909195324358656 = Core.ddiv X 4890909195324358656 from rfl, val64_ddiv, vX, own_p63]
    simp only [quotient, hsb]
    rw [if_neg (by decide)]
    exact vt
  have vd' : val64 d = roundRatio b64 s (cr * 2 ^ 52) 1 (qr + -51) := by
    rw [← ed, show FP.dmul r 4611686018427387904 = Core.dmul r 4611686018427387904 from rfl, val64_dmul, vr', own_two]
    simp only [exactProduct, hsb]
    rfl
  have hq := own_qmin
  have zd : zmag b64 (val64 d) ≤ zmag b64 (.fin s cX qX) := by
    rw [vd']
    have hqr : -1074 ≤ qr := hq ▸ fr.2.1
    refine zmag_roundRatio_le good_b64 (e0 := -1125) (by decide) fX (by exact Datum.noConfusion) (by omega) (by omega) ?_
    rw [own_zm, Nat.mul_one, show (2 : Nat) ^ (b64.qmin - -1125).toNat = 2 ^ 51 by decide +kernel]
    show cr * 2 ^ 52 * 2 ^ (qr + -51 - -1125).toNat ≤ _
    rw [show qr + -51 - -1125 = qr + 1074 by omega]
    calc cr * 2 ^ 52 * 2 ^ (qr + 1074).toNat = 2 * (cr * 2 ^ (qr + 1074).toNat) * 2 ^ 51 := by
          rw [show (2 : Nat) ^ 52 = 2 * 2 ^ 51 by decide]; ac_rfl
      _ ≤ cX * 2 ^ (qX + 1074).toNat * 2 ^ 51 := Nat.mul_le_mul_right _ r1
  have nd : val64 d ≠ .nan := by rw [vd']; exact roundRatio_ne_nan _ _ _ _ _
  have sd : sgn (val64 d) = s := by rw [vd']; exact sgn_roundRatio _ _ _ _ _
  refine ⟨⟨by rw [vX]; exact Datum.noConfusion, by rw [vr']; exact Datum.noConfusion, nd, by rw [vt']; exact Datum.noConfusion⟩, ?_, ?_⟩
  · intro hp
    have e : s = false := by rw [← hs]; simp; omega
    subst e
    have z0 : zval b64 (val64 0) = 0 := by decide +kernel
    have za : zval b64 (val64 d) = (zmag b64 (val64 d) : Int) := by unfold zval; rw [sd]; rfl
    rw [z0, za, vr', vt', vX]
    show (0 : Int) ≤ ((zmag b64 (.fin false cr qr) : Nat) : Int) ∧ ((zmag b64 (val64 d) : Nat) : Int) ≤ ((zmag b64 (.fin false cX qX) : Nat) : Int) ∧ ((zmag b64 (.fin false cX (qX - 63)) : Nat) : Int) ≤ ((zmag b64 (.fin false cr qr) : Nat) : Int)
    rw [← own_zm false cr qr] at r2
    omega
  · intro hp
    have e : s = true := by rw [← hs]; simp; omega
    subst e
    have z0 : zval b64 (val64 0) = 0 := by decide +kernel
    have za : zval b64 (val64 d) = -(zmag b64 (val64 d) : Int) := by unfold zval; rw [sd]; rfl
    rw [z0, za, vr', vt', vX]
    show -((zmag b64 (.fin true cr qr) : Nat) : Int) ≤ 0 ∧ -((zmag b64 (.fin true cX qX) : Nat) : Int) ≤ -((zmag b64 (val64 d) : Nat) : Int) ∧ -((zmag b64 (.fin true cr qr) : Nat) : Int) ≤ -((zmag b64 (.fin true cX (qX - 63)) : Nat) : Int)
    rw [← own_zm true cr qr] at r2
    omega
/-- c = 0 -/
theorem own_z (n : Int64) (hn : n.toInt ≠ 0) (hp : ¬ n.toInt < 0) : FP.ddiv 0 (FP.l2d n) = 0 := by
  obtain ⟨cN, qN, vN, fN, n1, -⟩ := own_long n hn
  have hsn : decide (n.toInt < 0) = false := by simp; omega
  rw [hsn] at vN fN
  have h0 : ¬ cN = 0 := fun h => by rw [h, Nat.zero_mul] at n1; have := Nat.two_pow_pos 1074; omega
  have v0 : val64 0 = .fin false 0 (-1074) := by decide +kernel
  refine (val64_inj (by rw [v0]; exact Datum.noConfusion) ?_).symm
  rw [show FP.ddiv 0 (FP.l2d n) = Core.ddiv 0 (FP.l2d n) from rfl, val64_ddiv, v0, vN]
  simp only [quotient]
  rw [if_neg h0]
  show _ = roundRatio b64 false 0 cN _
  unfold roundRatio
  rw [if_pos rfl, own_qmin]
theorem own_nr (c n : Int64) (hn : n.toInt ≠ 0) (hp : ¬ n.toInt < 0) : NoNaN64 (FP.dmul (FP.l2d c) 4741671816366391296) ∧ NoNaN64 (FP.ddiv (FP.dmul (FP.l2d c) 4741671816366391296) (FP.l2d n)) := by
  by_cases hc : c.toInt = 0
  · have e : c = 0 := Int64.toInt_inj.mp (by rw [hc]; decide)
    subst e
    have e0 : FP.dmul (FP.l2d 0) 4741671816366391296 = 0 := by decide +kernel
    rw [e0, own_z n hn hp]
    exact ⟨own_nn64 (by decide +kernel), own_nn64 (by decide +kernel)⟩
  · obtain ⟨cX, qX, vX, fX, x1⟩ := own_big c hc
    obtain ⟨cN, qN, vN, fN, n1, -⟩ := own_long n hn
    have h0 : ¬ cN = 0 := fun h => by rw [h, Nat.zero_mul] at n1; have := Nat.two_pow_pos 1074; omega
    refine ⟨own_nn64 (by rw [vX]; exact Datum.noConfusion), own_nn64 ?_⟩
    rw [show FP.ddiv (FP.dmul (FP.l2d c) 4741671816366391296) (FP.l2d n) = Core.ddiv (FP.dmul (FP.l2d c) 4741671816366391296) (FP.l2d n) from rfl, val64_ddiv, vX, vN]
    simp only [quotient]
    rw [if_neg h0]
    exact roundRatio_ne_nan _ _ _ _ _
theorem own_whole (i : Int64) (h : i.toInt.natAbs ≤ 2 ^ 53) : ∃ c q, val64 (FP.l2d i) = .fin (decide (i.toInt < 0)) c q ∧ fits b64 (.fin (decide (i.toInt < 0)) c q) ∧ c * 2 ^ (q + 2000).toNat = i.toInt.natAbs * 2 ^ 2000 := by
  have e : val64 (FP.l2d i) = roundRatio b64 (decide (i.toInt < 0)) i.toInt.natAbs 1 0 := val64_l2d i
  have hW : Whole i.toInt (val64 (FP.l2d i)) := by
    rw [show val64 (FP.l2d i) = round b64 (ofInt i.toInt) from val64_l2d i]
    exact whole_round good_b64 wide_b64 h (whole_ofInt _)
  have hf := val64_fits (FP.l2d i)
  rcases roundRatio_cases b64 (decide (i.toInt < 0)) i.toInt.natAbs 1 0 with ⟨c, q, r⟩ | r
  · rw [e, r] at hW hf
    refine ⟨c, q, e.trans r, hf, ?_⟩
    have h1 := whole_natAbs hW
    have hq : -1074 ≤ q := own_qmin ▸ hf.2.1
    have e1 : (q + 2000).toNat = q.toNat + (2000 - (-q).toNat) := by omega
    have e2 : 2000 = (-q).toNat + (2000 - (-q).toNat) := by omega
    calc c * 2 ^ (q + 2000).toNat = c * 2 ^ q.toNat * 2 ^ (2000 - (-q).toNat) := by rw [e1, Nat.pow_add, Nat.mul_assoc]
      _ = i.toInt.natAbs * 2 ^ (-q).toNat * 2 ^ (2000 - (-q).toNat) := by rw [h1]
      _ = i.toInt.natAbs * 2 ^ 2000 := by rw [Nat.mul_assoc, ← Nat.pow_add, ← e2]
  · rw [e, r] at hW
    exact hW.elim
theorem own_exact {cA cD cn A D n : Nat} {qA qD qn : Int} (gA : -1074 ≤ qA) (gD : -1074 ≤ qD) (gn : -1074 ≤ qn) (h : A = D * n) (eA : cA * 2 ^ (qA + 2000).toNat = A * 2 ^ 2000) (eD : cD * 2 ^ (qD + 2000).toNat = D * 2 ^ 2000) (en : cn * 2 ^ (qn + 2000).toNat = n * 2 ^ 2000) :
    cA * 2 ^ ((qA - qn) - qD).toNat = cD * cn * 2 ^ (qD - (qA - qn)).toNat := by
  obtain ⟨a, rfl⟩ : ∃ a : Nat, qA = (a : Int) - 2000 := ⟨(qA + 2000).toNat, by omega⟩
  obtain ⟨d, rfl⟩ : ∃ a : Nat, qD = (a : Int) - 2000 := ⟨(qD + 2000).toNat, by omega⟩
  obtain ⟨b, rfl⟩ : ∃ a : Nat, qn = (a : Int) - 2000 := ⟨(qn + 2000).toNat, by omega⟩
  rw [show ((a : Int) - 2000 + 2000).toNat = a by omega] at eA
  rw [show ((d : Int) - 2000 + 2000).toNat = d by omega] at eD
  rw [show ((b : Int) - 2000 + 2000).toNat = b by omega] at en
  generalize h1 : ((a : Int) - 2000 - ((b : Int) - 2000) - ((d : Int) - 2000)).toNat = e1
  generalize h2 : ((d : Int) - 2000 - ((a : Int) - 2000 - ((b : Int) - 2000))).toNat = e2
  refine Nat.eq_of_mul_eq_mul_right (Nat.two_pow_pos (b + d)) ?_
  have ee : e1 + (b + d) = e2 + a + 2000 := by omega
  have l1 : cA * 2 ^ e1 * 2 ^ (b + d) = (cA * 2 ^ a) * 2 ^ e2 * 2 ^ 2000 := by
    rw [Nat.mul_assoc, ← Nat.pow_add, ee, Nat.pow_add, Nat.pow_add]
    generalize (2 : Nat) ^ 2000 = P
    ac_rfl
  have l2 : cD * cn * 2 ^ e2 * 2 ^ (b + d) = (cD * 2 ^ d) * (cn * 2 ^ b) * 2 ^ e2 := by
    rw [Nat.pow_add]
    ac_rfl
  rw [l1, l2, eA, eD, en, h]
  generalize (2 : Nat) ^ 2000 = P
  ac_rfl
theorem own_m1 (k n q : Int64) (k1 : -9000000 ≤ k.toInt) (k2 : k.toInt ≤ 9000000) (n1 : 1 ≤ n.toInt) (n2 : n.toInt ≤ 1000000000) (hq : q.toInt * n.toInt = 1000000000) : FP.ddiv (FP.dmul (FP.l2d k) 4741671816366391296) (FP.l2d n) = FP.l2d (k * q) ∧ val64 (FP.l2d (k * q)) ≠ .nan := by
  have q1 : 1 ≤ q.toInt := by
    refine Int.not_lt.mp fun h => ?_
    have : q.toInt * n.toInt ≤ 0 := Int.mul_nonpos_of_nonpos_of_nonneg (by omega) (by omega)
    omega
  have q2 : q.toInt ≤ 1000000000 := by
    refine Int.not_lt.mp fun h => ?_
    have : q.toInt * 1 ≤ q.toInt * n.toInt := Int.mul_le_mul_of_nonneg_left n1 (by omega)
    omega
  have e9 : ((1000000000 : Int64)).toInt = 1000000000 := by decide
  have eX : FP.dmul (FP.l2d k) 4741671816366391296 = FP.l2d (k * 1000000000) := by
    rw [← own_l9]
    exact dmul_k (A := 9000000) (B := 1000000000) (by omega) (by omega) (by omega) (by omega) (by decide) (by decide) (by decide) (fun h => absurd h.2 (by decide)) (fun h => absurd h.1 (by decide))
  have mA := c_lmul k 1000000000
  have rA := rng64 (k * 1000000000)
  have mD := c_lmul k q
  have rD := rng64 (k * q)
  rw [e9] at mA
  have hA : (k * 1000000000).toInt = k.toInt * 1000000000 := by omega
  have bD : -9000000000000000 ≤ k.toInt * q.toInt ∧ k.toInt * q.toInt ≤ 9000000000000000 := by
    have a1 : k.toInt * q.toInt ≤ 9000000 * q.toInt := Int.mul_le_mul_of_nonneg_right k2 (by omega)
    have a2 : -9000000 * q.toInt ≤ k.toInt * q.toInt := Int.mul_le_mul_of_nonneg_right k1 (by omega)
    omega
  have hD : (k * q).toInt = k.toInt * q.toInt := by
    generalize k.toInt * q.toInt = u at *
    omega
  have hAD : (k * 1000000000).toInt = (k * q).toInt * n.toInt := by rw [hA, hD, Int.mul_assoc, hq]
  have p53 : (2 : Nat) ^ 53 = 9007199254740992 := by decide
  obtain ⟨cA, qA, vA, fA, eA⟩ := own_whole (k * 1000000000) (by rw [hA, p53]; omega)
  obtain ⟨cD, qD, vD, fD, eD⟩ := own_whole (k * q) (by rw [hD, p53]; omega)
  obtain ⟨cn, qn, vn, fn, en⟩ := own_whole n (by rw [p53]; omega)
  have hq0 := own_qmin
  have hsn : decide (n.toInt < 0) = false := by simp; omega
  have hsA : decide ((k * 1000000000).toInt < 0) = decide ((k * q).toInt < 0) := by
    rw [hA, hD]
    have : k.toInt * q.toInt < 0 ↔ k.toInt < 0 := by
      constructor
      · intro h
        refine Int.not_le.mp fun h2 => ?_
        have := Int.mul_nonneg h2 (show 0 ≤ q.toInt by omega)
        omega
      · intro h
        exact Int.mul_neg_of_neg_of_pos h (by omega)
    simp only [this]
    congr 1
    simp
    omega
  have hcn : ¬ cn = 0 := fun h => by
    rw [h, Nat.zero_mul] at en
    have := Nat.two_pow_pos 2000
    rcases Nat.mul_eq_zero.mp en.symm with h | h <;> omega
  have nn : val64 (FP.l2d (k * q)) ≠ .nan := by rw [vD]; exact Datum.noConfusion
  refine ⟨?_, nn⟩
  rw [eX]
  refine (val64_inj nn ?_).symm
  rw [show FP.ddiv (FP.l2d (k * 1000000000)) (FP.l2d n) = Core.ddiv (FP.l2d (k * 1000000000)) (FP.l2d n) from rfl, val64_ddiv, vA, vn, vD]
  simp only [quotient, hsn, hsA]
  rw [if_neg hcn]
  have hb : ∀ s : Bool, (s != false) = s := by decide
  rw [hb]
  symm
  refine roundRatio_exact good_b64 (Nat.pos_of_ne_zero hcn) fD ?_
  exact own_exact (hq0 ▸ fA.2.1) (hq0 ▸ fD.2.1) (hq0 ▸ fn.2.1) (by rw [hAD, Int.natAbs_mul]) eA eD en
theorem own_n : ∀ i ∈ ([0, 1, 2, 3, 4, 5, 6, 7, 8, 9] : List Int32), ∀ P ∈ ([1, 5, 25, 125, 625, 3125, 15625, 78125, 390625, 1953125] : List Int64), 1 ≤ (((1 : Int64) <<< (i &&& 0x3f).toInt64) * P).toInt ∧ (((1 : Int64) <<< (i &&& 0x3f).toInt64) * P).toInt ≤ 1000000000 ∧ ((1000000000 : Int64) / (((1 : Int64) <<< (i &&& 0x3f).toInt64) * P)).toInt * (((1 : Int64) <<< (i &&& 0x3f).toInt64) * P).toInt = 1000000000 := by decide +kernel
theorem own_k (c : Int64) : -9000000 ≤ (c - (c / 9000000) * 9000000).toInt ∧ (c - (c / 9000000) * 9000000).toInt ≤ 9000000 := by
  have h := c_lrem c 9000000 9000000 (by decide)
  by_cases q : 0 ≤ c.toInt
  · have := h.1 q
    omega
  · have := h.2 (by omega)
    omega
theorem own_or2 (x : Int64) : 2 ≤ ((x &&& (9223372036854775807 : Int64)) ||| (2 : Int64)).toInt := by
  have h : ∀ y : BitVec 64, ((y &&& 9223372036854775807#64) ||| 2#64).toInt ≥ 2 := by
    intro y
    have h1 : ((y &&& 9223372036854775807#64) ||| 2#64).msb = false := by
      simp [BitVec.msb_or, BitVec.msb_and]
      exact ⟨fun _ => by decide, by decide⟩
    rw [BitVec.toInt_eq_toNat_of_msb h1, BitVec.toNat_or]
    have : 2 ≤ (y &&& 9223372036854775807#64).toNat ||| (2#64).toNat := Nat.right_le_or
    omega
  exact h x.toBitVec
theorem own_nx (c : Int64) : val64 (FP.dmul (FP.l2d c) 4741671816366391296) ≠ .nan := by
  by_cases hc : c.toInt = 0
  · have e : c = 0 := Int64.toInt_inj.mp (by rw [hc]; decide)
    subst e
    decide +kernel
  · obtain ⟨cX, qX, vX, fX, x1⟩ := own_big c hc
    rw [vX]
    exact Datum.noConfusion
theorem own_m0 (c : Int64) : FP.ddiv (FP.dmul (FP.l2d c) 4741671816366391296) (FP.l2d 1) = FP.dmul (FP.l2d c) 4741671816366391296 := by
  rw [own_l1]
  exact Core.ddiv_one (own_nx c)
theorem own_m2f (c n : Int64) (hn : 2 ≤ n.toInt) (X R : UInt64) (eX : FP.dmul (FP.l2d c) 4741671816366391296 = X) (eR : FP.ddiv X (FP.l2d n) = R) :
    (NoNaN64 (FP.dmul R 4611686018427387904) ∧ NoNaN64 (FP.ddiv X 4890909195324358656)) ∧
    (¬ c < 0 → ¬ (0 : Int32) < cmpValue (FP.dcmp 0 R) .g ∧ ¬ (0 : Int32) < cmpValue (FP.dcmp (FP.dmul R 4611686018427387904) X) .g ∧ ¬ cmpValue (FP.dcmp R (FP.ddiv X 4890909195324358656)) .l < (0 : Int32)) ∧
    (c < 0 → ¬ (0 : Int32) < cmpValue (FP.dcmp R 0) .g ∧ ¬ cmpValue (FP.dcmp (FP.dmul R 4611686018427387904) X) .l < (0 : Int32) ∧ ¬ (0 : Int32) < cmpValue (FP.dcmp R (FP.ddiv X 4890909195324358656)) .g) := by
  have z : ((0 : Int64)).toInt = 0 := by decide
  have v0 : val64 0 ≠ .nan := by decide +kernel
  by_cases hc : c.toInt = 0
  · have e : c = 0 := Int64.toInt_inj.mp (by rw [hc]; decide)
    subst e
    have e0 : X = 0 := by rw [← eX]; decide +kernel
    subst e0
    have e1 : R = 0 := by rw [← eR]; exact own_z n (by omega) (by omega)
    subst e1
    have a1 : FP.dmul 0 4611686018427387904 = 0 := by decide +kernel
    have a2 : FP.ddiv 0 4890909195324358656 = 0 := by decide +kernel
    rw [a1, a2]
    have h := fun o => own_cmp v0 v0 (Int.le_refl _) o
    exact ⟨⟨own_nn64 v0, own_nn64 v0⟩, fun _ => ⟨(h .g).1, (h .g).1, (h .l).2⟩, fun q => absurd q (by decide)⟩
  · obtain ⟨⟨nX, nr, nd, nt⟩, p1, p2⟩ := own_m2 c n hc hn X R _ _ eX eR rfl rfl
    refine ⟨⟨own_nn64 nd, own_nn64 nt⟩, fun h => ?_, fun h => ?_⟩
    · rw [Int64.lt_iff_toInt_lt, z] at h
      obtain ⟨g1, g2, g3⟩ := p1 h
      exact ⟨(own_cmp v0 nr g1 .g).1, (own_cmp nd nX g2 .g).1, (own_cmp nt nr g3 .l).2⟩
    · rw [Int64.lt_iff_toInt_lt, z] at h
      obtain ⟨g1, g2, g3⟩ := p2 h
      exact ⟨(own_cmp nr v0 g1 .g).1, (own_cmp nX nd g2 .l).2, (own_cmp nr nt g3 .g).1⟩
theorem own_mx (n : Int64) : (if n < (1 : Int64) then (1 : Int64) else n).toInt ≠ 0 ∧ ¬ (if n < (1 : Int64) then (1 : Int64) else n).toInt < 0 := by
  have z : ((1 : Int64)).toInt = 1 := by decide
  by_cases h : n < (1 : Int64)
  · rw [if_pos h, z]; decide
  · rw [if_neg h]; rw [Int64.lt_iff_toInt_lt, z] at h; omega
theorem own_t1 (t : Int64) (h : t.toInt ≤ 1) : (if t < (1 : Int64) then (1 : Int64) else t) = 1 := by
  have z : ((1 : Int64)).toInt = 1 := by decide
  by_cases q : t < (1 : Int64)
  · rw [if_pos q]
  · rw [if_neg q]; rw [Int64.lt_iff_toInt_lt, z] at q; exact Int64.toInt_inj.mp (by omega)
theorem own_t2 (t : Int64) (h : 1 ≤ t.toInt) : (if t < (1 : Int64) then (1 : Int64) else t) = t := by
  have z : ((1 : Int64)).toInt = 1 := by decide
  rw [if_neg (fun q => by rw [Int64.lt_iff_toInt_lt, z] at q; omega)]
theorem own_ng (t : Int64) (h : (1 : Int64) < t) : (-t).toInt ≤ 1 := by
  have z : ((1 : Int64)).toInt = 1 := by decide
  rw [Int64.lt_iff_toInt_lt, z] at h
  have h1 := c_lneg t
  have h2 := rng64 t
  have h3 := rng64 (-t)
  omega
theorem own_nl (t : Int64) (h : ¬ (1 : Int64) < t) : t.toInt ≤ 1 := by
  have z : ((1 : Int64)).toInt = 1 := by decide
  rw [Int64.lt_iff_toInt_lt, z] at h
  omega
theorem own_m10 (x : Int32) : ∃ j : Nat, j < 10 ∧ (x &&& (2147483647 : Int32)) % (10 : Int32) = Int32.ofNat j := by
  have h := c_mask x (2147483647 : Int32) 31 (by decide) (by decide)
  have h2 := (c_irem (x &&& (2147483647 : Int32)) (10 : Int32) 10 (by decide)).1 (by rw [h]; omega)
  refine ⟨((x &&& (2147483647 : Int32)) % (10 : Int32)).toInt.toNat, by omega, Int32.toInt_inj.mp ?_⟩
  rw [Int32.toInt_ofNat_of_lt (by omega)]
  omega
theorem own_m3 (x : Int32) : (x &&& (2147483647 : Int32)) % (3 : Int32) = 0 ∨ (x &&& (2147483647 : Int32)) % (3 : Int32) = 1 ∨ (x &&& (2147483647 : Int32)) % (3 : Int32) = 2 := by
  have h := c_mask x (2147483647 : Int32) 31 (by decide) (by decide)
  have h2 := (c_irem (x &&& (2147483647 : Int32)) (3 : Int32) 3 (by decide)).1 (by rw [h]; omega)
  have k : ∀ q : Int32, (((x &&& (2147483647 : Int32)) % (3 : Int32)).toInt = q.toInt) → (x &&& (2147483647 : Int32)) % (3 : Int32) = q := fun q e => Int32.toInt_inj.mp e
  have t0 := k 0
  have t1 := k 1
  have t2 := k 2
  rw [show (0 : Int32).toInt = 0 by decide] at t0
  rw [show (1 : Int32).toInt = 1 by decide] at t1
  rw [show (2 : Int32).toInt = 2 by decide] at t2
  generalize ((x &&& (2147483647 : Int32)) % (3 : Int32)).toInt = u at *
  rcases (by omega : u = 0 ∨ u = 1 ∨ u = 2) with r | r | r
  · exact Or.inl (t0 r)
  · exact Or.inr (Or.inl (t1 r))
  · exact Or.inr (Or.inr (t2 r))
def pf (i : Nat) : Int64 := ([1, 5, 25, 125, 625, 3125, 15625, 78125, 390625, 1953125] : List Int64).getD i 0
theorem own_nn10 (i j : Nat) (hi : i < 10) (hj : j < 10) : 1 ≤ (((1 : Int64) <<< ((Int32.ofNat i) &&& 0x3f).toInt64) * pf j).toInt ∧ (((1 : Int64) <<< ((Int32.ofNat i) &&& 0x3f).toInt64) * pf j).toInt ≤ 1000000000 ∧ ((1000000000 : Int64) / (((1 : Int64) <<< ((Int32.ofNat i) &&& 0x3f).toInt64) * pf j)).toInt * (((1 : Int64) <<< ((Int32.ofNat i) &&& 0x3f).toInt64) * pf j).toInt = 1000000000 := by
  have a : ∀ i, i < 10 → Int32.ofNat i ∈ ([0, 1, 2, 3, 4, 5, 6, 7, 8, 9] : List Int32) := by decide
  have b : ∀ j, j < 10 → pf j ∈ ([1, 5, 25, 125, 625, 3125, 15625, 78125, 390625, 1953125] : List Int64) := by decide
  exact own_n _ (a i hi) _ (b j hj)
end OwnP
namespace Jvm.Pilot.@@N@@
open Jvm Jvm.ClassFile Sem Op Lib Jvm.Free Jvm.Stand Jvm.LawKit Jvm.RoadKit Bundle Jvm.Pilot.@@N@@.Jvm.D
/-- from the state F the walk ends as Q says (what it returns, the heap, the places written) -/
def Ends (p : Program) (e : Env) (below : List Frame) (s : State) (R : Room) (Q : Option Value → Heap → List Loc → Prop) (F : State) : Prop :=
  ∃ t o, Steps p.tables e below F t ∧ t.status = .running ∧ Ended t below o ∧ ∃ v L, o = .returned v ∧ Q v t.heap L ∧ FrameEnd s o t L R.cells R.slots
theorem Ends.of {p : Program} {e : Env} {below : List Frame} {s : State} {R : Room} {Q : Option Value → Heap → List Loc → Prop} {F F' : State} (h : ∀ t, Steps p.tables e below F' t → Steps p.tables e below F t) (k : Ends p e below s R Q F') : Ends p e below s R Q F := by
  obtain ⟨t, o, h1, r⟩ := k
  exact ⟨t, o, h t h1, r⟩
theorem Ends.st {p : Program} {e : Env} {below : List Frame} {s : State} {R : Room} {Q : Option Value → Heap → List Loc → Prop} {F F' : State} (h : Steps p.tables e below F F') (k : Ends p e below s R Q F') : Ends p e below s R Q F := Ends.of (fun _ q => h.trans q) k
theorem own_toInt {n : Nat} (h : n ≤ 100000) : (Int32.ofNat n).toInt = n := Int32.toInt_ofNat_of_lt (by omega)
theorem own_clamp {n : Nat} (h : n ≤ 100000) : (Int32.ofNat n).toNatClampNeg = n := by
  have e : (Int32.ofNat n).toNatClampNeg = (Int32.ofNat n).toInt.toNat := rfl
  rw [e, own_toInt h]
  omega
theorem own_nn {n : Nat} (h : n ≤ 100000) : ¬ Int32.ofNat n < (0 : Int32) := by
  rw [Int32.lt_iff_toInt_lt, own_toInt h]
  have : ((0 : Int32)).toInt = 0 := by decide
  omega
theorem own_hin {c : Cell} {n i : Nat} {q : Int32} (S : c.slots.size = n) (e : q = Int32.ofNat i) (hi : i < n) (hn : n ≤ 100000) : ¬ (q < 0 ∨ c.slots.size ≤ q.toNatClampNeg) := by
  subst e
  rw [own_clamp (by omega), S]
  intro h
  exact h.elim (own_nn (by omega)) (by omega)
open OwnP Jvm.Free.Fl
theorem own_mvC {Z s : State} {a0 args : Array Value} {C : String} {i : Nat} {b : UInt64} (hZ : Z.Warmed39 s.vm) (h : (Jvm.Cond.constantDouble C i b).before a0 Z = true) : (Jvm.Cond.constantDouble C i b).before args s = true := by
  have h1 : (Jvm.Cond.constantDouble C i b).before a0 (Z.setVm s.vm) = true := (Cond.constantDouble_setVm hZ.alike _ _ _).trans h
  exact h1
theorem own_rgL (n : Nat) (f : Nat → Int64) (i : Nat) (hi : i < n) (d : Value) : ((List.range n).map fun i => Value.long (f i)).getD i d = .long (f i) := by
  simp [List.getD_eq_getElem?_getD, hi]
theorem own_rgL0 (n : Nat) (i : Nat) : ((List.range n).map fun _ => Value.long (0 : Int64)).getD i (.long 0) = .long 0 := by
  by_cases hi : i < n
  · simp [List.getD_eq_getElem?_getD, hi]
  · simp [List.getD_eq_getElem?_getD, hi]
theorem own_setL (n : Nat) (f : Nat → Int64) (i : Nat) (x : Int64) : ((List.range n).map fun j => Value.long (f j)).set i (.long x) = (List.range n).map fun j => Value.long (if j = i then x else f j) := by
  apply List.ext_getElem
  · simp
  · intro m h1 h2
    simp only [List.getElem_set, List.getElem_map, List.getElem_range]
    by_cases e : i = m
    · rw [if_pos e, if_pos e.symm]
    · rw [if_neg e, if_neg (fun q => e q.symm)]
/-- an array of n longs that hold f -/
def AryL (Z : State) (h : Heap) (a : Addr) (n : Nat) (f : Nat → Int64) : Prop := n ≤ 100000 ∧ ∃ k, Arv Z h a k .long (Int32.ofNat n) ((List.range n).map fun i => Value.long (f i)) (.long 0)
theorem AryL.new {Z : State} {h : Heap} {a : Addr} {k : ClassId} {n : Nat} (A : Arr Z h a (newA k .long (Int32.ofNat n)) .long) (hn : n ≤ 100000) : AryL Z h a n (fun _ => 0) := by
  have V := Arv.new A (own_nn hn)
  rw [show defaultValue .long = .long 0 from rfl] at V
  exact ⟨hn, k, V.pad (fun i => by rw [own_rgL0]; rfl)⟩
theorem AryL.congr {Z : State} {h : Heap} {a : Addr} {n : Nat} {f g : Nat → Int64} (F : AryL Z h a n f) (e : ∀ i, i < n → f i = g i) : AryL Z h a n g := by
  obtain ⟨hn, k, V⟩ := F
  have q : ((List.range n).map fun i => Value.long (f i)) = (List.range n).map fun i => Value.long (g i) := List.map_congr_left fun i hi => by rw [e i (List.mem_range.mp hi)]
  exact ⟨hn, k, q ▸ V⟩
theorem AryL.op {Z : State} {h : Heap} {a : Addr} {n : Nat} {f : Nat → Int64} (F : AryL Z h a n f) : ∃ c : Cell, Arr Z h a c .long ∧ c.slots.size = n ∧ (∀ i, i < n → c.slots[i]? = some (.long (f i))) ∧
    ∀ (h' : Heap) (q : Int32) (x : Int64) (i : Nat), Wr h h' a q.toNatClampNeg (.long x) → q.toNatClampNeg = i → i < n → AryL Z h' a n (fun j => if j = i then x else f j) := by
  obtain ⟨hn, k, c, A, q, S, N, H, G⟩ := F
  have S' : c.slots.size = n := by rw [S, own_clamp hn]
  refine ⟨c, A, S', fun i hi => ?_, fun h' q' x i W hq hi => ⟨hn, k, ?_⟩⟩
  · rw [H i (by rw [S']; exact hi), own_rgL n f i hi]
  · have V := Arv.set A q S N H G (v := .long x) rfl W i hq (by simp; exact hi)
    rw [own_setL] at V
    exact V
theorem own_hatL {c : Cell} {n i : Nat} {q : Int32} {f : Nat → Int64} (H : ∀ i, i < n → c.slots[i]? = some (.long (f i))) (e : q = Int32.ofNat i) (hi : i < n) (hn : n ≤ 100000) : c.slots[q.toNatClampNeg]? = some (.long (f i)) := by
  subst e
  rw [own_clamp (by omega)]
  exact H i hi
theorem pd_0 : parseMethodDescriptor "(JJ)Lcom/example/coordinant/coordinant/tool/Bank$RunCounts;" = some ⟨[.long, .long], some (.object "com/example/coordinant/coordinant/tool/Bank$RunCounts")⟩ := by decide +kernel
theorem pd_1 : parseMethodDescriptor "(JJJJJJJ)V" = some ⟨[.long, .long, .long, .long, .long, .long, .long], none⟩ := by decide +kernel
theorem pd_2 : parseMethodDescriptor "()V" = some ⟨[], none⟩ := by decide +kernel
theorem pd_3 : parseMethodDescriptor "()D" = some ⟨[], some .double⟩ := by decide +kernel
theorem pd_4 : parseMethodDescriptor "(JJ)J" = some ⟨[.long, .long], some .long⟩ := by decide +kernel
theorem d6_0 : decode jdk_29_method_66_code 0 = .ok (.lload_n 0, 1) := by decide +kernel
theorem d6_1 : decode jdk_29_method_66_code 1 = .ok (.lload_n 2, 1) := by decide +kernel
theorem d6_2 : decode jdk_29_method_66_code 2 = .ok (.lcmp, 1) := by decide +kernel
theorem d6_3 : decode jdk_29_method_66_code 3 = .ok (.ifCond .lt 7, 3) := by decide +kernel
theorem d6_6 : decode jdk_29_method_66_code 6 = .ok (.lload_n 0, 1) := by decide +kernel
theorem d6_7 : decode jdk_29_method_66_code 7 = .ok (.goto 4, 3) := by decide +kernel
theorem d6_10 : decode jdk_29_method_66_code 10 = .ok (.lload_n 2, 1) := by decide +kernel
theorem d6_11 : decode jdk_29_method_66_code 11 = .ok (.lreturn, 1) := by decide +kernel
def Q_math_max (Z : State) (p1 : Int64) (p2 : Int64) (h0 : Heap) (n0 : Nat) (v : Option Value) (h : Heap) (L : List Loc) : Prop := v = some (.long (if p1 < p2 then p2 else p1)) ∧ Fr n0 L ∧ h = h0
set_option maxRecDepth 65536 in
set_option maxHeartbeats 40000000 in
theorem math_max (l : Launch) (Z : State) (a0 : Array Value) (hw : ∀ d ∈ tables_1, d.before a0 Z = true) (ws : List Jvm.Cond) (p1 : Int64) (p2 : Int64) (h0 : Heap) (n0 : Nat) (Z0 : n0 ≤ h0.size) :
    MetFree l (⟨"java/lang/Math", "max", "(JJ)J"⟩ : MethodName) (head1 (Jvm.Cond.code (⟨"java/lang/Math", "max", "(JJ)J"⟩ : MethodName) jdk_29_method_66_code 4 (some .long) :: ws) ({ frames := 0, cells := 0, slots := 0, locals := 0 } : Room)) (fun a U => a = #[(.long p1), (.long p2)] ∧ Z.Warmed39 U.vm ∧ U.heap = h0) (fun _ _ _ _ _ => True) (fun _ U o U' => ∃ v L, o = .returned v ∧ Q_math_max Z p1 p2 h0 n0 v U'.heap L ∧ FrameEnd U o U' L ({ frames := 0, cells := 0, slots := 0, locals := 0 } : Room).cells ({ frames := 0, cells := 0, slots := 0, locals := 0 } : Room).slots) := by
  refine MetFree.of_bodySF (Jvm.Free.JP.mathPlain rfl (by decide +kernel)) hisR ?_
  intro p e s m args below meth c s₁ Bd hml0 hP hK
  obtain ⟨rfl, hZ, hh⟩ := hP
  have hx := Bd.exec
  have hby := Bd.bytes
  have hml : c.maxLocals = 4 := hml0
  have hown : s.vm.findClass "java/lang/Math" = some m.cls := findClass_of_methodNamed Bd.named
  have hnm := (name_of_methodNamed Bd.named Bd.method).1
  have X0 : Stand p l e ({ frames := 0, cells := 0, slots := 0, locals := 0 } : Room) s m #[(.long p1), (.long p2)] below meth c s₁ [] 0 0 := Stand.of_body Bd
  have e0 : s₁.heap = h0 := by rw [← hh, Bd.state]; rfl
  have N0 := Fr.nil n0
  have eF : entryFrame m #[(.long p1), (.long p2)] 4 = mkF m 0 #[.val (.long p1), .second, .val (.long p2), .second] [] := by first | (simp [entryFrame, mkF, argsToLocals, Value.category]; done) | rfl
  show Ends p e below s ({ frames := 0, cells := 0, slots := 0, locals := 0 } : Room) (Q_math_max Z p1 p2 h0 n0) (s₁.setTop (entryFrame m #[(.long p1), (.long p2)] 4))
  rw [eF]
  refine Ends.of (F' := s₁.setTop (mkF m 3 #[.val (.long p1), .second, .val (.long p2), .second] [(.int (lcmpW p1 p2))])) (fun _ kt => ?_) ?_
  · show Steps p.tables e below (s₁.setTop (mkF m 0 #[.val (.long p1), .second, .val (.long p2), .second] [])) _
    refine XS.lloadN X0.here hx rfl (hb hby d6_0) rfl ?_
    show Steps p.tables e below (s₁.setTop (mkF m 1 #[.val (.long p1), .second, .val (.long p2), .second] [(.long p1)])) _
    refine XS.lloadN X0.here hx rfl (hb hby d6_1) rfl ?_
    show Steps p.tables e below (s₁.setTop (mkF m 2 #[.val (.long p1), .second, .val (.long p2), .second] [(.long p2), (.long p1)])) _
    refine XS.lcmp X0.here hx rfl (hb hby d6_2) rfl ?_
    exact kt
  by_cases hc3 : p1 < p2
  · refine Ends.of (F' := s₁.setTop (mkF m 11 #[.val (.long p1), .second, .val (.long p2), .second] [(.long p2)])) (fun _ kt => ?_) ?_
    · show Steps p.tables e below (s₁.setTop (mkF m 3 #[.val (.long p1), .second, .val (.long p2), .second] [(.int (lcmpW p1 p2))])) _
      refine XS.ifYes X0.here hx rfl (pc0 := 3) (pc' := 10) rfl (hb hby d6_3) rfl ((if0 _ _).trans (tlt ((lw_lt _ _).mpr hc3)).1) (by decide) (by decide) ?_
      show Steps p.tables e below (s₁.setTop (mkF m 10 #[.val (.long p1), .second, .val (.long p2), .second] [])) _
      refine XS.lloadN X0.here hx rfl (hb hby d6_10) rfl ?_
      exact kt
    obtain ⟨fs, hr, hrun, hended, hW, hsame⟩ := X0.leave (v := some (.long p2)) (fun h => by rw [Bd.returns] at h; cases h)
    refine ⟨_, _, ?_, hrun, hended, _, _, rfl, ⟨by rw [if_pos hc3], N0, e0⟩, ⟨_, rfl⟩, hW, hsame.mono (by decide) (by decide)⟩
    show Steps p.tables e below (s₁.setTop (mkF m 11 #[.val (.long p1), .second, .val (.long p2), .second] [(.long p2)])) _
    jvm_step X0.here [X0.here.top, hx, (hb hby d6_11), X0.method', Bd.returns, narrow]
    first | (intro acts; rw [hr _ acts rfl rfl rfl]) | rw [hr _ _ rfl rfl rfl]
    exact Steps.refl _
  · refine Ends.of (F' := s₁.setTop (mkF m 11 #[.val (.long p1), .second, .val (.long p2), .second] [(.long p1)])) (fun _ kt => ?_) ?_
    · show Steps p.tables e below (s₁.setTop (mkF m 3 #[.val (.long p1), .second, .val (.long p2), .second] [(.int (lcmpW p1 p2))])) _
      refine XS.ifNo X0.here hx rfl (hb hby d6_3) rfl ((if0 _ _).trans (flt (mt (lw_lt _ _).mp hc3)).1) ?_
      show Steps p.tables e below (s₁.setTop (mkF m 6 #[.val (.long p1), .second, .val (.long p2), .second] [])) _
      refine XS.lloadN X0.here hx rfl (hb hby d6_6) rfl ?_
      show Steps p.tables e below (s₁.setTop (mkF m 7 #[.val (.long p1), .second, .val (.long p2), .second] [(.long p1)])) _
      refine XS.goto X0.here hx rfl (pc0 := 7) (pc' := 11) rfl (hb hby d6_7) (by decide) (by decide) ?_
      exact kt
    obtain ⟨fs, hr, hrun, hended, hW, hsame⟩ := X0.leave (v := some (.long p1)) (fun h => by rw [Bd.returns] at h; cases h)
    refine ⟨_, _, ?_, hrun, hended, _, _, rfl, ⟨by rw [if_neg hc3], N0, e0⟩, ⟨_, rfl⟩, hW, hsame.mono (by decide) (by decide)⟩
    show Steps p.tables e below (s₁.setTop (mkF m 11 #[.val (.long p1), .second, .val (.long p2), .second] [(.long p1)])) _
    jvm_step X0.here [X0.here.top, hx, (hb hby d6_11), X0.method', Bd.returns, narrow]
    first | (intro acts; rw [hr _ acts rfl rfl rfl]) | rw [hr _ _ rfl rfl rfl]
    exact Steps.refl _
theorem d3_0 : decode jdk_30_method_1_code 0 = .ok (.aload_n 0, 1) := by decide +kernel
theorem d3_1 : decode jdk_30_method_1_code 1 = .ok (.invokespecial 1, 3) := by decide +kernel
theorem d3_4 : decode jdk_30_method_1_code 4 = .ok (.return_, 1) := by decide +kernel
theorem pn_0 : plainName "java/lang/Record" = true := by first | (simp [plainName, overriddenIn]; done) | decide +kernel
def Q_rec_init (Z : State) (a1 : Addr) (h0 : Heap) (n0 : Nat) (v : Option Value) (h : Heap) (L : List Loc) : Prop := v = none ∧ Fr n0 L ∧ h = h0
set_option maxRecDepth 65536 in
set_option maxHeartbeats 40000000 in
theorem rec_init (l : Launch) (Z : State) (a0 : Array Value) (hw : ∀ d ∈ tables_1, d.before a0 Z = true) (ws : List Jvm.Cond) (a1 : Addr) (h0 : Heap) (n0 : Nat) (Z0 : n0 ≤ h0.size) :
    MetFree l (⟨"java/lang/Record", "<init>", "()V"⟩ : MethodName) (head1 (Jvm.Cond.code (⟨"java/lang/Record", "<init>", "()V"⟩ : MethodName) jdk_30_method_1_code 1 none :: ws) ({ frames := 1, cells := 0, slots := 0, locals := 12 } : Room)) (fun a U => a = #[(.ref a1)] ∧ Z.Warmed39 U.vm ∧ U.heap = h0) (fun _ _ _ _ _ => True) (fun _ U o U' => ∃ v L, o = .returned v ∧ Q_rec_init Z a1 h0 n0 v U'.heap L ∧ FrameEnd U o U' L ({ frames := 1, cells := 0, slots := 0, locals := 12 } : Room).cells ({ frames := 1, cells := 0, slots := 0, locals := 12 } : Room).slots) := by
  refine MetFree.of_bodySF (plainFor_of_name pn_0) hisR ?_
  intro p e s m args below meth c s₁ Bd hml0 hP hK
  obtain ⟨rfl, hZ, hh⟩ := hP
  have hx := Bd.exec
  have hby := Bd.bytes
  have hml : c.maxLocals = 1 := hml0
  have hown : s.vm.findClass "java/lang/Record" = some m.cls := findClass_of_methodNamed Bd.named
  have hnm := (name_of_methodNamed Bd.named Bd.method).1
  have X0 : Stand p l e ({ frames := 1, cells := 0, slots := 0, locals := 12 } : Room) s m #[(.ref a1)] below meth c s₁ [] 0 0 := Stand.of_body Bd
  have e0 : s₁.heap = h0 := by rw [← hh, Bd.state]; rfl
  have N0 := Fr.nil n0
  have eF : entryFrame m #[(.ref a1)] 1 = mkF m 0 #[.val (.ref a1)] [] := by first | (simp [entryFrame, mkF, argsToLocals, Value.category]; done) | rfl
  show Ends p e below s ({ frames := 1, cells := 0, slots := 0, locals := 12 } : Room) (Q_rec_init Z a1 h0 n0) (s₁.setTop (entryFrame m #[(.ref a1)] 1))
  rw [eF]
  refine Ends.of (F' := s₁.setTop (mkF m 1 #[.val (.ref a1)] [(.ref a1)])) (fun _ kt => ?_) ?_
  · show Steps p.tables e below (s₁.setTop (mkF m 0 #[.val (.ref a1)] [])) _
    refine XS.aloadN X0.here hx rfl (hb hby d3_0) rfl rfl ?_
    exact kt
  obtain ⟨T1, X1, e1, st1⟩ := initO X0 hx hZ hown (hw _ (List.mem_of_getElem? (i := 17) rfl)) (hw _ (List.mem_of_getElem? (i := 18) rfl)) (hw _ (List.mem_of_getElem? (i := 19) rfl)) e0 (g := (mkF m 1 #[.val (.ref a1)] [(.ref a1)])) rfl (by rw [hml]; rfl) rfl (hb hby d3_1) (by decide) (W := 0) (by show 2 * 0 + _ ≤ _; exact Nat.le_of_eq rfl) (by decide)
  refine Ends.of st1 ?_
  obtain ⟨fs, hr, hrun, hended, hW, hsame⟩ := X1.leave (v := none) (fun _ => rfl)
  exact ⟨_, _, X1.returnOut hx Bd.returns (hb hby d3_4) hr, hrun, hended, _, _, rfl, ⟨rfl, N0, e1⟩, ⟨_, rfl⟩, hW, hsame.mono (by decide) (by decide)⟩
theorem d2_0 : decode prog_83_method_1_code 0 = .ok (.aload_n 0, 1) := by decide +kernel
theorem d2_1 : decode prog_83_method_1_code 1 = .ok (.invokespecial 1, 3) := by decide +kernel
theorem d2_4 : decode prog_83_method_1_code 4 = .ok (.aload_n 0, 1) := by decide +kernel
theorem d2_5 : decode prog_83_method_1_code 5 = .ok (.lload_n 1, 1) := by decide +kernel
theorem d2_6 : decode prog_83_method_1_code 6 = .ok (.putfield 7, 3) := by decide +kernel
theorem d2_9 : decode prog_83_method_1_code 9 = .ok (.aload_n 0, 1) := by decide +kernel
theorem d2_10 : decode prog_83_method_1_code 10 = .ok (.lload_n 3, 1) := by decide +kernel
theorem d2_11 : decode prog_83_method_1_code 11 = .ok (.putfield 13, 3) := by decide +kernel
theorem d2_14 : decode prog_83_method_1_code 14 = .ok (.aload_n 0, 1) := by decide +kernel
theorem d2_15 : decode prog_83_method_1_code 15 = .ok (.lload 5, 2) := by decide +kernel
theorem d2_17 : decode prog_83_method_1_code 17 = .ok (.putfield 16, 3) := by decide +kernel
theorem d2_20 : decode prog_83_method_1_code 20 = .ok (.aload_n 0, 1) := by decide +kernel
theorem d2_21 : decode prog_83_method_1_code 21 = .ok (.lload 7, 2) := by decide +kernel
theorem d2_23 : decode prog_83_method_1_code 23 = .ok (.putfield 19, 3) := by decide +kernel
theorem d2_26 : decode prog_83_method_1_code 26 = .ok (.aload_n 0, 1) := by decide +kernel
theorem d2_27 : decode prog_83_method_1_code 27 = .ok (.lload 9, 2) := by decide +kernel
theorem d2_29 : decode prog_83_method_1_code 29 = .ok (.putfield 22, 3) := by decide +kernel
theorem d2_32 : decode prog_83_method_1_code 32 = .ok (.aload_n 0, 1) := by decide +kernel
theorem d2_33 : decode prog_83_method_1_code 33 = .ok (.lload 11, 2) := by decide +kernel
theorem d2_35 : decode prog_83_method_1_code 35 = .ok (.putfield 25, 3) := by decide +kernel
theorem d2_38 : decode prog_83_method_1_code 38 = .ok (.aload_n 0, 1) := by decide +kernel
theorem d2_39 : decode prog_83_method_1_code 39 = .ok (.lload 13, 2) := by decide +kernel
theorem d2_41 : decode prog_83_method_1_code 41 = .ok (.putfield 28, 3) := by decide +kernel
theorem d2_44 : decode prog_83_method_1_code 44 = .ok (.return_, 1) := by decide +kernel
theorem pn_1 : plainName "com/example/coordinant/coordinant/tool/Bank$RunCounts" = true := by first | (simp [plainName, overriddenIn]; done) | decide +kernel
def Q_rc_init (Z : State) (a1 : Addr) (l1 : Int64) (l2 : Int64) (l3 : Int64) (l4 : Int64) (l5 : Int64) (l6 : Int64) (l7 : Int64) (h0 : Heap) (n0 : Nat) (v : Option Value) (h : Heap) (L : List Loc) : Prop := v = none ∧ Fr n0 L ∧ Keep h0 h [a1] ∧ Exa Z h a1 "com/example/coordinant/coordinant/tool/Bank$RunCounts" ∧ Fld Z h a1 "com/example/coordinant/coordinant/tool/Bank$RunCounts" "committed" "J" (.long l2) ∧ Fld Z h a1 "com/example/coordinant/coordinant/tool/Bank$RunCounts" "nanos" "J" (.long l7)
set_option maxRecDepth 65536 in
set_option maxHeartbeats 40000000 in
theorem rc_init (l : Launch) (Z : State) (a0 : Array Value) (hw : ∀ d ∈ tables_1, d.before a0 Z = true) (ws : List Jvm.Cond) (a1 : Addr) (l1 : Int64) (l2 : Int64) (l3 : Int64) (l4 : Int64) (l5 : Int64) (l6 : Int64) (l7 : Int64) (h0 : Heap) (n0 : Nat) (Z0 : n0 ≤ h0.size) (E_a : Exa Z h0 a1 "com/example/coordinant/coordinant/tool/Bank$RunCounts") (F_transfers : Fld Z h0 a1 "com/example/coordinant/coordinant/tool/Bank$RunCounts" "transfers" "J" (.long (0 : Int64))) (F_committed : Fld Z h0 a1 "com/example/coordinant/coordinant/tool/Bank$RunCounts" "committed" "J" (.long (0 : Int64))) (F_aborted : Fld Z h0 a1 "com/example/coordinant/coordinant/tool/Bank$RunCounts" "aborted" "J" (.long (0 : Int64))) (F_alternativesUsed : Fld Z h0 a1 "com/example/coordinant/coordinant/tool/Bank$RunCounts" "alternativesUsed" "J" (.long (0 : Int64))) (F_audits : Fld Z h0 a1 "com/example/coordinant/coordinant/tool/Bank$RunCounts" "audits" "J" (.long (0 : Int64))) (F_inconsistent : Fld Z h0 a1 "com/example/coordinant/coordinant/tool/Bank$RunCounts" "inconsistent" "J" (.long (0 : Int64))) (F_nanos : Fld Z h0 a1 "com/example/coordinant/coordinant/tool/Bank$RunCounts" "nanos" "J" (.long (0 : Int64))) (g_a : n0 ≤ a1) :
    MetFree l (⟨"com/example/coordinant/coordinant/tool/Bank$RunCounts", "<init>", "(JJJJJJJ)V"⟩ : MethodName) (head1 (Jvm.Cond.code (⟨"com/example/coordinant/coordinant/tool/Bank$RunCounts", "<init>", "(JJJJJJJ)V"⟩ : MethodName) prog_83_method_1_code 15 none :: ws) ({ frames := 2, cells := 0, slots := 0, locals := 24 } : Room)) (fun a U => a = #[(.ref a1), (.long l1), (.long l2), (.long l3), (.long l4), (.long l5), (.long l6), (.long l7)] ∧ Z.Warmed39 U.vm ∧ U.heap = h0) (fun _ _ _ _ _ => True) (fun _ U o U' => ∃ v L, o = .returned v ∧ Q_rc_init Z a1 l1 l2 l3 l4 l5 l6 l7 h0 n0 v U'.heap L ∧ FrameEnd U o U' L ({ frames := 2, cells := 0, slots := 0, locals := 24 } : Room).cells ({ frames := 2, cells := 0, slots := 0, locals := 24 } : Room).slots) := by
  refine MetFree.of_bodySF (plainFor_of_name pn_1) hisR ?_
  intro p e s m args below meth c s₁ Bd hml0 hP hK
  obtain ⟨rfl, hZ, hh⟩ := hP
  have hx := Bd.exec
  have hby := Bd.bytes
  have hml : c.maxLocals = 15 := hml0
  have hown : s.vm.findClass "com/example/coordinant/coordinant/tool/Bank$RunCounts" = some m.cls := findClass_of_methodNamed Bd.named
  have hnm := (name_of_methodNamed Bd.named Bd.method).1
  have X0 : Stand p l e ({ frames := 2, cells := 0, slots := 0, locals := 24 } : Room) s m #[(.ref a1), (.long l1), (.long l2), (.long l3), (.long l4), (.long l5), (.long l6), (.long l7)] below meth c s₁ [] 0 0 := Stand.of_body Bd
  have e0 : s₁.heap = h0 := by rw [← hh, Bd.state]; rfl
  have N0 := Fr.nil n0
  have eF : entryFrame m #[(.ref a1), (.long l1), (.long l2), (.long l3), (.long l4), (.long l5), (.long l6), (.long l7)] 15 = mkF m 0 #[.val (.ref a1), .val (.long l1), .second, .val (.long l2), .second, .val (.long l3), .second, .val (.long l4), .second, .val (.long l5), .second, .val (.long l6), .second, .val (.long l7), .second] [] := by first | (simp [entryFrame, mkF, argsToLocals, Value.category]; done) | rfl
  show Ends p e below s ({ frames := 2, cells := 0, slots := 0, locals := 24 } : Room) (Q_rc_init Z a1 l1 l2 l3 l4 l5 l6 l7 h0 n0) (s₁.setTop (entryFrame m #[(.ref a1), (.long l1), (.long l2), (.long l3), (.long l4), (.long l5), (.long l6), (.long l7)] 15))
  rw [eF]
  refine Ends.of (F' := s₁.setTop (mkF m 1 #[.val (.ref a1), .val (.long l1), .second, .val (.long l2), .second, .val (.long l3), .second, .val (.long l4), .second, .val (.long l5), .second, .val (.long l6), .second, .val (.long l7), .second] [(.ref a1)])) (fun _ kt => ?_) ?_
  · show Steps p.tables e below (s₁.setTop (mkF m 0 #[.val (.ref a1), .val (.long l1), .second, .val (.long l2), .second, .val (.long l3), .second, .val (.long l4), .second, .val (.long l5), .second, .val (.long l6), .second, .val (.long l7), .second] [])) _
    refine XS.aloadN X0.here hx rfl (hb hby d2_0) rfl rfl ?_
    exact kt
  obtain ⟨_, _, ⟨T2, L2, k2, n2⟩, -, X2, ⟨Lc2, hQ2, l2, y2, z2⟩, st2⟩ := X0.specialBack hx (y := (⟨"java/lang/Record", "<init>", "()V"⟩ : MethodName)) rfl hown (mvT hZ (hw _ (List.mem_of_getElem? (i := 12) rfl))) (mvT hZ (hw _ (List.mem_of_getElem? (i := 13) rfl))) (mvT hZ (hw _ (List.mem_of_getElem? (i := 16) rfl))) (by decide) (backOf (W := 0) (rec_init l Z a0 hw [] a1 h0 n0 Z0) hZ (hw _ (List.mem_of_getElem? (i := 16) rfl)) (hw _ (List.mem_of_getElem? (i := 15) rfl)) (by decide) (by decide)) (g := (mkF m 1 #[.val (.ref a1), .val (.long l1), .second, .val (.long l2), .second, .val (.long l3), .second, .val (.long l4), .second, .val (.long l5), .second, .val (.long l6), .second, .val (.long l7), .second] [(.ref a1)])) rfl (by rw [hml]; rfl) (Steps.refl _) (a := a1) (argsL := []) (rest := []) (lenOf pd_2 rfl) rfl (by show 2 * 0 + _ ≤ _; exact Nat.le_of_eq rfl) (hb hby d2_1) (fun _ _ => ⟨rfl, e0, (by decide : 0 + 0 ≤ _), (by decide : 0 + 0 ≤ _)⟩)
  dsimp only [Pt.U, Pt.locs, Pt.cells, Pt.slots] at X2 l2 y2 z2 st2 hQ2
  subst l2 y2 z2
  obtain ⟨rfl, N2q, e2⟩ := hQ2
  have N2 := Fr.app N0 N2q
  refine Ends.st st2 ?_
  refine Ends.of (F' := T2.setTop (mkF m 6 #[.val (.ref a1), .val (.long l1), .second, .val (.long l2), .second, .val (.long l3), .second, .val (.long l4), .second, .val (.long l5), .second, .val (.long l6), .second, .val (.long l7), .second] [(.long l1), (.ref a1)])) (fun _ kt => ?_) ?_
  · show Steps p.tables e below (T2.setTop (mkF m 4 #[.val (.ref a1), .val (.long l1), .second, .val (.long l2), .second, .val (.long l3), .second, .val (.long l4), .second, .val (.long l5), .second, .val (.long l6), .second, .val (.long l7), .second] [])) _
    refine XS.aloadN X2.here hx rfl (hb hby d2_4) rfl rfl ?_
    show Steps p.tables e below (T2.setTop (mkF m 5 #[.val (.ref a1), .val (.long l1), .second, .val (.long l2), .second, .val (.long l3), .second, .val (.long l4), .second, .val (.long l5), .second, .val (.long l6), .second, .val (.long l7), .second] [(.ref a1)])) _
    refine XS.lloadN X2.here hx rfl (hb hby d2_5) rfl ?_
    exact kt
  obtain ⟨T3, h3, X3, e3, W3, st3⟩ := putF X2 hx hZ hown (host := "") (Or.inl (hw _ (List.mem_of_getElem? (i := 20) rfl))) Via.refl e2 F_transfers E_a (Or.inr ⟨(hw _ (List.mem_of_getElem? (i := 21) rfl)), rfl, hnm⟩) (hw _ (List.mem_of_getElem? (i := 6) rfl)) (ty := .long) (by decide) rfl rfl (g := (mkF m 6 #[.val (.ref a1), .val (.long l1), .second, .val (.long l2), .second, .val (.long l3), .second, .val (.long l4), .second, .val (.long l5), .second, .val (.long l6), .second, .val (.long l7), .second] [(.long l1), (.ref a1)])) rfl rfl (hb hby d2_6)
  refine Ends.of st3 ?_
  have N3 := Fr.snoc X3 N2 g_a
  have F_transfers_0 := F_transfers.same W3
  have F_committed_0 := F_committed.other W3 (Or.inr (slot_ne (Or.inr (hw _ (List.mem_of_getElem? (i := 23) rfl))) (Or.inr (hw _ (List.mem_of_getElem? (i := 21) rfl))) (by decide) (t := .long) (t' := .long) (by decide) (by decide)))
  have F_aborted_0 := F_aborted.other W3 (Or.inr (slot_ne (Or.inr (hw _ (List.mem_of_getElem? (i := 25) rfl))) (Or.inr (hw _ (List.mem_of_getElem? (i := 21) rfl))) (by decide) (t := .long) (t' := .long) (by decide) (by decide)))
  have F_alternativesUsed_0 := F_alternativesUsed.other W3 (Or.inr (slot_ne (Or.inr (hw _ (List.mem_of_getElem? (i := 27) rfl))) (Or.inr (hw _ (List.mem_of_getElem? (i := 21) rfl))) (by decide) (t := .long) (t' := .long) (by decide) (by decide)))
  have F_audits_0 := F_audits.other W3 (Or.inr (slot_ne (Or.inr (hw _ (List.mem_of_getElem? (i := 29) rfl))) (Or.inr (hw _ (List.mem_of_getElem? (i := 21) rfl))) (by decide) (t := .long) (t' := .long) (by decide) (by decide)))
  have F_inconsistent_0 := F_inconsistent.other W3 (Or.inr (slot_ne (Or.inr (hw _ (List.mem_of_getElem? (i := 31) rfl))) (Or.inr (hw _ (List.mem_of_getElem? (i := 21) rfl))) (by decide) (t := .long) (t' := .long) (by decide) (by decide)))
  have F_nanos_0 := F_nanos.other W3 (Or.inr (slot_ne (Or.inr (hw _ (List.mem_of_getElem? (i := 33) rfl))) (Or.inr (hw _ (List.mem_of_getElem? (i := 21) rfl))) (by decide) (t := .long) (t' := .long) (by decide) (by decide)))
  have E_0 := E_a.wr W3
  have K_0 : Keep h0 h3 [a1] := (Keep.refl h0 [a1]).wr W3 (Or.inl (List.mem_of_getElem? (i := 0) rfl))
  refine Ends.of (F' := T3.setTop (mkF m 11 #[.val (.ref a1), .val (.long l1), .second, .val (.long l2), .second, .val (.long l3), .second, .val (.long l4), .second, .val (.long l5), .second, .val (.long l6), .second, .val (.long l7), .second] [(.long l2), (.ref a1)])) (fun _ kt => ?_) ?_
  · show Steps p.tables e below (T3.setTop (mkF m 9 #[.val (.ref a1), .val (.long l1), .second, .val (.long l2), .second, .val (.long l3), .second, .val (.long l4), .second, .val (.long l5), .second, .val (.long l6), .second, .val (.long l7), .second] [])) _
    refine XS.aloadN X3.here hx rfl (hb hby d2_9) rfl rfl ?_
    show Steps p.tables e below (T3.setTop (mkF m 10 #[.val (.ref a1), .val (.long l1), .second, .val (.long l2), .second, .val (.long l3), .second, .val (.long l4), .second, .val (.long l5), .second, .val (.long l6), .second, .val (.long l7), .second] [(.ref a1)])) _
    refine XS.lloadN X3.here hx rfl (hb hby d2_10) rfl ?_
    exact kt
  obtain ⟨T4, h4, X4, e4, W4, st4⟩ := putF X3 hx hZ hown (host := "") (Or.inl (hw _ (List.mem_of_getElem? (i := 22) rfl))) Via.refl e3 F_committed_0 E_0 (Or.inr ⟨(hw _ (List.mem_of_getElem? (i := 23) rfl)), rfl, hnm⟩) (hw _ (List.mem_of_getElem? (i := 6) rfl)) (ty := .long) (by decide) rfl rfl (g := (mkF m 11 #[.val (.ref a1), .val (.long l1), .second, .val (.long l2), .second, .val (.long l3), .second, .val (.long l4), .second, .val (.long l5), .second, .val (.long l6), .second, .val (.long l7), .second] [(.long l2), (.ref a1)])) rfl rfl (hb hby d2_11)
  refine Ends.of st4 ?_
  have N4 := Fr.snoc X4 N3 g_a
  have F_transfers_1 := F_transfers_0.other W4 (Or.inr (slot_ne (Or.inr (hw _ (List.mem_of_getElem? (i := 21) rfl))) (Or.inr (hw _ (List.mem_of_getElem? (i := 23) rfl))) (by decide) (t := .long) (t' := .long) (by decide) (by decide)))
  have F_committed_1 := F_committed_0.same W4
  have F_aborted_1 := F_aborted_0.other W4 (Or.inr (slot_ne (Or.inr (hw _ (List.mem_of_getElem? (i := 25) rfl))) (Or.inr (hw _ (List.mem_of_getElem? (i := 23) rfl))) (by decide) (t := .long) (t' := .long) (by decide) (by decide)))
  have F_alternativesUsed_1 := F_alternativesUsed_0.other W4 (Or.inr (slot_ne (Or.inr (hw _ (List.mem_of_getElem? (i := 27) rfl))) (Or.inr (hw _ (List.mem_of_getElem? (i := 23) rfl))) (by decide) (t := .long) (t' := .long) (by decide) (by decide)))
  have F_audits_1 := F_audits_0.other W4 (Or.inr (slot_ne (Or.inr (hw _ (List.mem_of_getElem? (i := 29) rfl))) (Or.inr (hw _ (List.mem_of_getElem? (i := 23) rfl))) (by decide) (t := .long) (t' := .long) (by decide) (by decide)))
  have F_inconsistent_1 := F_inconsistent_0.other W4 (Or.inr (slot_ne (Or.inr (hw _ (List.mem_of_getElem? (i := 31) rfl))) (Or.inr (hw _ (List.mem_of_getElem? (i := 23) rfl))) (by decide) (t := .long) (t' := .long) (by decide) (by decide)))
  have F_nanos_1 := F_nanos_0.other W4 (Or.inr (slot_ne (Or.inr (hw _ (List.mem_of_getElem? (i := 33) rfl))) (Or.inr (hw _ (List.mem_of_getElem? (i := 23) rfl))) (by decide) (t := .long) (t' := .long) (by decide) (by decide)))
  have E_1 := E_0.wr W4
  have K_1 : Keep h0 h4 [a1] := K_0.wr W4 (Or.inl (List.mem_of_getElem? (i := 0) rfl))
  refine Ends.of (F' := T4.setTop (mkF m 17 #[.val (.ref a1), .val (.long l1), .second, .val (.long l2), .second, .val (.long l3), .second, .val (.long l4), .second, .val (.long l5), .second, .val (.long l6), .second, .val (.long l7), .second] [(.long l3), (.ref a1)])) (fun _ kt => ?_) ?_
  · show Steps p.tables e below (T4.setTop (mkF m 14 #[.val (.ref a1), .val (.long l1), .second, .val (.long l2), .second, .val (.long l3), .second, .val (.long l4), .second, .val (.long l5), .second, .val (.long l6), .second, .val (.long l7), .second] [])) _
    refine XS.aloadN X4.here hx rfl (hb hby d2_14) rfl rfl ?_
    show Steps p.tables e below (T4.setTop (mkF m 15 #[.val (.ref a1), .val (.long l1), .second, .val (.long l2), .second, .val (.long l3), .second, .val (.long l4), .second, .val (.long l5), .second, .val (.long l6), .second, .val (.long l7), .second] [(.ref a1)])) _
    refine XS.lload X4.here hx rfl (hb hby d2_15) rfl ?_
    exact kt
  obtain ⟨T5, h5, X5, e5, W5, st5⟩ := putF X4 hx hZ hown (host := "") (Or.inl (hw _ (List.mem_of_getElem? (i := 24) rfl))) Via.refl e4 F_aborted_1 E_1 (Or.inr ⟨(hw _ (List.mem_of_getElem? (i := 25) rfl)), rfl, hnm⟩) (hw _ (List.mem_of_getElem? (i := 6) rfl)) (ty := .long) (by decide) rfl rfl (g := (mkF m 17 #[.val (.ref a1), .val (.long l1), .second, .val (.long l2), .second, .val (.long l3), .second, .val (.long l4), .second, .val (.long l5), .second, .val (.long l6), .second, .val (.long l7), .second] [(.long l3), (.ref a1)])) rfl rfl (hb hby d2_17)
  refine Ends.of st5 ?_
  have N5 := Fr.snoc X5 N4 g_a
  have F_transfers_2 := F_transfers_1.other W5 (Or.inr (slot_ne (Or.inr (hw _ (List.mem_of_getElem? (i := 21) rfl))) (Or.inr (hw _ (List.mem_of_getElem? (i := 25) rfl))) (by decide) (t := .long) (t' := .long) (by decide) (by decide)))
  have F_committed_2 := F_committed_1.other W5 (Or.inr (slot_ne (Or.inr (hw _ (List.mem_of_getElem? (i := 23) rfl))) (Or.inr (hw _ (List.mem_of_getElem? (i := 25) rfl))) (by decide) (t := .long) (t' := .long) (by decide) (by decide)))
  have F_aborted_2 := F_aborted_1.same W5
  have F_alternativesUsed_2 := F_alternativesUsed_1.other W5 (Or.inr (slot_ne (Or.inr (hw _ (List.mem_of_getElem? (i := 27) rfl))) (Or.inr (hw _ (List.mem_of_getElem? (i := 25) rfl))) (by decide) (t := .long) (t' := .long) (by decide) (by decide)))
  have F_audits_2 := F_audits_1.other W5 (Or.inr (slot_ne (Or.inr (hw _ (List.mem_of_getElem? (i := 29) rfl))) (Or.inr (hw _ (List.mem_of_getElem? (i := 25) rfl))) (by decide) (t := .long) (t' := .long) (by decide) (by decide)))
  have F_inconsistent_2 := F_inconsistent_1.other W5 (Or.inr (slot_ne (Or.inr (hw _ (List.mem_of_getElem? (i := 31) rfl))) (Or.inr (hw _ (List.mem_of_getElem? (i := 25) rfl))) (by decide) (t := .long) (t' := .long) (by decide) (by decide)))
  have F_nanos_2 := F_nanos_1.other W5 (Or.inr (slot_ne (Or.inr (hw _ (List.mem_of_getElem? (i := 33) rfl))) (Or.inr (hw _ (List.mem_of_getElem? (i := 25) rfl))) (by decide) (t := .long) (t' := .long) (by decide) (by decide)))
  have E_2 := E_1.wr W5
  have K_2 : Keep h0 h5 [a1] := K_1.wr W5 (Or.inl (List.mem_of_getElem? (i := 0) rfl))
  refine Ends.of (F' := T5.setTop (mkF m 23 #[.val (.ref a1), .val (.long l1), .second, .val (.long l2), .second, .val (.long l3), .second, .val (.long l4), .second, .val (.long l5), .second, .val (.long l6), .second, .val (.long l7), .second] [(.long l4), (.ref a1)])) (fun _ kt => ?_) ?_
  · show Steps p.tables e below (T5.setTop (mkF m 20 #[.val (.ref a1), .val (.long l1), .second, .val (.long l2), .second, .val (.long l3), .second, .val (.long l4), .second, .val (.long l5), .second, .val (.long l6), .second, .val (.long l7), .second] [])) _
    refine XS.aloadN X5.here hx rfl (hb hby d2_20) rfl rfl ?_
    show Steps p.tables e below (T5.setTop (mkF m 21 #[.val (.ref a1), .val (.long l1), .second, .val (.long l2), .second, .val (.long l3), .second, .val (.long l4), .second, .val (.long l5), .second, .val (.long l6), .second, .val (.long l7), .second] [(.ref a1)])) _
    refine XS.lload X5.here hx rfl (hb hby d2_21) rfl ?_
    exact kt
  obtain ⟨T6, h6, X6, e6, W6, st6⟩ := putF X5 hx hZ hown (host := "") (Or.inl (hw _ (List.mem_of_getElem? (i := 26) rfl))) Via.refl e5 F_alternativesUsed_2 E_2 (Or.inr ⟨(hw _ (List.mem_of_getElem? (i := 27) rfl)), rfl, hnm⟩) (hw _ (List.mem_of_getElem? (i := 6) rfl)) (ty := .long) (by decide) rfl rfl (g := (mkF m 23 #[.val (.ref a1), .val (.long l1), .second, .val (.long l2), .second, .val (.long l3), .second, .val (.long l4), .second, .val (.long l5), .second, .val (.long l6), .second, .val (.long l7), .second] [(.long l4), (.ref a1)])) rfl rfl (hb hby d2_23)
  refine Ends.of st6 ?_
  have N6 := Fr.snoc X6 N5 g_a
  have F_transfers_3 := F_transfers_2.other W6 (Or.inr (slot_ne (Or.inr (hw _ (List.mem_of_getElem? (i := 21) rfl))) (Or.inr (hw _ (List.mem_of_getElem? (i := 27) rfl))) (by decide) (t := .long) (t' := .long) (by decide) (by decide)))
  have F_committed_3 := F_committed_2.other W6 (Or.inr (slot_ne (Or.inr (hw _ (List.mem_of_getElem? (i := 23) rfl))) (Or.inr (hw _ (List.mem_of_getElem? (i := 27) rfl))) (by decide) (t := .long) (t' := .long) (by decide) (by decide)))
  have F_aborted_3 := F_aborted_2.other W6 (Or.inr (slot_ne (Or.inr (hw _ (List.mem_of_getElem? (i := 25) rfl))) (Or.inr (hw _ (List.mem_of_getElem? (i := 27) rfl))) (by decide) (t := .long) (t' := .long) (by decide) (by decide)))
  have F_alternativesUsed_3 := F_alternativesUsed_2.same W6
  have F_audits_3 := F_audits_2.other W6 (Or.inr (slot_ne (Or.inr (hw _ (List.mem_of_getElem? (i := 29) rfl))) (Or.inr (hw _ (List.mem_of_getElem? (i := 27) rfl))) (by decide) (t := .long) (t' := .long) (by decide) (by decide)))
  have F_inconsistent_3 := F_inconsistent_2.other W6 (Or.inr (slot_ne (Or.inr (hw _ (List.mem_of_getElem? (i := 31) rfl))) (Or.inr (hw _ (List.mem_of_getElem? (i := 27) rfl))) (by decide) (t := .long) (t' := .long) (by decide) (by decide)))
  have F_nanos_3 := F_nanos_2.other W6 (Or.inr (slot_ne (Or.inr (hw _ (List.mem_of_getElem? (i := 33) rfl))) (Or.inr (hw _ (List.mem_of_getElem? (i := 27) rfl))) (by decide) (t := .long) (t' := .long) (by decide) (by decide)))
  have E_3 := E_2.wr W6
  have K_3 : Keep h0 h6 [a1] := K_2.wr W6 (Or.inl (List.mem_of_getElem? (i := 0) rfl))
  refine Ends.of (F' := T6.setTop (mkF m 29 #[.val (.ref a1), .val (.long l1), .second, .val (.long l2), .second, .val (.long l3), .second, .val (.long l4), .second, .val (.long l5), .second, .val (.long l6), .second, .val (.long l7), .second] [(.long l5), (.ref a1)])) (fun _ kt => ?_) ?_
  · show Steps p.tables e below (T6.setTop (mkF m 26 #[.val (.ref a1), .val (.long l1), .second, .val (.long l2), .second, .val (.long l3), .second, .val (.long l4), .second, .val (.long l5), .second, .val (.long l6), .second, .val (.long l7), .second] [])) _
    refine XS.aloadN X6.here hx rfl (hb hby d2_26) rfl rfl ?_
    show Steps p.tables e below (T6.setTop (mkF m 27 #[.val (.ref a1), .val (.long l1), .second, .val (.long l2), .second, .val (.long l3), .second, .val (.long l4), .second, .val (.long l5), .second, .val (.long l6), .second, .val (.long l7), .second] [(.ref a1)])) _
    refine XS.lload X6.here hx rfl (hb hby d2_27) rfl ?_
    exact kt
  obtain ⟨T7, h7, X7, e7, W7, st7⟩ := putF X6 hx hZ hown (host := "") (Or.inl (hw _ (List.mem_of_getElem? (i := 28) rfl))) Via.refl e6 F_audits_3 E_3 (Or.inr ⟨(hw _ (List.mem_of_getElem? (i := 29) rfl)), rfl, hnm⟩) (hw _ (List.mem_of_getElem? (i := 6) rfl)) (ty := .long) (by decide) rfl rfl (g := (mkF m 29 #[.val (.ref a1), .val (.long l1), .second, .val (.long l2), .second, .val (.long l3), .second, .val (.long l4), .second, .val (.long l5), .second, .val (.long l6), .second, .val (.long l7), .second] [(.long l5), (.ref a1)])) rfl rfl (hb hby d2_29)
  refine Ends.of st7 ?_
  have N7 := Fr.snoc X7 N6 g_a
  have F_transfers_4 := F_transfers_3.other W7 (Or.inr (slot_ne (Or.inr (hw _ (List.mem_of_getElem? (i := 21) rfl))) (Or.inr (hw _ (List.mem_of_getElem? (i := 29) rfl))) (by decide) (t := .long) (t' := .long) (by decide) (by decide)))
  have F_committed_4 := F_committed_3.other W7 (Or.inr (slot_ne (Or.inr (hw _ (List.mem_of_getElem? (i := 23) rfl))) (Or.inr (hw _ (List.mem_of_getElem? (i := 29) rfl))) (by decide) (t := .long) (t' := .long) (by decide) (by decide)))
  have F_aborted_4 := F_aborted_3.other W7 (Or.inr (slot_ne (Or.inr (hw _ (List.mem_of_getElem? (i := 25) rfl))) (Or.inr (hw _ (List.mem_of_getElem? (i := 29) rfl))) (by decide) (t := .long) (t' := .long) (by decide) (by decide)))
  have F_alternativesUsed_4 := F_alternativesUsed_3.other W7 (Or.inr (slot_ne (Or.inr (hw _ (List.mem_of_getElem? (i := 27) rfl))) (Or.inr (hw _ (List.mem_of_getElem? (i := 29) rfl))) (by decide) (t := .long) (t' := .long) (by decide) (by decide)))
  have F_audits_4 := F_audits_3.same W7
  have F_inconsistent_4 := F_inconsistent_3.other W7 (Or.inr (slot_ne (Or.inr (hw _ (List.mem_of_getElem? (i := 31) rfl))) (Or.inr (hw _ (List.mem_of_getElem? (i := 29) rfl))) (by decide) (t := .long) (t' := .long) (by decide) (by decide)))
  have F_nanos_4 := F_nanos_3.other W7 (Or.inr (slot_ne (Or.inr (hw _ (List.mem_of_getElem? (i := 33) rfl))) (Or.inr (hw _ (List.mem_of_getElem? (i := 29) rfl))) (by decide) (t := .long) (t' := .long) (by decide) (by decide)))
  have E_4 := E_3.wr W7
  have K_4 : Keep h0 h7 [a1] := K_3.wr W7 (Or.inl (List.mem_of_getElem? (i := 0) rfl))
  refine Ends.of (F' := T7.setTop (mkF m 35 #[.val (.ref a1), .val (.long l1), .second, .val (.long l2), .second, .val (.long l3), .second, .val (.long l4), .second, .val (.long l5), .second, .val (.long l6), .second, .val (.long l7), .second] [(.long l6), (.ref a1)])) (fun _ kt => ?_) ?_
  · show Steps p.tables e below (T7.setTop (mkF m 32 #[.val (.ref a1), .val (.long l1), .second, .val (.long l2), .second, .val (.long l3), .second, .val (.long l4), .second, .val (.long l5), .second, .val (.long l6), .second, .val (.long l7), .second] [])) _
    refine XS.aloadN X7.here hx rfl (hb hby d2_32) rfl rfl ?_
    show Steps p.tables e below (T7.setTop (mkF m 33 #[.val (.ref a1), .val (.long l1), .second, .val (.long l2), .second, .val (.long l3), .second, .val (.long l4), .second, .val (.long l5), .second, .val (.long l6), .second, .val (.long l7), .second] [(.ref a1)])) _
    refine XS.lload X7.here hx rfl (hb hby d2_33) rfl ?_
    exact kt
  obtain ⟨T8, h8, X8, e8, W8, st8⟩ := putF X7 hx hZ hown (host := "") (Or.inl (hw _ (List.mem_of_getElem? (i := 30) rfl))) Via.refl e7 F_inconsistent_4 E_4 (Or.inr ⟨(hw _ (List.mem_of_getElem? (i := 31) rfl)), rfl, hnm⟩) (hw _ (List.mem_of_getElem? (i := 6) rfl)) (ty := .long) (by decide) rfl rfl (g := (mkF m 35 #[.val (.ref a1), .val (.long l1), .second, .val (.long l2), .second, .val (.long l3), .second, .val (.long l4), .second, .val (.long l5), .second, .val (.long l6), .second, .val (.long l7), .second] [(.long l6), (.ref a1)])) rfl rfl (hb hby d2_35)
  refine Ends.of st8 ?_
  have N8 := Fr.snoc X8 N7 g_a
  have F_transfers_5 := F_transfers_4.other W8 (Or.inr (slot_ne (Or.inr (hw _ (List.mem_of_getElem? (i := 21) rfl))) (Or.inr (hw _ (List.mem_of_getElem? (i := 31) rfl))) (by decide) (t := .long) (t' := .long) (by decide) (by decide)))
  have F_committed_5 := F_committed_4.other W8 (Or.inr (slot_ne (Or.inr (hw _ (List.mem_of_getElem? (i := 23) rfl))) (Or.inr (hw _ (List.mem_of_getElem? (i := 31) rfl))) (by decide) (t := .long) (t' := .long) (by decide) (by decide)))
  have F_aborted_5 := F_aborted_4.other W8 (Or.inr (slot_ne (Or.inr (hw _ (List.mem_of_getElem? (i := 25) rfl))) (Or.inr (hw _ (List.mem_of_getElem? (i := 31) rfl))) (by decide) (t := .long) (t' := .long) (by decide) (by decide)))
  have F_alternativesUsed_5 := F_alternativesUsed_4.other W8 (Or.inr (slot_ne (Or.inr (hw _ (List.mem_of_getElem? (i := 27) rfl))) (Or.inr (hw _ (List.mem_of_getElem? (i := 31) rfl))) (by decide) (t := .long) (t' := .long) (by decide) (by decide)))
  have F_audits_5 := F_audits_4.other W8 (Or.inr (slot_ne (Or.inr (hw _ (List.mem_of_getElem? (i := 29) rfl))) (Or.inr (hw _ (List.mem_of_getElem? (i := 31) rfl))) (by decide) (t := .long) (t' := .long) (by decide) (by decide)))
  have F_inconsistent_5 := F_inconsistent_4.same W8
  have F_nanos_5 := F_nanos_4.other W8 (Or.inr (slot_ne (Or.inr (hw _ (List.mem_of_getElem? (i := 33) rfl))) (Or.inr (hw _ (List.mem_of_getElem? (i := 31) rfl))) (by decide) (t := .long) (t' := .long) (by decide) (by decide)))
  have E_5 := E_4.wr W8
  have K_5 : Keep h0 h8 [a1] := K_4.wr W8 (Or.inl (List.mem_of_getElem? (i := 0) rfl))
  refine Ends.of (F' := T8.setTop (mkF m 41 #[.val (.ref a1), .val (.long l1), .second, .val (.long l2), .second, .val (.long l3), .second, .val (.long l4), .second, .val (.long l5), .second, .val (.long l6), .second, .val (.long l7), .second] [(.long l7), (.ref a1)])) (fun _ kt => ?_) ?_
  · show Steps p.tables e below (T8.setTop (mkF m 38 #[.val (.ref a1), .val (.long l1), .second, .val (.long l2), .second, .val (.long l3), .second, .val (.long l4), .second, .val (.long l5), .second, .val (.long l6), .second, .val (.long l7), .second] [])) _
    refine XS.aloadN X8.here hx rfl (hb hby d2_38) rfl rfl ?_
    show Steps p.tables e below (T8.setTop (mkF m 39 #[.val (.ref a1), .val (.long l1), .second, .val (.long l2), .second, .val (.long l3), .second, .val (.long l4), .second, .val (.long l5), .second, .val (.long l6), .second, .val (.long l7), .second] [(.ref a1)])) _
    refine XS.lload X8.here hx rfl (hb hby d2_39) rfl ?_
    exact kt
  obtain ⟨T9, h9, X9, e9, W9, st9⟩ := putF X8 hx hZ hown (host := "") (Or.inl (hw _ (List.mem_of_getElem? (i := 32) rfl))) Via.refl e8 F_nanos_5 E_5 (Or.inr ⟨(hw _ (List.mem_of_getElem? (i := 33) rfl)), rfl, hnm⟩) (hw _ (List.mem_of_getElem? (i := 6) rfl)) (ty := .long) (by decide) rfl rfl (g := (mkF m 41 #[.val (.ref a1), .val (.long l1), .second, .val (.long l2), .second, .val (.long l3), .second, .val (.long l4), .second, .val (.long l5), .second, .val (.long l6), .second, .val (.long l7), .second] [(.long l7), (.ref a1)])) rfl rfl (hb hby d2_41)
  refine Ends.of st9 ?_
  have N9 := Fr.snoc X9 N8 g_a
  have F_transfers_6 := F_transfers_5.other W9 (Or.inr (slot_ne (Or.inr (hw _ (List.mem_of_getElem? (i := 21) rfl))) (Or.inr (hw _ (List.mem_of_getElem? (i := 33) rfl))) (by decide) (t := .long) (t' := .long) (by decide) (by decide)))
  have F_committed_6 := F_committed_5.other W9 (Or.inr (slot_ne (Or.inr (hw _ (List.mem_of_getElem? (i := 23) rfl))) (Or.inr (hw _ (List.mem_of_getElem? (i := 33) rfl))) (by decide) (t := .long) (t' := .long) (by decide) (by decide)))
  have F_aborted_6 := F_aborted_5.other W9 (Or.inr (slot_ne (Or.inr (hw _ (List.mem_of_getElem? (i := 25) rfl))) (Or.inr (hw _ (List.mem_of_getElem? (i := 33) rfl))) (by decide) (t := .long) (t' := .long) (by decide) (by decide)))
  have F_alternativesUsed_6 := F_alternativesUsed_5.other W9 (Or.inr (slot_ne (Or.inr (hw _ (List.mem_of_getElem? (i := 27) rfl))) (Or.inr (hw _ (List.mem_of_getElem? (i := 33) rfl))) (by decide) (t := .long) (t' := .long) (by decide) (by decide)))
  have F_audits_6 := F_audits_5.other W9 (Or.inr (slot_ne (Or.inr (hw _ (List.mem_of_getElem? (i := 29) rfl))) (Or.inr (hw _ (List.mem_of_getElem? (i := 33) rfl))) (by decide) (t := .long) (t' := .long) (by decide) (by decide)))
  have F_inconsistent_6 := F_inconsistent_5.other W9 (Or.inr (slot_ne (Or.inr (hw _ (List.mem_of_getElem? (i := 31) rfl))) (Or.inr (hw _ (List.mem_of_getElem? (i := 33) rfl))) (by decide) (t := .long) (t' := .long) (by decide) (by decide)))
  have F_nanos_6 := F_nanos_5.same W9
  have E_6 := E_5.wr W9
  have K_6 : Keep h0 h9 [a1] := K_5.wr W9 (Or.inl (List.mem_of_getElem? (i := 0) rfl))
  rw [← e9] at E_6 K_6 F_committed_6 F_nanos_6
  obtain ⟨fs, hr, hrun, hended, hW, hsame⟩ := X9.leave (v := none) (fun _ => rfl)
  exact ⟨_, _, X9.returnOut hx Bd.returns (hb hby d2_44) hr, hrun, hended, _, _, rfl, ⟨rfl, N9, K_6, E_6, F_committed_6, F_nanos_6⟩, ⟨_, rfl⟩, hW, hsame.mono (by decide) (by decide)⟩
theorem d1_0 : decode method_2_code 0 = .ok (.new 7, 3) := by decide +kernel
theorem d1_3 : decode method_2_code 3 = .ok (.dup, 1) := by decide +kernel
theorem d1_4 : decode method_2_code 4 = .ok (.lload_n 0, 1) := by decide +kernel
theorem d1_5 : decode method_2_code 5 = .ok (.lconst 1, 1) := by decide +kernel
theorem d1_6 : decode method_2_code 6 = .ok (.ladd, 1) := by decide +kernel
theorem d1_7 : decode method_2_code 7 = .ok (.lload_n 0, 1) := by decide +kernel
theorem d1_8 : decode method_2_code 8 = .ok (.lload_n 0, 1) := by decide +kernel
theorem d1_9 : decode method_2_code 9 = .ok (.lconst 1, 1) := by decide +kernel
theorem d1_10 : decode method_2_code 10 = .ok (.lsub, 1) := by decide +kernel
theorem d1_11 : decode method_2_code 11 = .ok (.lload_n 2, 1) := by decide +kernel
theorem d1_12 : decode method_2_code 12 = .ok (.lload_n 2, 1) := by decide +kernel
theorem d1_13 : decode method_2_code 13 = .ok (.lconst 1, 1) := by decide +kernel
theorem d1_14 : decode method_2_code 14 = .ok (.ladd, 1) := by decide +kernel
theorem d1_15 : decode method_2_code 15 = .ok (.lload_n 0, 1) := by decide +kernel
theorem d1_16 : decode method_2_code 16 = .ok (.ldc2_w 9, 3) := by decide +kernel
theorem d1_19 : decode method_2_code 19 = .ok (.lxor, 1) := by decide +kernel
theorem d1_20 : decode method_2_code 20 = .ok (.lload_n 2, 1) := by decide +kernel
theorem d1_21 : decode method_2_code 21 = .ok (.invokespecial 11, 3) := by decide +kernel
theorem d1_24 : decode method_2_code 24 = .ok (.areturn, 1) := by decide +kernel
theorem pn_2 : plainName "com/example/coordinant/coordinant/tool/RunCountsPerSecondPinLaw" = true := by first | (simp [plainName, overriddenIn]; done) | decide +kernel
def Q_mk (Z : State) (p1 : Int64) (p2 : Int64) (h0 : Heap) (n0 : Nat) (v : Option Value) (h : Heap) (L : List Loc) : Prop := v = some (.ref h0.size) ∧ Fr n0 L ∧ Keep h0 h [] ∧ Exa Z h h0.size "com/example/coordinant/coordinant/tool/Bank$RunCounts" ∧ Fld Z h h0.size "com/example/coordinant/coordinant/tool/Bank$RunCounts" "committed" "J" (.long p1) ∧ Fld Z h h0.size "com/example/coordinant/coordinant/tool/Bank$RunCounts" "nanos" "J" (.long p2)
set_option maxRecDepth 65536 in
set_option maxHeartbeats 40000000 in
theorem mk (l : Launch) (Z : State) (a0 : Array Value) (hw : ∀ d ∈ tables_1, d.before a0 Z = true) (ws : List Jvm.Cond) (p1 : Int64) (p2 : Int64) (h0 : Heap) (n0 : Nat) (Z0 : n0 ≤ h0.size) :
    MetFree l (⟨"com/example/coordinant/coordinant/tool/RunCountsPerSecondPinLaw", "make", "(JJ)Lcom/example/coordinant/coordinant/tool/Bank$RunCounts;"⟩ : MethodName) (head1 (Jvm.Cond.code (⟨"com/example/coordinant/coordinant/tool/RunCountsPerSecondPinLaw", "make", "(JJ)Lcom/example/coordinant/coordinant/tool/Bank$RunCounts;"⟩ : MethodName) method_2_code 4 (some (.object "com/example/coordinant/coordinant/tool/Bank$RunCounts")) :: ws) ({ frames := 3, cells := 1, slots := 7, locals := 51 } : Room)) (fun a U => a = #[(.long p1), (.long p2)] ∧ Z.Warmed39 U.vm ∧ U.heap = h0) (fun _ _ _ _ _ => True) (fun _ U o U' => ∃ v L, o = .returned v ∧ Q_mk Z p1 p2 h0 n0 v U'.heap L ∧ FrameEnd U o U' L ({ frames := 3, cells := 1, slots := 7, locals := 51 } : Room).cells ({ frames := 3, cells := 1, slots := 7, locals := 51 } : Room).slots) := by
  refine MetFree.of_bodySF (plainFor_of_name pn_2) hisR ?_
  intro p e s m args below meth c s₁ Bd hml0 hP hK
  obtain ⟨rfl, hZ, hh⟩ := hP
  have hx := Bd.exec
  have hby := Bd.bytes
  have hml : c.maxLocals = 4 := hml0
  have hown : s.vm.findClass "com/example/coordinant/coordinant/tool/RunCountsPerSecondPinLaw" = some m.cls := findClass_of_methodNamed Bd.named
  have hnm := (name_of_methodNamed Bd.named Bd.method).1
  have X0 : Stand p l e ({ frames := 3, cells := 1, slots := 7, locals := 51 } : Room) s m #[(.long p1), (.long p2)] below meth c s₁ [] 0 0 := Stand.of_body Bd
  have e0 : s₁.heap = h0 := by rw [← hh, Bd.state]; rfl
  have N0 := Fr.nil n0
  have eF : entryFrame m #[(.long p1), (.long p2)] 4 = mkF m 0 #[.val (.long p1), .second, .val (.long p2), .second] [] := by first | (simp [entryFrame, mkF, argsToLocals, Value.category]; done) | rfl
  show Ends p e below s ({ frames := 3, cells := 1, slots := 7, locals := 51 } : Room) (Q_mk Z p1 p2 h0 n0) (s₁.setTop (entryFrame m #[(.long p1), (.long p2)] 4))
  rw [eF]
  obtain ⟨T10, h10, X10, e10, E10, A10, D10, -, st10⟩ := newO X0 hx hZ hown (hw _ (List.mem_of_getElem? (i := 5) rfl)) (hw _ (List.mem_of_getElem? (i := 6) rfl)) (hw _ (List.mem_of_getElem? (i := 7) rfl)) e0 (g := (mkF m 0 #[.val (.long p1), .second, .val (.long p2), .second] [])) rfl (hb hby d1_0) (by decide) (by decide)
  obtain ⟨b10, g10⟩ : ∃ z, z = h0.size := ⟨_, rfl⟩
  rw [← g10] at A10 D10 st10
  have F_transfers_b10 : Fld Z h10 b10 "com/example/coordinant/coordinant/tool/Bank$RunCounts" "transfers" "J" (.long (0 : Int64)) := D10 (Or.inr (hw _ (List.mem_of_getElem? (i := 21) rfl))) (ty := .long) (by decide)
  have F_committed_b10 : Fld Z h10 b10 "com/example/coordinant/coordinant/tool/Bank$RunCounts" "committed" "J" (.long (0 : Int64)) := D10 (Or.inr (hw _ (List.mem_of_getElem? (i := 23) rfl))) (ty := .long) (by decide)
  have F_aborted_b10 : Fld Z h10 b10 "com/example/coordinant/coordinant/tool/Bank$RunCounts" "aborted" "J" (.long (0 : Int64)) := D10 (Or.inr (hw _ (List.mem_of_getElem? (i := 25) rfl))) (ty := .long) (by decide)
  have F_alternativesUsed_b10 : Fld Z h10 b10 "com/example/coordinant/coordinant/tool/Bank$RunCounts" "alternativesUsed" "J" (.long (0 : Int64)) := D10 (Or.inr (hw _ (List.mem_of_getElem? (i := 27) rfl))) (ty := .long) (by decide)
  have F_audits_b10 : Fld Z h10 b10 "com/example/coordinant/coordinant/tool/Bank$RunCounts" "audits" "J" (.long (0 : Int64)) := D10 (Or.inr (hw _ (List.mem_of_getElem? (i := 29) rfl))) (ty := .long) (by decide)
  have F_inconsistent_b10 : Fld Z h10 b10 "com/example/coordinant/coordinant/tool/Bank$RunCounts" "inconsistent" "J" (.long (0 : Int64)) := D10 (Or.inr (hw _ (List.mem_of_getElem? (i := 31) rfl))) (ty := .long) (by decide)
  have F_nanos_b10 : Fld Z h10 b10 "com/example/coordinant/coordinant/tool/Bank$RunCounts" "nanos" "J" (.long (0 : Int64)) := D10 (Or.inr (hw _ (List.mem_of_getElem? (i := 33) rfl))) (ty := .long) (by decide)
  refine Ends.of st10 ?_
  have Z1 : n0 ≤ h10.size := Nat.le_trans Z0 E10.1
  have gb : h0.size ≤ b10 := Nat.le_of_eq g10.symm
  refine Ends.of (F' := T10.setTop (mkF m 21 #[.val (.long p1), .second, .val (.long p2), .second] [(.long p2), (.long (p1 ^^^ (5 : Int64))), (.long (p2 + (1 : Int64))), (.long p2), (.long (p1 - (1 : Int64))), (.long p1), (.long (p1 + (1 : Int64))), (.ref b10), (.ref b10)])) (fun _ kt => ?_) ?_
  · show Steps p.tables e below (T10.setTop (mkF m 3 #[.val (.long p1), .second, .val (.long p2), .second] [(.ref b10)])) _
    refine XS.dup X10.here hx rfl (hb hby d1_3) rfl rfl ?_
    show Steps p.tables e below (T10.setTop (mkF m 4 #[.val (.long p1), .second, .val (.long p2), .second] [(.ref b10), (.ref b10)])) _
    refine XS.lloadN X10.here hx rfl (hb hby d1_4) rfl ?_
    show Steps p.tables e below (T10.setTop (mkF m 5 #[.val (.long p1), .second, .val (.long p2), .second] [(.long p1), (.ref b10), (.ref b10)])) _
    refine XS.lconst X10.here hx rfl (hb hby d1_5) ?_
    show Steps p.tables e below (T10.setTop (mkF m 6 #[.val (.long p1), .second, .val (.long p2), .second] [(.long (1 : Int64)), (.long p1), (.ref b10), (.ref b10)])) _
    refine XS.ladd X10.here hx rfl (hb hby d1_6) rfl ?_
    show Steps p.tables e below (T10.setTop (mkF m 7 #[.val (.long p1), .second, .val (.long p2), .second] [(.long (p1 + (1 : Int64))), (.ref b10), (.ref b10)])) _
    refine XS.lloadN X10.here hx rfl (hb hby d1_7) rfl ?_
    show Steps p.tables e below (T10.setTop (mkF m 8 #[.val (.long p1), .second, .val (.long p2), .second] [(.long p1), (.long (p1 + (1 : Int64))), (.ref b10), (.ref b10)])) _
    refine XS.lloadN X10.here hx rfl (hb hby d1_8) rfl ?_
    show Steps p.tables e below (T10.setTop (mkF m 9 #[.val (.long p1), .second, .val (.long p2), .second] [(.long p1), (.long p1), (.long (p1 + (1 : Int64))), (.ref b10), (.ref b10)])) _
    refine XS.lconst X10.here hx rfl (hb hby d1_9) ?_
    show Steps p.tables e below (T10.setTop (mkF m 10 #[.val (.long p1), .second, .val (.long p2), .second] [(.long (1 : Int64)), (.long p1), (.long p1), (.long (p1 + (1 : Int64))), (.ref b10), (.ref b10)])) _
    refine XS.lsub X10.here hx rfl (hb hby d1_10) rfl ?_
    show Steps p.tables e below (T10.setTop (mkF m 11 #[.val (.long p1), .second, .val (.long p2), .second] [(.long (p1 - (1 : Int64))), (.long p1), (.long (p1 + (1 : Int64))), (.ref b10), (.ref b10)])) _
    refine XS.lloadN X10.here hx rfl (hb hby d1_11) rfl ?_
    show Steps p.tables e below (T10.setTop (mkF m 12 #[.val (.long p1), .second, .val (.long p2), .second] [(.long p2), (.long (p1 - (1 : Int64))), (.long p1), (.long (p1 + (1 : Int64))), (.ref b10), (.ref b10)])) _
    refine XS.lloadN X10.here hx rfl (hb hby d1_12) rfl ?_
    show Steps p.tables e below (T10.setTop (mkF m 13 #[.val (.long p1), .second, .val (.long p2), .second] [(.long p2), (.long p2), (.long (p1 - (1 : Int64))), (.long p1), (.long (p1 + (1 : Int64))), (.ref b10), (.ref b10)])) _
    refine XS.lconst X10.here hx rfl (hb hby d1_13) ?_
    show Steps p.tables e below (T10.setTop (mkF m 14 #[.val (.long p1), .second, .val (.long p2), .second] [(.long (1 : Int64)), (.long p2), (.long p2), (.long (p1 - (1 : Int64))), (.long p1), (.long (p1 + (1 : Int64))), (.ref b10), (.ref b10)])) _
    refine XS.ladd X10.here hx rfl (hb hby d1_14) rfl ?_
    show Steps p.tables e below (T10.setTop (mkF m 15 #[.val (.long p1), .second, .val (.long p2), .second] [(.long (p2 + (1 : Int64))), (.long p2), (.long (p1 - (1 : Int64))), (.long p1), (.long (p1 + (1 : Int64))), (.ref b10), (.ref b10)])) _
    refine XS.lloadN X10.here hx rfl (hb hby d1_15) rfl ?_
    show Steps p.tables e below (T10.setTop (mkF m 16 #[.val (.long p1), .second, .val (.long p2), .second] [(.long p1), (.long (p2 + (1 : Int64))), (.long p2), (.long (p1 - (1 : Int64))), (.long p1), (.long (p1 + (1 : Int64))), (.ref b10), (.ref b10)])) _
    refine X10.ldc2Long hx hown (mvT hZ (hw _ (List.mem_of_getElem? (i := 8) rfl))) (g := (mkF m 16 #[.val (.long p1), .second, .val (.long p2), .second] [(.long p1), (.long (p2 + (1 : Int64))), (.long p2), (.long (p1 - (1 : Int64))), (.long p1), (.long (p1 + (1 : Int64))), (.ref b10), (.ref b10)])) rfl (hb hby d1_16) _ ?_
    show Steps p.tables e below (T10.setTop (mkF m 19 #[.val (.long p1), .second, .val (.long p2), .second] [(.long (5 : Int64)), (.long p1), (.long (p2 + (1 : Int64))), (.long p2), (.long (p1 - (1 : Int64))), (.long p1), (.long (p1 + (1 : Int64))), (.ref b10), (.ref b10)])) _
    refine XS.lxor X10.here hx rfl (hb hby d1_19) rfl ?_
    show Steps p.tables e below (T10.setTop (mkF m 20 #[.val (.long p1), .second, .val (.long p2), .second] [(.long (p1 ^^^ (5 : Int64))), (.long (p2 + (1 : Int64))), (.long p2), (.long (p1 - (1 : Int64))), (.long p1), (.long (p1 + (1 : Int64))), (.ref b10), (.ref b10)])) _
    refine XS.lloadN X10.here hx rfl (hb hby d1_20) rfl ?_
    exact kt
  obtain ⟨_, _, ⟨T11, L11, k11, n11⟩, -, X11, ⟨Lc11, hQ11, l11, y11, z11⟩, st11⟩ := X10.specialBack hx (y := (⟨"com/example/coordinant/coordinant/tool/Bank$RunCounts", "<init>", "(JJJJJJJ)V"⟩ : MethodName)) rfl hown (mvT hZ (hw _ (List.mem_of_getElem? (i := 9) rfl))) (mvT hZ (hw _ (List.mem_of_getElem? (i := 10) rfl))) (mvT hZ (hw _ (List.mem_of_getElem? (i := 11) rfl))) (by decide) (backOf (W := 1) (rc_init l Z a0 hw [] b10 (p1 + (1 : Int64)) p1 (p1 - (1 : Int64)) p2 (p2 + (1 : Int64)) (p1 ^^^ (5 : Int64)) p2 h10 n0 Z1 A10 F_transfers_b10 F_committed_b10 F_aborted_b10 F_alternativesUsed_b10 F_audits_b10 F_inconsistent_b10 F_nanos_b10 (Nat.le_trans Z0 gb)) hZ (hw _ (List.mem_of_getElem? (i := 11) rfl)) (hw _ (List.mem_of_getElem? (i := 7) rfl)) (by decide) (by decide)) (g := (mkF m 21 #[.val (.long p1), .second, .val (.long p2), .second] [(.long p2), (.long (p1 ^^^ (5 : Int64))), (.long (p2 + (1 : Int64))), (.long p2), (.long (p1 - (1 : Int64))), (.long p1), (.long (p1 + (1 : Int64))), (.ref b10), (.ref b10)])) rfl (by rw [hml]; rfl) (Steps.refl _) (a := b10) (argsL := [(.long (p1 + (1 : Int64))), (.long p1), (.long (p1 - (1 : Int64))), (.long p2), (.long (p2 + (1 : Int64))), (.long (p1 ^^^ (5 : Int64))), (.long p2)]) (rest := [(.ref b10)]) (lenOf pd_1 rfl) rfl (by show 2 * 0 + _ ≤ _; exact Nat.le_of_eq rfl) (hb hby d1_21) (fun _ _ => ⟨rfl, e10, (by decide : 1 + 0 ≤ _), (by decide : 7 + 0 ≤ _)⟩)
  dsimp only [Pt.U, Pt.locs, Pt.cells, Pt.slots] at X11 l11 y11 z11 st11 hQ11
  subst l11 y11 z11
  obtain ⟨rfl, N11q, K11, Ex11, Fc11, Fn11⟩ := hQ11
  have N11 := Fr.app N0 N11q
  refine Ends.st st11 ?_
  have K9 : Keep h0 T11.heap [] := ((Keep.refl h0 []).ext E10).trans K11 (allS (Or.inr gb) all0)
  subst g10
  obtain ⟨fs, hr, hrun, hended, hW, hsame⟩ := X11.leave (v := some (.ref h0.size)) (fun h => by rw [Bd.returns] at h; cases h)
  refine ⟨_, _, ?_, hrun, hended, _, _, rfl, ⟨rfl, N11, K9, Ex11, Fc11, Fn11⟩, ⟨_, rfl⟩, hW, hsame.mono (by decide) (by decide)⟩
  show Steps p.tables e below (T11.setTop (mkF m 24 #[.val (.long p1), .second, .val (.long p2), .second] [(.ref h0.size)])) _
  jvm_step X11.here [X11.here.top, hx, (hb hby d1_24), X11.method', Bd.returns, Value.isRef, FieldType.isReference]
  first | (intro acts; rw [hr _ acts rfl rfl rfl]) | rw [hr _ _ rfl rfl rfl]
  exact Steps.refl _
theorem d5_0 : decode prog_83_method_3_code 0 = .ok (.aload_n 0, 1) := by decide +kernel
theorem d5_1 : decode prog_83_method_3_code 1 = .ok (.getfield 13, 3) := by decide +kernel
theorem d5_4 : decode prog_83_method_3_code 4 = .ok (.l2d, 1) := by decide +kernel
theorem d5_5 : decode prog_83_method_3_code 5 = .ok (.ldc2_w 31, 3) := by decide +kernel
theorem d5_8 : decode prog_83_method_3_code 8 = .ok (.dmul, 1) := by decide +kernel
theorem d5_9 : decode prog_83_method_3_code 9 = .ok (.aload_n 0, 1) := by decide +kernel
theorem d5_10 : decode prog_83_method_3_code 10 = .ok (.getfield 28, 3) := by decide +kernel
theorem d5_13 : decode prog_83_method_3_code 13 = .ok (.lconst 1, 1) := by decide +kernel
theorem d5_14 : decode prog_83_method_3_code 14 = .ok (.invokestatic 33, 3) := by decide +kernel
theorem d5_17 : decode prog_83_method_3_code 17 = .ok (.l2d, 1) := by decide +kernel
theorem d5_18 : decode prog_83_method_3_code 18 = .ok (.ddiv, 1) := by decide +kernel
theorem d5_19 : decode prog_83_method_3_code 19 = .ok (.dreturn, 1) := by decide +kernel
def Q_per (Z : State) (a1 : Addr) (c1 : Int64) (n : Int64) (R : UInt64) (h0 : Heap) (n0 : Nat) (v : Option Value) (h : Heap) (L : List Loc) : Prop := v = some (.double R) ∧ Fr n0 L ∧ h = h0
set_option maxRecDepth 65536 in
set_option maxHeartbeats 40000000 in
theorem per (l : Launch) (Z : State) (a0 : Array Value) (hw : ∀ d ∈ tables_1, d.before a0 Z = true) (ws : List Jvm.Cond) (a1 : Addr) (c1 : Int64) (n : Int64) (R : UInt64) (h0 : Heap) (n0 : Nat) (Z0 : n0 ≤ h0.size) (F_c : Fld Z h0 a1 "com/example/coordinant/coordinant/tool/Bank$RunCounts" "committed" "J" (.long c1)) (F_n : Fld Z h0 a1 "com/example/coordinant/coordinant/tool/Bank$RunCounts" "nanos" "J" (.long n)) (hR : FP.ddiv (FP.dmul (FP.l2d c1) (4741671816366391296 : UInt64)) (FP.l2d (if n < (1 : Int64) then (1 : Int64) else n)) = R) :
    MetFree l (⟨"com/example/coordinant/coordinant/tool/Bank$RunCounts", "perSecond", "()D"⟩ : MethodName) (head1 (Jvm.Cond.code (⟨"com/example/coordinant/coordinant/tool/Bank$RunCounts", "perSecond", "()D"⟩ : MethodName) prog_83_method_3_code 1 (some .double) :: ws) ({ frames := 1, cells := 0, slots := 0, locals := 17 } : Room)) (fun a U => a = #[(.ref a1)] ∧ Z.Warmed39 U.vm ∧ U.heap = h0) (fun _ _ _ _ _ => True) (fun _ U o U' => ∃ v L, o = .returned v ∧ Q_per Z a1 c1 n R h0 n0 v U'.heap L ∧ FrameEnd U o U' L ({ frames := 1, cells := 0, slots := 0, locals := 17 } : Room).cells ({ frames := 1, cells := 0, slots := 0, locals := 17 } : Room).slots) := by
  refine MetFree.of_bodySF (plainFor_of_name pn_1) hisR ?_
  intro p e s m args below meth c s₁ Bd hml0 hP hK
  obtain ⟨rfl, hZ, hh⟩ := hP
  have hx := Bd.exec
  have hby := Bd.bytes
  have hml : c.maxLocals = 1 := hml0
  have hown : s.vm.findClass "com/example/coordinant/coordinant/tool/Bank$RunCounts" = some m.cls := findClass_of_methodNamed Bd.named
  have hnm := (name_of_methodNamed Bd.named Bd.method).1
  have X0 : Stand p l e ({ frames := 1, cells := 0, slots := 0, locals := 17 } : Room) s m #[(.ref a1)] below meth c s₁ [] 0 0 := Stand.of_body Bd
  have e0 : s₁.heap = h0 := by rw [← hh, Bd.state]; rfl
  have N0 := Fr.nil n0
  have eF : entryFrame m #[(.ref a1)] 1 = mkF m 0 #[.val (.ref a1)] [] := by first | (simp [entryFrame, mkF, argsToLocals, Value.category]; done) | rfl
  show Ends p e below s ({ frames := 1, cells := 0, slots := 0, locals := 17 } : Room) (Q_per Z a1 c1 n R h0 n0) (s₁.setTop (entryFrame m #[(.ref a1)] 1))
  rw [eF]
  have nr := own_nr c1 (if n < (1 : Int64) then (1 : Int64) else n) (own_mx n).1 (own_mx n).2
  refine Ends.of (F' := s₁.setTop (mkF m 1 #[.val (.ref a1)] [(.ref a1)])) (fun _ kt => ?_) ?_
  · show Steps p.tables e below (s₁.setTop (mkF m 0 #[.val (.ref a1)] [])) _
    refine XS.aloadN X0.here hx rfl (hb hby d5_0) rfl rfl ?_
    exact kt
  obtain ⟨T12, X12, e12, st12⟩ := getF X0 hx hZ hown (host := "") (Or.inl (hw _ (List.mem_of_getElem? (i := 22) rfl))) Via.refl e0 F_c (g := (mkF m 1 #[.val (.ref a1)] [(.ref a1)])) rfl rfl (hb hby d5_1)
  refine Ends.of st12 ?_
  refine Ends.of (F' := T12.setTop (mkF m 10 #[.val (.ref a1)] [(.ref a1), (.double (FP.dmul (FP.l2d c1) (4741671816366391296 : UInt64)))])) (fun _ kt => ?_) ?_
  · show Steps p.tables e below (T12.setTop (mkF m 4 #[.val (.ref a1)] [(.long c1)])) _
    refine XS.l2dS X12.here hx rfl (hb hby d5_4) rfl rfl ?_
    show Steps p.tables e below (T12.setTop (mkF m 5 #[.val (.ref a1)] [(.double (FP.l2d c1))])) _
    refine X12.ldc2DoubleC hx hown (own_mvC hZ (hw _ (List.mem_of_getElem? (i := 39) rfl))) (g := (mkF m 5 #[.val (.ref a1)] [(.double (FP.l2d c1))])) rfl (hb hby d5_5) _ ?_
    show Steps p.tables e below (T12.setTop (mkF m 8 #[.val (.ref a1)] [(.double (4741671816366391296 : UInt64)), (.double (FP.l2d c1))])) _
    refine XS.dmulS X12.here hx rfl (hb hby d5_8) rfl nr.1 rfl ?_
    show Steps p.tables e below (T12.setTop (mkF m 9 #[.val (.ref a1)] [(.double (FP.dmul (FP.l2d c1) (4741671816366391296 : UInt64)))])) _
    refine XS.aloadN X12.here hx rfl (hb hby d5_9) rfl rfl ?_
    exact kt
  obtain ⟨T13, X13, e13, st13⟩ := getF X12 hx hZ hown (host := "") (Or.inl (hw _ (List.mem_of_getElem? (i := 32) rfl))) Via.refl e12 F_n (g := (mkF m 10 #[.val (.ref a1)] [(.ref a1), (.double (FP.dmul (FP.l2d c1) (4741671816366391296 : UInt64)))])) rfl rfl (hb hby d5_10)
  refine Ends.of st13 ?_
  refine Ends.of (F' := T13.setTop (mkF m 14 #[.val (.ref a1)] [(.long (1 : Int64)), (.long n), (.double (FP.dmul (FP.l2d c1) (4741671816366391296 : UInt64)))])) (fun _ kt => ?_) ?_
  · show Steps p.tables e below (T13.setTop (mkF m 13 #[.val (.ref a1)] [(.long n), (.double (FP.dmul (FP.l2d c1) (4741671816366391296 : UInt64)))])) _
    refine XS.lconst X13.here hx rfl (hb hby d5_13) ?_
    exact kt
  obtain ⟨_, _, ⟨T14, L14, k14, n14⟩, -, X14, ⟨Lc14, hQ14, l14, y14, z14⟩, st14⟩ := Jvm.LawKit.callS X13 hx (y := (⟨"java/lang/Math", "max", "(JJ)J"⟩ : MethodName)) hown (mvT hZ (hw _ (List.mem_of_getElem? (i := 40) rfl))) (mvT hZ (hw _ (List.mem_of_getElem? (i := 41) rfl))) (mvT hZ (hw _ (List.mem_of_getElem? (i := 42) rfl))) (mvT hZ (hw _ (List.mem_of_getElem? (i := 43) rfl))) (by decide) (backOf (W := 2) (math_max l Z a0 hw [] n (1 : Int64) h0 n0 Z0) hZ (hw _ (List.mem_of_getElem? (i := 43) rfl)) (hw _ (List.mem_of_getElem? (i := 42) rfl)) (by decide) (by decide)) (g := (mkF m 14 #[.val (.ref a1)] [(.long (1 : Int64)), (.long n), (.double (FP.dmul (FP.l2d c1) (4741671816366391296 : UInt64)))])) rfl (by rw [hml]; rfl) (argsL := [(.long n), (.long (1 : Int64))]) (rest := [(.double (FP.dmul (FP.l2d c1) (4741671816366391296 : UInt64)))]) (lenOf pd_4 rfl) rfl (by show 2 * 0 + _ ≤ _; exact Nat.le_of_eq rfl) (hb hby d5_14) (fun _ _ => ⟨rfl, e13, (by decide : 0 + 0 ≤ _), (by decide : 0 + 0 ≤ _)⟩)
  dsimp only [Pt.U, Pt.locs, Pt.cells, Pt.slots] at X14 l14 y14 z14 st14 hQ14
  subst l14 y14 z14
  obtain ⟨rfl, N14q, e14⟩ := hQ14
  have N14 := Fr.app N0 N14q
  refine Ends.of st14 ?_
  refine Ends.of (F' := T14.setTop (mkF m 19 #[.val (.ref a1)] [(.double R)])) (fun _ kt => ?_) ?_
  · show Steps p.tables e below (T14.setTop (mkF m 17 #[.val (.ref a1)] [(.long (if n < (1 : Int64) then (1 : Int64) else n)), (.double (FP.dmul (FP.l2d c1) (4741671816366391296 : UInt64)))])) _
    refine XS.l2dS X14.here hx rfl (hb hby d5_17) rfl rfl ?_
    show Steps p.tables e below (T14.setTop (mkF m 18 #[.val (.ref a1)] [(.double (FP.l2d (if n < (1 : Int64) then (1 : Int64) else n))), (.double (FP.dmul (FP.l2d c1) (4741671816366391296 : UInt64)))])) _
    refine XS.ddivS X14.here hx rfl (hb hby d5_18) rfl nr.2 hR ?_
    exact kt
  obtain ⟨fs, hr, hrun, hended, hW, hsame⟩ := X14.leave (v := some (.double R)) (fun h => by rw [Bd.returns] at h; cases h)
  refine ⟨_, _, ?_, hrun, hended, _, _, rfl, ⟨rfl, N14, e14⟩, ⟨_, rfl⟩, hW, hsame.mono (by decide) (by decide)⟩
  show Steps p.tables e below (T14.setTop (mkF m 19 #[.val (.ref a1)] [(.double R)])) _
  jvm_step X14.here [X14.here.top, hx, (hb hby d5_19), X14.method', Bd.returns, narrow]
  first | (intro acts; rw [hr _ acts rfl rfl rfl]) | rw [hr _ _ rfl rfl rfl]
  exact Steps.refl _
def Q0 (Z : State) (p1 : Int64) (p2 : Int64) (p3 : Int32) (p4 : Int32) (p5 : Int32) (h0 : Heap) (n0 : Nat) (v : Option Value) (h : Heap) (L : List Loc) : Prop := v = some (.int (1 : Int32)) ∧ Fr n0 L
set_option maxRecDepth 65536 in
set_option maxHeartbeats 40000000 in
theorem rm0 (l : Launch) (Z : State) (a0 : Array Value) (hw : ∀ d ∈ tables_1, d.before a0 Z = true) (ws : List Jvm.Cond) (p1 : Int64) (p2 : Int64) (p3 : Int32) (p4 : Int32) (p5 : Int32) (h0 : Heap) (n0 : Nat) (Z0 : n0 ≤ h0.size) :
    MetFree l x (head1 (Jvm.Cond.code x code maxLocals ret :: ws) room_1) (fun a U => a = #[(.long p1), (.long p2), (.int p3), (.int p4), (.int p5)] ∧ Z.Warmed39 U.vm ∧ U.heap = h0) (fun _ _ _ _ _ => True) (fun _ U o U' => ∃ v L, o = .returned v ∧ Q0 Z p1 p2 p3 p4 p5 h0 n0 v U'.heap L ∧ FrameEnd U o U' L room_1.cells room_1.slots) := by
  refine MetFree.of_bodySF (plainFor_of_name pn_2) hisR ?_
  intro p e s m args below meth c s₁ Bd hml0 hP hK
  obtain ⟨rfl, hZ, hh⟩ := hP
  have hx := Bd.exec
  have hby := Bd.bytes
  have hml : c.maxLocals = 15 := hml0
  have hown : s.vm.findClass "com/example/coordinant/coordinant/tool/RunCountsPerSecondPinLaw" = some m.cls := findClass_of_methodNamed Bd.named
  have hnm := (name_of_methodNamed Bd.named Bd.method).1
  have X0 : Stand p l e room_1 s m #[(.long p1), (.long p2), (.int p3), (.int p4), (.int p5)] below meth c s₁ [] 0 0 := Stand.of_body Bd
  have e0 : s₁.heap = h0 := by rw [← hh, Bd.state]; rfl
  have N0 := Fr.nil n0
  have eF : entryFrame m #[(.long p1), (.long p2), (.int p3), (.int p4), (.int p5)] maxLocals = mkF m 0 #[.val (.long p1), .second, .val (.long p2), .second, .val (.int p3), .val (.int p4), .val (.int p5), .unset, .unset, .unset, .unset, .unset, .unset, .unset, .unset] [] := by first | (simp [entryFrame, mkF, argsToLocals, Value.category, maxLocals]; done) | rfl
  show Ends p e below s room_1 (Q0 Z p1 p2 p3 p4 p5 h0 n0) (s₁.setTop (entryFrame m #[(.long p1), (.long p2), (.int p3), (.int p4), (.int p5)] maxLocals))
  rw [eF]
  refine Ends.of (F' := s₁.setTop (mkF m 9 #[.val (.long p1), .second, .val (.long p2), .second, .val (.int p3), .val (.int p4), .val (.int p5), .val (.int ((p5 &&& (2147483647 : Int32)) % (3 : Int32))), .unset, .unset, .unset, .unset, .unset, .unset, .unset] [])) (fun _ kt => ?_) ?_
  · show Steps p.tables e below (s₁.setTop (mkF m 0 #[.val (.long p1), .second, .val (.long p2), .second, .val (.int p3), .val (.int p4), .val (.int p5), .unset, .unset, .unset, .unset, .unset, .unset, .unset, .unset] [])) _
    refine XS.iload X0.here hx rfl (hb hby at_0) rfl ?_
    show Steps p.tables e below (s₁.setTop (mkF m 2 #[.val (.long p1), .second, .val (.long p2), .second, .val (.int p3), .val (.int p4), .val (.int p5), .unset, .unset, .unset, .unset, .unset, .unset, .unset, .unset] [(.int p5)])) _
    refine X0.ldcInt hx hown (mvT hZ (hw _ (List.mem_of_getElem? (i := 0) rfl))) (g := (mkF m 2 #[.val (.long p1), .second, .val (.long p2), .second, .val (.int p3), .val (.int p4), .val (.int p5), .unset, .unset, .unset, .unset, .unset, .unset, .unset, .unset] [(.int p5)])) rfl (hb hby at_2) _ ?_
    show Steps p.tables e below (s₁.setTop (mkF m 4 #[.val (.long p1), .second, .val (.long p2), .second, .val (.int p3), .val (.int p4), .val (.int p5), .unset, .unset, .unset, .unset, .unset, .unset, .unset, .unset] [(.int (2147483647 : Int32)), (.int p5)])) _
    refine XS.iand X0.here hx rfl (hb hby at_4) rfl ?_
    show Steps p.tables e below (s₁.setTop (mkF m 5 #[.val (.long p1), .second, .val (.long p2), .second, .val (.int p3), .val (.int p4), .val (.int p5), .unset, .unset, .unset, .unset, .unset, .unset, .unset, .unset] [(.int (p5 &&& (2147483647 : Int32)))])) _
    refine XS.iconst X0.here hx rfl (hb hby at_5) ?_
    show Steps p.tables e below (s₁.setTop (mkF m 6 #[.val (.long p1), .second, .val (.long p2), .second, .val (.int p3), .val (.int p4), .val (.int p5), .unset, .unset, .unset, .unset, .unset, .unset, .unset, .unset] [(.int (3 : Int32)), (.int (p5 &&& (2147483647 : Int32)))])) _
    refine iremM (g := (mkF m 6 #[.val (.long p1), .second, .val (.long p2), .second, .val (.int p3), .val (.int p4), .val (.int p5), .unset, .unset, .unset, .unset, .unset, .unset, .unset, .unset] [(.int (3 : Int32)), (.int (p5 &&& (2147483647 : Int32)))])) X0 hx rfl (hb hby at_6) rfl (by decide) ?_
    show Steps p.tables e below (s₁.setTop (mkF m 7 #[.val (.long p1), .second, .val (.long p2), .second, .val (.int p3), .val (.int p4), .val (.int p5), .unset, .unset, .unset, .unset, .unset, .unset, .unset, .unset] [(.int ((p5 &&& (2147483647 : Int32)) % (3 : Int32)))])) _
    refine XS.istore X0.here hx rfl (hb hby at_7) rfl (l' := #[.val (.long p1), .second, .val (.long p2), .second, .val (.int p3), .val (.int p4), .val (.int p5), .val (.int ((p5 &&& (2147483647 : Int32)) % (3 : Int32))), .unset, .unset, .unset, .unset, .unset, .unset, .unset]) rfl ?_
    exact kt
  rcases own_m3 p5 with hM | hM | hM
  · rw [hM]
    refine Ends.of (F' := s₁.setTop (mkF m 17 #[.val (.long p1), .second, .val (.long p2), .second, .val (.int p3), .val (.int p4), .val (.int p5), .val (.int (0 : Int32)), .unset, .unset, .unset, .unset, .unset, .unset, .unset] [(.int (lcmpW p2 (1 : Int64)))])) (fun _ kt => ?_) ?_
    · show Steps p.tables e below (s₁.setTop (mkF m 9 #[.val (.long p1), .second, .val (.long p2), .second, .val (.int p3), .val (.int p4), .val (.int p5), .val (.int (0 : Int32)), .unset, .unset, .unset, .unset, .unset, .unset, .unset] [])) _
      refine XS.iload X0.here hx rfl (hb hby at_9) rfl ?_
      show Steps p.tables e below (s₁.setTop (mkF m 11 #[.val (.long p1), .second, .val (.long p2), .second, .val (.int p3), .val (.int p4), .val (.int p5), .val (.int (0 : Int32)), .unset, .unset, .unset, .unset, .unset, .unset, .unset] [(.int (0 : Int32))])) _
      refine XS.ifNo X0.here hx rfl (hb hby at_11) rfl ((if0 _ _).trans (teq rfl).2) ?_
      show Steps p.tables e below (s₁.setTop (mkF m 14 #[.val (.long p1), .second, .val (.long p2), .second, .val (.int p3), .val (.int p4), .val (.int p5), .val (.int (0 : Int32)), .unset, .unset, .unset, .unset, .unset, .unset, .unset] [])) _
      refine XS.lloadN X0.here hx rfl (hb hby at_14) rfl ?_
      show Steps p.tables e below (s₁.setTop (mkF m 15 #[.val (.long p1), .second, .val (.long p2), .second, .val (.int p3), .val (.int p4), .val (.int p5), .val (.int (0 : Int32)), .unset, .unset, .unset, .unset, .unset, .unset, .unset] [(.long p2)])) _
      refine XS.lconst X0.here hx rfl (hb hby at_15) ?_
      show Steps p.tables e below (s₁.setTop (mkF m 16 #[.val (.long p1), .second, .val (.long p2), .second, .val (.int p3), .val (.int p4), .val (.int p5), .val (.int (0 : Int32)), .unset, .unset, .unset, .unset, .unset, .unset, .unset] [(.long (1 : Int64)), (.long p2)])) _
      refine XS.lcmp X0.here hx rfl (hb hby at_16) rfl ?_
      exact kt
    by_cases h1 : (1 : Int64) < p2
    · refine Ends.of (F' := s₁.setTop (mkF m 31 #[.val (.long p1), .second, .val (.long p2), .second, .val (.int p3), .val (.int p4), .val (.int p5), .val (.int (0 : Int32)), .val (.long (-p2)), .second, .unset, .unset, .unset, .unset, .unset] [(.long (-p2)), (.long p1)])) (fun _ kt => ?_) ?_
      · show Steps p.tables e below (s₁.setTop (mkF m 17 #[.val (.long p1), .second, .val (.long p2), .second, .val (.int p3), .val (.int p4), .val (.int p5), .val (.int (0 : Int32)), .unset, .unset, .unset, .unset, .unset, .unset, .unset] [(.int (lcmpW p2 (1 : Int64)))])) _
        refine XS.ifYes X0.here hx rfl (pc0 := 17) (pc' := 24) rfl (hb hby at_17) rfl ((if0 _ _).trans (tlt ((lw_gt _ _).mpr h1)).2.2.1) (by decide) (by decide) ?_
        show Steps p.tables e below (s₁.setTop (mkF m 24 #[.val (.long p1), .second, .val (.long p2), .second, .val (.int p3), .val (.int p4), .val (.int p5), .val (.int (0 : Int32)), .unset, .unset, .unset, .unset, .unset, .unset, .unset] [])) _
        refine XS.lloadN X0.here hx rfl (hb hby at_24) rfl ?_
        show Steps p.tables e below (s₁.setTop (mkF m 25 #[.val (.long p1), .second, .val (.long p2), .second, .val (.int p3), .val (.int p4), .val (.int p5), .val (.int (0 : Int32)), .unset, .unset, .unset, .unset, .unset, .unset, .unset] [(.long p2)])) _
        refine XS.lneg X0.here hx rfl (hb hby at_25) rfl ?_
        show Steps p.tables e below (s₁.setTop (mkF m 26 #[.val (.long p1), .second, .val (.long p2), .second, .val (.int p3), .val (.int p4), .val (.int p5), .val (.int (0 : Int32)), .unset, .unset, .unset, .unset, .unset, .unset, .unset] [(.long (-p2))])) _
        refine XS.lstore X0.here hx rfl (hb hby at_26) rfl (l' := #[.val (.long p1), .second, .val (.long p2), .second, .val (.int p3), .val (.int p4), .val (.int p5), .val (.int (0 : Int32)), .val (.long (-p2)), .second, .unset, .unset, .unset, .unset, .unset]) rfl ?_
        show Steps p.tables e below (s₁.setTop (mkF m 28 #[.val (.long p1), .second, .val (.long p2), .second, .val (.int p3), .val (.int p4), .val (.int p5), .val (.int (0 : Int32)), .val (.long (-p2)), .second, .unset, .unset, .unset, .unset, .unset] [])) _
        refine XS.lloadN X0.here hx rfl (hb hby at_28) rfl ?_
        show Steps p.tables e below (s₁.setTop (mkF m 29 #[.val (.long p1), .second, .val (.long p2), .second, .val (.int p3), .val (.int p4), .val (.int p5), .val (.int (0 : Int32)), .val (.long (-p2)), .second, .unset, .unset, .unset, .unset, .unset] [(.long p1)])) _
        refine XS.lload X0.here hx rfl (hb hby at_29) rfl ?_
        exact kt
      obtain ⟨_, _, ⟨T15, L15, k15, n15⟩, -, X15, ⟨Lc15, hQ15, l15, y15, z15⟩, st15⟩ := Jvm.LawKit.callS X0 hx (y := (⟨"com/example/coordinant/coordinant/tool/RunCountsPerSecondPinLaw", "make", "(JJ)Lcom/example/coordinant/coordinant/tool/Bank$RunCounts;"⟩ : MethodName)) hown (mvT hZ (hw _ (List.mem_of_getElem? (i := 1) rfl))) (mvT hZ (hw _ (List.mem_of_getElem? (i := 2) rfl))) (mvT hZ (hw _ (List.mem_of_getElem? (i := 3) rfl))) (mvT hZ (hw _ (List.mem_of_getElem? (i := 4) rfl))) (by decide) (backOf (W := 0) (mk l Z a0 hw [] p1 (-p2) h0 n0 Z0) hZ (hw _ (List.mem_of_getElem? (i := 4) rfl)) (hw _ (List.mem_of_getElem? (i := 3) rfl)) (by decide) (by decide)) (g := (mkF m 31 #[.val (.long p1), .second, .val (.long p2), .second, .val (.int p3), .val (.int p4), .val (.int p5), .val (.int (0 : Int32)), .val (.long (-p2)), .second, .unset, .unset, .unset, .unset, .unset] [(.long (-p2)), (.long p1)])) rfl (by rw [hml]; rfl) (argsL := [(.long p1), (.long (-p2))]) (rest := []) (lenOf pd_0 rfl) rfl (by show 2 * 0 + _ ≤ _; exact Nat.le_of_eq rfl) (hb hby at_31) (fun _ _ => ⟨rfl, e0, (by decide : 0 + 1 ≤ _), (by decide : 0 + 7 ≤ _)⟩)
      dsimp only [Pt.U, Pt.locs, Pt.cells, Pt.slots] at X15 l15 y15 z15 st15 hQ15
      subst l15 y15 z15
      obtain ⟨rfl, N15q, K15, Ex15, Fc15, Fn15⟩ := hQ15
      have N15 := Fr.app N0 N15q
      refine Ends.of st15 ?_
      have Zp : n0 ≤ T15.heap.size := Nat.le_trans Z0 K15.1
      obtain ⟨cq16, kq16, q16a, q16b, q16c⟩ := isOf hZ rfl Ex15
      obtain ⟨_, _, ⟨T16, L16, k16, n16⟩, -, X16, ⟨Lc16, hQ16, l16, y16, z16⟩, st16⟩ := X15.virtualBack hx (y := (⟨"com/example/coordinant/coordinant/tool/Bank$RunCounts", "perSecond", "()D"⟩ : MethodName)) (z := (⟨"com/example/coordinant/coordinant/tool/Bank$RunCounts", "perSecond", "()D"⟩ : MethodName)) hown (mvT hZ (hw _ (List.mem_of_getElem? (i := 34) rfl))) (mvT hZ (hw _ (List.mem_of_getElem? (i := 35) rfl))) (notFace_of_selects (args := #[]) (mvT hZ (hw _ (List.mem_of_getElem? (i := 37) rfl)))) (mvT hZ (hw _ (List.mem_of_getElem? (i := 37) rfl))) (mvT hZ (hw _ (List.mem_of_getElem? (i := 36) rfl))) (by decide) (backOf (W := 0) (per l Z a0 hw [] h0.size p1 (-p2) (FP.dmul (FP.l2d p1) (4741671816366391296 : UInt64)) T15.heap n0 Zp Fc15 Fn15 (by rw [own_t1 (-p2) (own_ng p2 h1)]; exact own_m0 p1)) hZ (hw _ (List.mem_of_getElem? (i := 38) rfl)) (hw _ (List.mem_of_getElem? (i := 7) rfl)) (by decide) (by decide)) q16a q16c (g := (mkF m 34 #[.val (.long p1), .second, .val (.long p2), .second, .val (.int p3), .val (.int p4), .val (.int p5), .val (.int (0 : Int32)), .val (.long (-p2)), .second, .unset, .unset, .unset, .unset, .unset] [(.ref h0.size)])) rfl (by rw [hml]; rfl) (Steps.refl _) (argsL := []) (rest := []) (lenOf pd_3 rfl) rfl (by show 2 * 0 + _ ≤ _; exact Nat.le_of_eq rfl) (hb hby at_34) (fun _ _ => ⟨rfl, rfl, (by decide : 1 + 0 ≤ _), (by decide : 7 + 0 ≤ _)⟩)
      dsimp only [Pt.U, Pt.locs, Pt.cells, Pt.slots] at X16 l16 y16 z16 st16 hQ16
      subst l16 y16 z16
      obtain ⟨rfl, N16q, e16⟩ := hQ16
      have N16 := Fr.app N15 N16q
      refine Ends.st st16 ?_
      refine Ends.of (F' := T16.setTop (mkF m 56 #[.val (.long p1), .second, .val (.long p2), .second, .val (.int p3), .val (.int p4), .val (.int p5), .val (.int (0 : Int32)), .val (.long (-p2)), .second, .val (.double (FP.dmul (FP.l2d p1) (4741671816366391296 : UInt64))), .second, .unset, .unset, .unset] [(.int (1 : Int32))])) (fun _ kt => ?_) ?_
      · show Steps p.tables e below (T16.setTop (mkF m 37 #[.val (.long p1), .second, .val (.long p2), .second, .val (.int p3), .val (.int p4), .val (.int p5), .val (.int (0 : Int32)), .val (.long (-p2)), .second, .unset, .unset, .unset, .unset, .unset] [(.double (FP.dmul (FP.l2d p1) (4741671816366391296 : UInt64)))])) _
        refine XS.dstore X16.here hx rfl (hb hby at_37) rfl (l' := #[.val (.long p1), .second, .val (.long p2), .second, .val (.int p3), .val (.int p4), .val (.int p5), .val (.int (0 : Int32)), .val (.long (-p2)), .second, .val (.double (FP.dmul (FP.l2d p1) (4741671816366391296 : UInt64))), .second, .unset, .unset, .unset]) rfl ?_
        show Steps p.tables e below (T16.setTop (mkF m 39 #[.val (.long p1), .second, .val (.long p2), .second, .val (.int p3), .val (.int p4), .val (.int p5), .val (.int (0 : Int32)), .val (.long (-p2)), .second, .val (.double (FP.dmul (FP.l2d p1) (4741671816366391296 : UInt64))), .second, .unset, .unset, .unset] [])) _
        refine XS.dload X16.here hx rfl (hb hby at_39) rfl ?_
        show Steps p.tables e below (T16.setTop (mkF m 41 #[.val (.long p1), .second, .val (.long p2), .second, .val (.int p3), .val (.int p4), .val (.int p5), .val (.int (0 : Int32)), .val (.long (-p2)), .second, .val (.double (FP.dmul (FP.l2d p1) (4741671816366391296 : UInt64))), .second, .unset, .unset, .unset] [(.double (FP.dmul (FP.l2d p1) (4741671816366391296 : UInt64)))])) _
        refine XS.lloadN X16.here hx rfl (hb hby at_41) rfl ?_
        show Steps p.tables e below (T16.setTop (mkF m 42 #[.val (.long p1), .second, .val (.long p2), .second, .val (.int p3), .val (.int p4), .val (.int p5), .val (.int (0 : Int32)), .val (.long (-p2)), .second, .val (.double (FP.dmul (FP.l2d p1) (4741671816366391296 : UInt64))), .second, .unset, .unset, .unset] [(.long p1), (.double (FP.dmul (FP.l2d p1) (4741671816366391296 : UInt64)))])) _
        refine XS.l2dS X16.here hx rfl (hb hby at_42) rfl rfl ?_
        show Steps p.tables e below (T16.setTop (mkF m 43 #[.val (.long p1), .second, .val (.long p2), .second, .val (.int p3), .val (.int p4), .val (.int p5), .val (.int (0 : Int32)), .val (.long (-p2)), .second, .val (.double (FP.dmul (FP.l2d p1) (4741671816366391296 : UInt64))), .second, .unset, .unset, .unset] [(.double (FP.l2d p1)), (.double (FP.dmul (FP.l2d p1) (4741671816366391296 : UInt64)))])) _
        refine X16.ldc2DoubleC hx hown (own_mvC hZ (hw _ (List.mem_of_getElem? (i := 44) rfl))) (g := (mkF m 43 #[.val (.long p1), .second, .val (.long p2), .second, .val (.int p3), .val (.int p4), .val (.int p5), .val (.int (0 : Int32)), .val (.long (-p2)), .second, .val (.double (FP.dmul (FP.l2d p1) (4741671816366391296 : UInt64))), .second, .unset, .unset, .unset] [(.double (FP.l2d p1)), (.double (FP.dmul (FP.l2d p1) (4741671816366391296 : UInt64)))])) rfl (hb hby at_43) _ ?_
        show Steps p.tables e below (T16.setTop (mkF m 46 #[.val (.long p1), .second, .val (.long p2), .second, .val (.int p3), .val (.int p4), .val (.int p5), .val (.int (0 : Int32)), .val (.long (-p2)), .second, .val (.double (FP.dmul (FP.l2d p1) (4741671816366391296 : UInt64))), .second, .unset, .unset, .unset] [(.double (4741671816366391296 : UInt64)), (.double (FP.l2d p1)), (.double (FP.dmul (FP.l2d p1) (4741671816366391296 : UInt64)))])) _
        refine XS.dmulS X16.here hx rfl (hb hby at_46) rfl (own_nn64 (own_nx p1)) rfl ?_
        show Steps p.tables e below (T16.setTop (mkF m 47 #[.val (.long p1), .second, .val (.long p2), .second, .val (.int p3), .val (.int p4), .val (.int p5), .val (.int (0 : Int32)), .val (.long (-p2)), .second, .val (.double (FP.dmul (FP.l2d p1) (4741671816366391296 : UInt64))), .second, .unset, .unset, .unset] [(.double (FP.dmul (FP.l2d p1) (4741671816366391296 : UInt64))), (.double (FP.dmul (FP.l2d p1) (4741671816366391296 : UInt64)))])) _
        refine XS.dcmpS X16.here hx rfl (hb hby at_47) rfl rfl ?_
        show Steps p.tables e below (T16.setTop (mkF m 48 #[.val (.long p1), .second, .val (.long p2), .second, .val (.int p3), .val (.int p4), .val (.int p5), .val (.int (0 : Int32)), .val (.long (-p2)), .second, .val (.double (FP.dmul (FP.l2d p1) (4741671816366391296 : UInt64))), .second, .unset, .unset, .unset] [(.int (cmpValue (FP.dcmp (FP.dmul (FP.l2d p1) (4741671816366391296 : UInt64)) (FP.dmul (FP.l2d p1) (4741671816366391296 : UInt64))) .l))])) _
        refine XS.ifNo X16.here hx rfl (hb hby at_48) rfl ((if0 _ _).trans (teq (dcmpV_self (own_nn64 (own_nx p1)) .l)).2) ?_
        show Steps p.tables e below (T16.setTop (mkF m 51 #[.val (.long p1), .second, .val (.long p2), .second, .val (.int p3), .val (.int p4), .val (.int p5), .val (.int (0 : Int32)), .val (.long (-p2)), .second, .val (.double (FP.dmul (FP.l2d p1) (4741671816366391296 : UInt64))), .second, .unset, .unset, .unset] [])) _
        refine XS.iconst X16.here hx rfl (hb hby at_51) ?_
        show Steps p.tables e below (T16.setTop (mkF m 52 #[.val (.long p1), .second, .val (.long p2), .second, .val (.int p3), .val (.int p4), .val (.int p5), .val (.int (0 : Int32)), .val (.long (-p2)), .second, .val (.double (FP.dmul (FP.l2d p1) (4741671816366391296 : UInt64))), .second, .unset, .unset, .unset] [(.int (1 : Int32))])) _
        refine XS.goto X16.here hx rfl (pc0 := 52) (pc' := 56) rfl (hb hby at_52) (by decide) (by decide) ?_
        exact kt
      obtain ⟨fs, hr, hrun, hended, hW, hsame⟩ := X16.leave (v := some (.int (1 : Int32))) (fun h => by rw [Bd.returns] at h; cases h)
      exact ⟨_, _, retN X16 hx (t := .boolean) Bd.returns (by simp) (hb hby at_56) hr, hrun, hended, _, _, rfl, ⟨rfl, N16⟩, ⟨_, rfl⟩, hW, hsame.mono (by decide) (by decide)⟩
    · refine Ends.of (F' := s₁.setTop (mkF m 31 #[.val (.long p1), .second, .val (.long p2), .second, .val (.int p3), .val (.int p4), .val (.int p5), .val (.int (0 : Int32)), .val (.long p2), .second, .unset, .unset, .unset, .unset, .unset] [(.long p2), (.long p1)])) (fun _ kt => ?_) ?_
      · show Steps p.tables e below (s₁.setTop (mkF m 17 #[.val (.long p1), .second, .val (.long p2), .second, .val (.int p3), .val (.int p4), .val (.int p5), .val (.int (0 : Int32)), .unset, .unset, .unset, .unset, .unset, .unset, .unset] [(.int (lcmpW p2 (1 : Int64)))])) _
        refine XS.ifNo X0.here hx rfl (hb hby at_17) rfl ((if0 _ _).trans (flt (mt (lw_gt _ _).mp h1)).2.2.1) ?_
        show Steps p.tables e below (s₁.setTop (mkF m 20 #[.val (.long p1), .second, .val (.long p2), .second, .val (.int p3), .val (.int p4), .val (.int p5), .val (.int (0 : Int32)), .unset, .unset, .unset, .unset, .unset, .unset, .unset] [])) _
        refine XS.lloadN X0.here hx rfl (hb hby at_20) rfl ?_
        show Steps p.tables e below (s₁.setTop (mkF m 21 #[.val (.long p1), .second, .val (.long p2), .second, .val (.int p3), .val (.int p4), .val (.int p5), .val (.int (0 : Int32)), .unset, .unset, .unset, .unset, .unset, .unset, .unset] [(.long p2)])) _
        refine XS.goto X0.here hx rfl (pc0 := 21) (pc' := 26) rfl (hb hby at_21) (by decide) (by decide) ?_
        show Steps p.tables e below (s₁.setTop (mkF m 26 #[.val (.long p1), .second, .val (.long p2), .second, .val (.int p3), .val (.int p4), .val (.int p5), .val (.int (0 : Int32)), .unset, .unset, .unset, .unset, .unset, .unset, .unset] [(.long p2)])) _
        refine XS.lstore X0.here hx rfl (hb hby at_26) rfl (l' := #[.val (.long p1), .second, .val (.long p2), .second, .val (.int p3), .val (.int p4), .val (.int p5), .val (.int (0 : Int32)), .val (.long p2), .second, .unset, .unset, .unset, .unset, .unset]) rfl ?_
        show Steps p.tables e below (s₁.setTop (mkF m 28 #[.val (.long p1), .second, .val (.long p2), .second, .val (.int p3), .val (.int p4), .val (.int p5), .val (.int (0 : Int32)), .val (.long p2), .second, .unset, .unset, .unset, .unset, .unset] [])) _
        refine XS.lloadN X0.here hx rfl (hb hby at_28) rfl ?_
        show Steps p.tables e below (s₁.setTop (mkF m 29 #[.val (.long p1), .second, .val (.long p2), .second, .val (.int p3), .val (.int p4), .val (.int p5), .val (.int (0 : Int32)), .val (.long p2), .second, .unset, .unset, .unset, .unset, .unset] [(.long p1)])) _
        refine XS.lload X0.here hx rfl (hb hby at_29) rfl ?_
        exact kt
      obtain ⟨_, _, ⟨T17, L17, k17, n17⟩, -, X17, ⟨Lc17, hQ17, l17, y17, z17⟩, st17⟩ := Jvm.LawKit.callS X0 hx (y := (⟨"com/example/coordinant/coordinant/tool/RunCountsPerSecondPinLaw", "make", "(JJ)Lcom/example/coordinant/coordinant/tool/Bank$RunCounts;"⟩ : MethodName)) hown (mvT hZ (hw _ (List.mem_of_getElem? (i := 1) rfl))) (mvT hZ (hw _ (List.mem_of_getElem? (i := 2) rfl))) (mvT hZ (hw _ (List.mem_of_getElem? (i := 3) rfl))) (mvT hZ (hw _ (List.mem_of_getElem? (i := 4) rfl))) (by decide) (backOf (W := 0) (mk l Z a0 hw [] p1 p2 h0 n0 Z0) hZ (hw _ (List.mem_of_getElem? (i := 4) rfl)) (hw _ (List.mem_of_getElem? (i := 3) rfl)) (by decide) (by decide)) (g := (mkF m 31 #[.val (.long p1), .second, .val (.long p2), .second, .val (.int p3), .val (.int p4), .val (.int p5), .val (.int (0 : Int32)), .val (.long p2), .second, .unset, .unset, .unset, .unset, .unset] [(.long p2), (.long p1)])) rfl (by rw [hml]; rfl) (argsL := [(.long p1), (.long p2)]) (rest := []) (lenOf pd_0 rfl) rfl (by show 2 * 0 + _ ≤ _; exact Nat.le_of_eq rfl) (hb hby at_31) (fun _ _ => ⟨rfl, e0, (by decide : 0 + 1 ≤ _), (by decide : 0 + 7 ≤ _)⟩)
      dsimp only [Pt.U, Pt.locs, Pt.cells, Pt.slots] at X17 l17 y17 z17 st17 hQ17
      subst l17 y17 z17
      obtain ⟨rfl, N17q, K17, Ex17, Fc17, Fn17⟩ := hQ17
      have N17 := Fr.app N0 N17q
      refine Ends.of st17 ?_
      have Zp : n0 ≤ T17.heap.size := Nat.le_trans Z0 K17.1
      obtain ⟨cq18, kq18, q18a, q18b, q18c⟩ := isOf hZ rfl Ex17
      obtain ⟨_, _, ⟨T18, L18, k18, n18⟩, -, X18, ⟨Lc18, hQ18, l18, y18, z18⟩, st18⟩ := X17.virtualBack hx (y := (⟨"com/example/coordinant/coordinant/tool/Bank$RunCounts", "perSecond", "()D"⟩ : MethodName)) (z := (⟨"com/example/coordinant/coordinant/tool/Bank$RunCounts", "perSecond", "()D"⟩ : MethodName)) hown (mvT hZ (hw _ (List.mem_of_getElem? (i := 34) rfl))) (mvT hZ (hw _ (List.mem_of_getElem? (i := 35) rfl))) (notFace_of_selects (args := #[]) (mvT hZ (hw _ (List.mem_of_getElem? (i := 37) rfl)))) (mvT hZ (hw _ (List.mem_of_getElem? (i := 37) rfl))) (mvT hZ (hw _ (List.mem_of_getElem? (i := 36) rfl))) (by decide) (backOf (W := 0) (per l Z a0 hw [] h0.size p1 p2 (FP.dmul (FP.l2d p1) (4741671816366391296 : UInt64)) T17.heap n0 Zp Fc17 Fn17 (by rw [own_t1 p2 (own_nl p2 h1)]; exact own_m0 p1)) hZ (hw _ (List.mem_of_getElem? (i := 38) rfl)) (hw _ (List.mem_of_getElem? (i := 7) rfl)) (by decide) (by decide)) q18a q18c (g := (mkF m 34 #[.val (.long p1), .second, .val (.long p2), .second, .val (.int p3), .val (.int p4), .val (.int p5), .val (.int (0 : Int32)), .val (.long p2), .second, .unset, .unset, .unset, .unset, .unset] [(.ref h0.size)])) rfl (by rw [hml]; rfl) (Steps.refl _) (argsL := []) (rest := []) (lenOf pd_3 rfl) rfl (by show 2 * 0 + _ ≤ _; exact Nat.le_of_eq rfl) (hb hby at_34) (fun _ _ => ⟨rfl, rfl, (by decide : 1 + 0 ≤ _), (by decide : 7 + 0 ≤ _)⟩)
      dsimp only [Pt.U, Pt.locs, Pt.cells, Pt.slots] at X18 l18 y18 z18 st18 hQ18
      subst l18 y18 z18
      obtain ⟨rfl, N18q, e18⟩ := hQ18
      have N18 := Fr.app N17 N18q
      refine Ends.st st18 ?_
      refine Ends.of (F' := T18.setTop (mkF m 56 #[.val (.long p1), .second, .val (.long p2), .second, .val (.int p3), .val (.int p4), .val (.int p5), .val (.int (0 : Int32)), .val (.long p2), .second, .val (.double (FP.dmul (FP.l2d p1) (4741671816366391296 : UInt64))), .second, .unset, .unset, .unset] [(.int (1 : Int32))])) (fun _ kt => ?_) ?_
      · show Steps p.tables e below (T18.setTop (mkF m 37 #[.val (.long p1), .second, .val (.long p2), .second, .val (.int p3), .val (.int p4), .val (.int p5), .val (.int (0 : Int32)), .val (.long p2), .second, .unset, .unset, .unset, .unset, .unset] [(.double (FP.dmul (FP.l2d p1) (4741671816366391296 : UInt64)))])) _
        refine XS.dstore X18.here hx rfl (hb hby at_37) rfl (l' := #[.val (.long p1), .second, .val (.long p2), .second, .val (.int p3), .val (.int p4), .val (.int p5), .val (.int (0 : Int32)), .val (.long p2), .second, .val (.double (FP.dmul (FP.l2d p1) (4741671816366391296 : UInt64))), .second, .unset, .unset, .unset]) rfl ?_
        show Steps p.tables e below (T18.setTop (mkF m 39 #[.val (.long p1), .second, .val (.long p2), .second, .val (.int p3), .val (.int p4), .val (.int p5), .val (.int (0 : Int32)), .val (.long p2), .second, .val (.double (FP.dmul (FP.l2d p1) (4741671816366391296 : UInt64))), .second, .unset, .unset, .unset] [])) _
        refine XS.dload X18.here hx rfl (hb hby at_39) rfl ?_
        show Steps p.tables e below (T18.setTop (mkF m 41 #[.val (.long p1), .second, .val (.long p2), .second, .val (.int p3), .val (.int p4), .val (.int p5), .val (.int (0 : Int32)), .val (.long p2), .second, .val (.double (FP.dmul (FP.l2d p1) (4741671816366391296 : UInt64))), .second, .unset, .unset, .unset] [(.double (FP.dmul (FP.l2d p1) (4741671816366391296 : UInt64)))])) _
        refine XS.lloadN X18.here hx rfl (hb hby at_41) rfl ?_
        show Steps p.tables e below (T18.setTop (mkF m 42 #[.val (.long p1), .second, .val (.long p2), .second, .val (.int p3), .val (.int p4), .val (.int p5), .val (.int (0 : Int32)), .val (.long p2), .second, .val (.double (FP.dmul (FP.l2d p1) (4741671816366391296 : UInt64))), .second, .unset, .unset, .unset] [(.long p1), (.double (FP.dmul (FP.l2d p1) (4741671816366391296 : UInt64)))])) _
        refine XS.l2dS X18.here hx rfl (hb hby at_42) rfl rfl ?_
        show Steps p.tables e below (T18.setTop (mkF m 43 #[.val (.long p1), .second, .val (.long p2), .second, .val (.int p3), .val (.int p4), .val (.int p5), .val (.int (0 : Int32)), .val (.long p2), .second, .val (.double (FP.dmul (FP.l2d p1) (4741671816366391296 : UInt64))), .second, .unset, .unset, .unset] [(.double (FP.l2d p1)), (.double (FP.dmul (FP.l2d p1) (4741671816366391296 : UInt64)))])) _
        refine X18.ldc2DoubleC hx hown (own_mvC hZ (hw _ (List.mem_of_getElem? (i := 44) rfl))) (g := (mkF m 43 #[.val (.long p1), .second, .val (.long p2), .second, .val (.int p3), .val (.int p4), .val (.int p5), .val (.int (0 : Int32)), .val (.long p2), .second, .val (.double (FP.dmul (FP.l2d p1) (4741671816366391296 : UInt64))), .second, .unset, .unset, .unset] [(.double (FP.l2d p1)), (.double (FP.dmul (FP.l2d p1) (4741671816366391296 : UInt64)))])) rfl (hb hby at_43) _ ?_
        show Steps p.tables e below (T18.setTop (mkF m 46 #[.val (.long p1), .second, .val (.long p2), .second, .val (.int p3), .val (.int p4), .val (.int p5), .val (.int (0 : Int32)), .val (.long p2), .second, .val (.double (FP.dmul (FP.l2d p1) (4741671816366391296 : UInt64))), .second, .unset, .unset, .unset] [(.double (4741671816366391296 : UInt64)), (.double (FP.l2d p1)), (.double (FP.dmul (FP.l2d p1) (4741671816366391296 : UInt64)))])) _
        refine XS.dmulS X18.here hx rfl (hb hby at_46) rfl (own_nn64 (own_nx p1)) rfl ?_
        show Steps p.tables e below (T18.setTop (mkF m 47 #[.val (.long p1), .second, .val (.long p2), .second, .val (.int p3), .val (.int p4), .val (.int p5), .val (.int (0 : Int32)), .val (.long p2), .second, .val (.double (FP.dmul (FP.l2d p1) (4741671816366391296 : UInt64))), .second, .unset, .unset, .unset] [(.double (FP.dmul (FP.l2d p1) (4741671816366391296 : UInt64))), (.double (FP.dmul (FP.l2d p1) (4741671816366391296 : UInt64)))])) _
        refine XS.dcmpS X18.here hx rfl (hb hby at_47) rfl rfl ?_
        show Steps p.tables e below (T18.setTop (mkF m 48 #[.val (.long p1), .second, .val (.long p2), .second, .val (.int p3), .val (.int p4), .val (.int p5), .val (.int (0 : Int32)), .val (.long p2), .second, .val (.double (FP.dmul (FP.l2d p1) (4741671816366391296 : UInt64))), .second, .unset, .unset, .unset] [(.int (cmpValue (FP.dcmp (FP.dmul (FP.l2d p1) (4741671816366391296 : UInt64)) (FP.dmul (FP.l2d p1) (4741671816366391296 : UInt64))) .l))])) _
        refine XS.ifNo X18.here hx rfl (hb hby at_48) rfl ((if0 _ _).trans (teq (dcmpV_self (own_nn64 (own_nx p1)) .l)).2) ?_
        show Steps p.tables e below (T18.setTop (mkF m 51 #[.val (.long p1), .second, .val (.long p2), .second, .val (.int p3), .val (.int p4), .val (.int p5), .val (.int (0 : Int32)), .val (.long p2), .second, .val (.double (FP.dmul (FP.l2d p1) (4741671816366391296 : UInt64))), .second, .unset, .unset, .unset] [])) _
        refine XS.iconst X18.here hx rfl (hb hby at_51) ?_
        show Steps p.tables e below (T18.setTop (mkF m 52 #[.val (.long p1), .second, .val (.long p2), .second, .val (.int p3), .val (.int p4), .val (.int p5), .val (.int (0 : Int32)), .val (.long p2), .second, .val (.double (FP.dmul (FP.l2d p1) (4741671816366391296 : UInt64))), .second, .unset, .unset, .unset] [(.int (1 : Int32))])) _
        refine XS.goto X18.here hx rfl (pc0 := 52) (pc' := 56) rfl (hb hby at_52) (by decide) (by decide) ?_
        exact kt
      obtain ⟨fs, hr, hrun, hended, hW, hsame⟩ := X18.leave (v := some (.int (1 : Int32))) (fun h => by rw [Bd.returns] at h; cases h)
      exact ⟨_, _, retN X18 hx (t := .boolean) Bd.returns (by simp) (hb hby at_56) hr, hrun, hended, _, _, rfl, ⟨rfl, N18⟩, ⟨_, rfl⟩, hW, hsame.mono (by decide) (by decide)⟩
  · rw [hM]
    refine Ends.of (F' := s₁.setTop (mkF m 72 #[.val (.long p1), .second, .val (.long p2), .second, .val (.int p3), .val (.int p4), .val (.int p5), .val (.int (1 : Int32)), .val (.long (p1 - (p1 / (9000000 : Int64)) * (9000000 : Int64))), .second, .unset, .unset, .unset, .unset, .unset] [(.int (10 : Int32))])) (fun _ kt => ?_) ?_
    · show Steps p.tables e below (s₁.setTop (mkF m 9 #[.val (.long p1), .second, .val (.long p2), .second, .val (.int p3), .val (.int p4), .val (.int p5), .val (.int (1 : Int32)), .unset, .unset, .unset, .unset, .unset, .unset, .unset] [])) _
      refine XS.iload X0.here hx rfl (hb hby at_9) rfl ?_
      show Steps p.tables e below (s₁.setTop (mkF m 11 #[.val (.long p1), .second, .val (.long p2), .second, .val (.int p3), .val (.int p4), .val (.int p5), .val (.int (1 : Int32)), .unset, .unset, .unset, .unset, .unset, .unset, .unset] [(.int (1 : Int32))])) _
      refine XS.ifYes X0.here hx rfl (pc0 := 11) (pc' := 57) rfl (hb hby at_11) rfl ((if0 _ _).trans (feq (by decide)).2) (by decide) (by decide) ?_
      show Steps p.tables e below (s₁.setTop (mkF m 57 #[.val (.long p1), .second, .val (.long p2), .second, .val (.int p3), .val (.int p4), .val (.int p5), .val (.int (1 : Int32)), .unset, .unset, .unset, .unset, .unset, .unset, .unset] [])) _
      refine XS.iload X0.here hx rfl (hb hby at_57) rfl ?_
      show Steps p.tables e below (s₁.setTop (mkF m 59 #[.val (.long p1), .second, .val (.long p2), .second, .val (.int p3), .val (.int p4), .val (.int p5), .val (.int (1 : Int32)), .unset, .unset, .unset, .unset, .unset, .unset, .unset] [(.int (1 : Int32))])) _
      refine XS.iconst X0.here hx rfl (hb hby at_59) ?_
      show Steps p.tables e below (s₁.setTop (mkF m 60 #[.val (.long p1), .second, .val (.long p2), .second, .val (.int p3), .val (.int p4), .val (.int p5), .val (.int (1 : Int32)), .unset, .unset, .unset, .unset, .unset, .unset, .unset] [(.int (1 : Int32)), (.int (1 : Int32))])) _
      refine XS.icmpNo X0.here hx rfl (hb hby at_60) rfl (teq rfl).2 ?_
      show Steps p.tables e below (s₁.setTop (mkF m 63 #[.val (.long p1), .second, .val (.long p2), .second, .val (.int p3), .val (.int p4), .val (.int p5), .val (.int (1 : Int32)), .unset, .unset, .unset, .unset, .unset, .unset, .unset] [])) _
      refine XS.lloadN X0.here hx rfl (hb hby at_63) rfl ?_
      show Steps p.tables e below (s₁.setTop (mkF m 64 #[.val (.long p1), .second, .val (.long p2), .second, .val (.int p3), .val (.int p4), .val (.int p5), .val (.int (1 : Int32)), .unset, .unset, .unset, .unset, .unset, .unset, .unset] [(.long p1)])) _
      refine X0.ldc2Long hx hown (mvT hZ (hw _ (List.mem_of_getElem? (i := 49) rfl))) (g := (mkF m 64 #[.val (.long p1), .second, .val (.long p2), .second, .val (.int p3), .val (.int p4), .val (.int p5), .val (.int (1 : Int32)), .unset, .unset, .unset, .unset, .unset, .unset, .unset] [(.long p1)])) rfl (hb hby at_64) _ ?_
      show Steps p.tables e below (s₁.setTop (mkF m 67 #[.val (.long p1), .second, .val (.long p2), .second, .val (.int p3), .val (.int p4), .val (.int p5), .val (.int (1 : Int32)), .unset, .unset, .unset, .unset, .unset, .unset, .unset] [(.long (9000000 : Int64)), (.long p1)])) _
      refine XS.lrem X0.here hx rfl (hb hby at_67) rfl (by decide) ?_
      show Steps p.tables e below (s₁.setTop (mkF m 68 #[.val (.long p1), .second, .val (.long p2), .second, .val (.int p3), .val (.int p4), .val (.int p5), .val (.int (1 : Int32)), .unset, .unset, .unset, .unset, .unset, .unset, .unset] [(.long (p1 - (p1 / (9000000 : Int64)) * (9000000 : Int64)))])) _
      refine XS.lstore X0.here hx rfl (hb hby at_68) rfl (l' := #[.val (.long p1), .second, .val (.long p2), .second, .val (.int p3), .val (.int p4), .val (.int p5), .val (.int (1 : Int32)), .val (.long (p1 - (p1 / (9000000 : Int64)) * (9000000 : Int64))), .second, .unset, .unset, .unset, .unset, .unset]) rfl ?_
      show Steps p.tables e below (s₁.setTop (mkF m 70 #[.val (.long p1), .second, .val (.long p2), .second, .val (.int p3), .val (.int p4), .val (.int p5), .val (.int (1 : Int32)), .val (.long (p1 - (p1 / (9000000 : Int64)) * (9000000 : Int64))), .second, .unset, .unset, .unset, .unset, .unset] [])) _
      refine XS.bipush X0.here hx rfl (hb hby at_70) ?_
      exact kt
    obtain ⟨T19, h19, k19, X19, e19, E19, A19, st19⟩ := newP X0 hx hZ (hw _ (List.mem_of_getElem? (i := 50) rfl)) e0 (g := (mkF m 72 #[.val (.long p1), .second, .val (.long p2), .second, .val (.int p3), .val (.int p4), .val (.int p5), .val (.int (1 : Int32)), .val (.long (p1 - (p1 / (9000000 : Int64)) * (9000000 : Int64))), .second, .unset, .unset, .unset, .unset, .unset] [(.int (10 : Int32))])) rfl (hb hby at_72) rfl (by decide) (cap := 10) (by decide) (by decide) (by decide) (by decide)
    obtain ⟨b19, g19⟩ : ∃ z, z = h0.size := ⟨_, rfl⟩
    rw [← g19] at A19 st19
    refine Ends.of st19 ?_
    have V0 : AryL Z h19 b19 10 (fun _ => 0) := AryL.new (n := 10) A19 (by omega)
    have ga : n0 ≤ b19 := Nat.le_trans Z0 (Nat.le_of_eq g19.symm)
    have K0 : Keep h0 h19 [] := (Keep.refl h0 []).ext E19
    obtain ⟨cx0, Ax0, Sx0, -, put0⟩ := V0.op
    refine Ends.of (F' := T19.setTop (mkF m 77 #[.val (.long p1), .second, .val (.long p2), .second, .val (.int p3), .val (.int p4), .val (.int p5), .val (.int (1 : Int32)), .val (.long (p1 - (p1 / (9000000 : Int64)) * (9000000 : Int64))), .second, .unset, .unset, .unset, .unset, .unset] [(.long (1 : Int64)), (.int (0 : Int32)), (.ref b19), (.ref b19)])) (fun _ kt => ?_) ?_
    · show Steps p.tables e below (T19.setTop (mkF m 74 #[.val (.long p1), .second, .val (.long p2), .second, .val (.int p3), .val (.int p4), .val (.int p5), .val (.int (1 : Int32)), .val (.long (p1 - (p1 / (9000000 : Int64)) * (9000000 : Int64))), .second, .unset, .unset, .unset, .unset, .unset] [(.ref b19)])) _
      refine XS.dup X19.here hx rfl (hb hby at_74) rfl rfl ?_
      show Steps p.tables e below (T19.setTop (mkF m 75 #[.val (.long p1), .second, .val (.long p2), .second, .val (.int p3), .val (.int p4), .val (.int p5), .val (.int (1 : Int32)), .val (.long (p1 - (p1 / (9000000 : Int64)) * (9000000 : Int64))), .second, .unset, .unset, .unset, .unset, .unset] [(.ref b19), (.ref b19)])) _
      refine XS.iconst X19.here hx rfl (hb hby at_75) ?_
      show Steps p.tables e below (T19.setTop (mkF m 76 #[.val (.long p1), .second, .val (.long p2), .second, .val (.int p3), .val (.int p4), .val (.int p5), .val (.int (1 : Int32)), .val (.long (p1 - (p1 / (9000000 : Int64)) * (9000000 : Int64))), .second, .unset, .unset, .unset, .unset, .unset] [(.int (0 : Int32)), (.ref b19), (.ref b19)])) _
      refine XS.lconst X19.here hx rfl (hb hby at_76) ?_
      exact kt
    obtain ⟨T20, h20, X20, e20, W20, st20⟩ := stJ X19 hx hZ e19 Ax0 (j := (0 : Int32)) (own_hin (i := 0) Sx0 rfl (by omega) (by omega)) (g := (mkF m 77 #[.val (.long p1), .second, .val (.long p2), .second, .val (.int p3), .val (.int p4), .val (.int p5), .val (.int (1 : Int32)), .val (.long (p1 - (p1 / (9000000 : Int64)) * (9000000 : Int64))), .second, .unset, .unset, .unset, .unset, .unset] [(.long (1 : Int64)), (.int (0 : Int32)), (.ref b19), (.ref b19)])) rfl rfl (hb hby at_77)
    refine Ends.of st20 ?_
    have N20 := Fr.snoc X20 N0 ga
    have V1 := put0 _ _ _ 0 W20 (by decide) (by omega)
    have K1 : Keep h0 h20 [] := K0.wr W20 (Or.inr (Nat.le_of_eq g19.symm))
    obtain ⟨cx1, Ax1, Sx1, -, put1⟩ := V1.op
    refine Ends.of (F' := T20.setTop (mkF m 83 #[.val (.long p1), .second, .val (.long p2), .second, .val (.int p3), .val (.int p4), .val (.int p5), .val (.int (1 : Int32)), .val (.long (p1 - (p1 / (9000000 : Int64)) * (9000000 : Int64))), .second, .unset, .unset, .unset, .unset, .unset] [(.long (5 : Int64)), (.int (1 : Int32)), (.ref b19), (.ref b19)])) (fun _ kt => ?_) ?_
    · show Steps p.tables e below (T20.setTop (mkF m 78 #[.val (.long p1), .second, .val (.long p2), .second, .val (.int p3), .val (.int p4), .val (.int p5), .val (.int (1 : Int32)), .val (.long (p1 - (p1 / (9000000 : Int64)) * (9000000 : Int64))), .second, .unset, .unset, .unset, .unset, .unset] [(.ref b19)])) _
      refine XS.dup X20.here hx rfl (hb hby at_78) rfl rfl ?_
      show Steps p.tables e below (T20.setTop (mkF m 79 #[.val (.long p1), .second, .val (.long p2), .second, .val (.int p3), .val (.int p4), .val (.int p5), .val (.int (1 : Int32)), .val (.long (p1 - (p1 / (9000000 : Int64)) * (9000000 : Int64))), .second, .unset, .unset, .unset, .unset, .unset] [(.ref b19), (.ref b19)])) _
      refine XS.iconst X20.here hx rfl (hb hby at_79) ?_
      show Steps p.tables e below (T20.setTop (mkF m 80 #[.val (.long p1), .second, .val (.long p2), .second, .val (.int p3), .val (.int p4), .val (.int p5), .val (.int (1 : Int32)), .val (.long (p1 - (p1 / (9000000 : Int64)) * (9000000 : Int64))), .second, .unset, .unset, .unset, .unset, .unset] [(.int (1 : Int32)), (.ref b19), (.ref b19)])) _
      refine X20.ldc2Long hx hown (mvT hZ (hw _ (List.mem_of_getElem? (i := 8) rfl))) (g := (mkF m 80 #[.val (.long p1), .second, .val (.long p2), .second, .val (.int p3), .val (.int p4), .val (.int p5), .val (.int (1 : Int32)), .val (.long (p1 - (p1 / (9000000 : Int64)) * (9000000 : Int64))), .second, .unset, .unset, .unset, .unset, .unset] [(.int (1 : Int32)), (.ref b19), (.ref b19)])) rfl (hb hby at_80) _ ?_
      exact kt
    obtain ⟨T21, h21, X21, e21, W21, st21⟩ := stJ X20 hx hZ e20 Ax1 (j := (1 : Int32)) (own_hin (i := 1) Sx1 rfl (by omega) (by omega)) (g := (mkF m 83 #[.val (.long p1), .second, .val (.long p2), .second, .val (.int p3), .val (.int p4), .val (.int p5), .val (.int (1 : Int32)), .val (.long (p1 - (p1 / (9000000 : Int64)) * (9000000 : Int64))), .second, .unset, .unset, .unset, .unset, .unset] [(.long (5 : Int64)), (.int (1 : Int32)), (.ref b19), (.ref b19)])) rfl rfl (hb hby at_83)
    refine Ends.of st21 ?_
    have N21 := Fr.snoc X21 N20 ga
    have V2 := put1 _ _ _ 1 W21 (by decide) (by omega)
    have K2 : Keep h0 h21 [] := K1.wr W21 (Or.inr (Nat.le_of_eq g19.symm))
    obtain ⟨cx2, Ax2, Sx2, -, put2⟩ := V2.op
    refine Ends.of (F' := T21.setTop (mkF m 89 #[.val (.long p1), .second, .val (.long p2), .second, .val (.int p3), .val (.int p4), .val (.int p5), .val (.int (1 : Int32)), .val (.long (p1 - (p1 / (9000000 : Int64)) * (9000000 : Int64))), .second, .unset, .unset, .unset, .unset, .unset] [(.long (25 : Int64)), (.int (2 : Int32)), (.ref b19), (.ref b19)])) (fun _ kt => ?_) ?_
    · show Steps p.tables e below (T21.setTop (mkF m 84 #[.val (.long p1), .second, .val (.long p2), .second, .val (.int p3), .val (.int p4), .val (.int p5), .val (.int (1 : Int32)), .val (.long (p1 - (p1 / (9000000 : Int64)) * (9000000 : Int64))), .second, .unset, .unset, .unset, .unset, .unset] [(.ref b19)])) _
      refine XS.dup X21.here hx rfl (hb hby at_84) rfl rfl ?_
      show Steps p.tables e below (T21.setTop (mkF m 85 #[.val (.long p1), .second, .val (.long p2), .second, .val (.int p3), .val (.int p4), .val (.int p5), .val (.int (1 : Int32)), .val (.long (p1 - (p1 / (9000000 : Int64)) * (9000000 : Int64))), .second, .unset, .unset, .unset, .unset, .unset] [(.ref b19), (.ref b19)])) _
      refine XS.iconst X21.here hx rfl (hb hby at_85) ?_
      show Steps p.tables e below (T21.setTop (mkF m 86 #[.val (.long p1), .second, .val (.long p2), .second, .val (.int p3), .val (.int p4), .val (.int p5), .val (.int (1 : Int32)), .val (.long (p1 - (p1 / (9000000 : Int64)) * (9000000 : Int64))), .second, .unset, .unset, .unset, .unset, .unset] [(.int (2 : Int32)), (.ref b19), (.ref b19)])) _
      refine X21.ldc2Long hx hown (mvT hZ (hw _ (List.mem_of_getElem? (i := 51) rfl))) (g := (mkF m 86 #[.val (.long p1), .second, .val (.long p2), .second, .val (.int p3), .val (.int p4), .val (.int p5), .val (.int (1 : Int32)), .val (.long (p1 - (p1 / (9000000 : Int64)) * (9000000 : Int64))), .second, .unset, .unset, .unset, .unset, .unset] [(.int (2 : Int32)), (.ref b19), (.ref b19)])) rfl (hb hby at_86) _ ?_
      exact kt
    obtain ⟨T22, h22, X22, e22, W22, st22⟩ := stJ X21 hx hZ e21 Ax2 (j := (2 : Int32)) (own_hin (i := 2) Sx2 rfl (by omega) (by omega)) (g := (mkF m 89 #[.val (.long p1), .second, .val (.long p2), .second, .val (.int p3), .val (.int p4), .val (.int p5), .val (.int (1 : Int32)), .val (.long (p1 - (p1 / (9000000 : Int64)) * (9000000 : Int64))), .second, .unset, .unset, .unset, .unset, .unset] [(.long (25 : Int64)), (.int (2 : Int32)), (.ref b19), (.ref b19)])) rfl rfl (hb hby at_89)
    refine Ends.of st22 ?_
    have N22 := Fr.snoc X22 N21 ga
    have V3 := put2 _ _ _ 2 W22 (by decide) (by omega)
    have K3 : Keep h0 h22 [] := K2.wr W22 (Or.inr (Nat.le_of_eq g19.symm))
    obtain ⟨cx3, Ax3, Sx3, -, put3⟩ := V3.op
    refine Ends.of (F' := T22.setTop (mkF m 95 #[.val (.long p1), .second, .val (.long p2), .second, .val (.int p3), .val (.int p4), .val (.int p5), .val (.int (1 : Int32)), .val (.long (p1 - (p1 / (9000000 : Int64)) * (9000000 : Int64))), .second, .unset, .unset, .unset, .unset, .unset] [(.long (125 : Int64)), (.int (3 : Int32)), (.ref b19), (.ref b19)])) (fun _ kt => ?_) ?_
    · show Steps p.tables e below (T22.setTop (mkF m 90 #[.val (.long p1), .second, .val (.long p2), .second, .val (.int p3), .val (.int p4), .val (.int p5), .val (.int (1 : Int32)), .val (.long (p1 - (p1 / (9000000 : Int64)) * (9000000 : Int64))), .second, .unset, .unset, .unset, .unset, .unset] [(.ref b19)])) _
      refine XS.dup X22.here hx rfl (hb hby at_90) rfl rfl ?_
      show Steps p.tables e below (T22.setTop (mkF m 91 #[.val (.long p1), .second, .val (.long p2), .second, .val (.int p3), .val (.int p4), .val (.int p5), .val (.int (1 : Int32)), .val (.long (p1 - (p1 / (9000000 : Int64)) * (9000000 : Int64))), .second, .unset, .unset, .unset, .unset, .unset] [(.ref b19), (.ref b19)])) _
      refine XS.iconst X22.here hx rfl (hb hby at_91) ?_
      show Steps p.tables e below (T22.setTop (mkF m 92 #[.val (.long p1), .second, .val (.long p2), .second, .val (.int p3), .val (.int p4), .val (.int p5), .val (.int (1 : Int32)), .val (.long (p1 - (p1 / (9000000 : Int64)) * (9000000 : Int64))), .second, .unset, .unset, .unset, .unset, .unset] [(.int (3 : Int32)), (.ref b19), (.ref b19)])) _
      refine X22.ldc2Long hx hown (mvT hZ (hw _ (List.mem_of_getElem? (i := 52) rfl))) (g := (mkF m 92 #[.val (.long p1), .second, .val (.long p2), .second, .val (.int p3), .val (.int p4), .val (.int p5), .val (.int (1 : Int32)), .val (.long (p1 - (p1 / (9000000 : Int64)) * (9000000 : Int64))), .second, .unset, .unset, .unset, .unset, .unset] [(.int (3 : Int32)), (.ref b19), (.ref b19)])) rfl (hb hby at_92) _ ?_
      exact kt
    obtain ⟨T23, h23, X23, e23, W23, st23⟩ := stJ X22 hx hZ e22 Ax3 (j := (3 : Int32)) (own_hin (i := 3) Sx3 rfl (by omega) (by omega)) (g := (mkF m 95 #[.val (.long p1), .second, .val (.long p2), .second, .val (.int p3), .val (.int p4), .val (.int p5), .val (.int (1 : Int32)), .val (.long (p1 - (p1 / (9000000 : Int64)) * (9000000 : Int64))), .second, .unset, .unset, .unset, .unset, .unset] [(.long (125 : Int64)), (.int (3 : Int32)), (.ref b19), (.ref b19)])) rfl rfl (hb hby at_95)
    refine Ends.of st23 ?_
    have N23 := Fr.snoc X23 N22 ga
    have V4 := put3 _ _ _ 3 W23 (by decide) (by omega)
    have K4 : Keep h0 h23 [] := K3.wr W23 (Or.inr (Nat.le_of_eq g19.symm))
    obtain ⟨cx4, Ax4, Sx4, -, put4⟩ := V4.op
    refine Ends.of (F' := T23.setTop (mkF m 101 #[.val (.long p1), .second, .val (.long p2), .second, .val (.int p3), .val (.int p4), .val (.int p5), .val (.int (1 : Int32)), .val (.long (p1 - (p1 / (9000000 : Int64)) * (9000000 : Int64))), .second, .unset, .unset, .unset, .unset, .unset] [(.long (625 : Int64)), (.int (4 : Int32)), (.ref b19), (.ref b19)])) (fun _ kt => ?_) ?_
    · show Steps p.tables e below (T23.setTop (mkF m 96 #[.val (.long p1), .second, .val (.long p2), .second, .val (.int p3), .val (.int p4), .val (.int p5), .val (.int (1 : Int32)), .val (.long (p1 - (p1 / (9000000 : Int64)) * (9000000 : Int64))), .second, .unset, .unset, .unset, .unset, .unset] [(.ref b19)])) _
      refine XS.dup X23.here hx rfl (hb hby at_96) rfl rfl ?_
      show Steps p.tables e below (T23.setTop (mkF m 97 #[.val (.long p1), .second, .val (.long p2), .second, .val (.int p3), .val (.int p4), .val (.int p5), .val (.int (1 : Int32)), .val (.long (p1 - (p1 / (9000000 : Int64)) * (9000000 : Int64))), .second, .unset, .unset, .unset, .unset, .unset] [(.ref b19), (.ref b19)])) _
      refine XS.iconst X23.here hx rfl (hb hby at_97) ?_
      show Steps p.tables e below (T23.setTop (mkF m 98 #[.val (.long p1), .second, .val (.long p2), .second, .val (.int p3), .val (.int p4), .val (.int p5), .val (.int (1 : Int32)), .val (.long (p1 - (p1 / (9000000 : Int64)) * (9000000 : Int64))), .second, .unset, .unset, .unset, .unset, .unset] [(.int (4 : Int32)), (.ref b19), (.ref b19)])) _
      refine X23.ldc2Long hx hown (mvT hZ (hw _ (List.mem_of_getElem? (i := 53) rfl))) (g := (mkF m 98 #[.val (.long p1), .second, .val (.long p2), .second, .val (.int p3), .val (.int p4), .val (.int p5), .val (.int (1 : Int32)), .val (.long (p1 - (p1 / (9000000 : Int64)) * (9000000 : Int64))), .second, .unset, .unset, .unset, .unset, .unset] [(.int (4 : Int32)), (.ref b19), (.ref b19)])) rfl (hb hby at_98) _ ?_
      exact kt
    obtain ⟨T24, h24, X24, e24, W24, st24⟩ := stJ X23 hx hZ e23 Ax4 (j := (4 : Int32)) (own_hin (i := 4) Sx4 rfl (by omega) (by omega)) (g := (mkF m 101 #[.val (.long p1), .second, .val (.long p2), .second, .val (.int p3), .val (.int p4), .val (.int p5), .val (.int (1 : Int32)), .val (.long (p1 - (p1 / (9000000 : Int64)) * (9000000 : Int64))), .second, .unset, .unset, .unset, .unset, .unset] [(.long (625 : Int64)), (.int (4 : Int32)), (.ref b19), (.ref b19)])) rfl rfl (hb hby at_101)
    refine Ends.of st24 ?_
    have N24 := Fr.snoc X24 N23 ga
    have V5 := put4 _ _ _ 4 W24 (by decide) (by omega)
    have K5 : Keep h0 h24 [] := K4.wr W24 (Or.inr (Nat.le_of_eq g19.symm))
    obtain ⟨cx5, Ax5, Sx5, -, put5⟩ := V5.op
    refine Ends.of (F' := T24.setTop (mkF m 107 #[.val (.long p1), .second, .val (.long p2), .second, .val (.int p3), .val (.int p4), .val (.int p5), .val (.int (1 : Int32)), .val (.long (p1 - (p1 / (9000000 : Int64)) * (9000000 : Int64))), .second, .unset, .unset, .unset, .unset, .unset] [(.long (3125 : Int64)), (.int (5 : Int32)), (.ref b19), (.ref b19)])) (fun _ kt => ?_) ?_
    · show Steps p.tables e below (T24.setTop (mkF m 102 #[.val (.long p1), .second, .val (.long p2), .second, .val (.int p3), .val (.int p4), .val (.int p5), .val (.int (1 : Int32)), .val (.long (p1 - (p1 / (9000000 : Int64)) * (9000000 : Int64))), .second, .unset, .unset, .unset, .unset, .unset] [(.ref b19)])) _
      refine XS.dup X24.here hx rfl (hb hby at_102) rfl rfl ?_
      show Steps p.tables e below (T24.setTop (mkF m 103 #[.val (.long p1), .second, .val (.long p2), .second, .val (.int p3), .val (.int p4), .val (.int p5), .val (.int (1 : Int32)), .val (.long (p1 - (p1 / (9000000 : Int64)) * (9000000 : Int64))), .second, .unset, .unset, .unset, .unset, .unset] [(.ref b19), (.ref b19)])) _
      refine XS.iconst X24.here hx rfl (hb hby at_103) ?_
      show Steps p.tables e below (T24.setTop (mkF m 104 #[.val (.long p1), .second, .val (.long p2), .second, .val (.int p3), .val (.int p4), .val (.int p5), .val (.int (1 : Int32)), .val (.long (p1 - (p1 / (9000000 : Int64)) * (9000000 : Int64))), .second, .unset, .unset, .unset, .unset, .unset] [(.int (5 : Int32)), (.ref b19), (.ref b19)])) _
      refine X24.ldc2Long hx hown (mvT hZ (hw _ (List.mem_of_getElem? (i := 54) rfl))) (g := (mkF m 104 #[.val (.long p1), .second, .val (.long p2), .second, .val (.int p3), .val (.int p4), .val (.int p5), .val (.int (1 : Int32)), .val (.long (p1 - (p1 / (9000000 : Int64)) * (9000000 : Int64))), .second, .unset, .unset, .unset, .unset, .unset] [(.int (5 : Int32)), (.ref b19), (.ref b19)])) rfl (hb hby at_104) _ ?_
      exact kt
    obtain ⟨T25, h25, X25, e25, W25, st25⟩ := stJ X24 hx hZ e24 Ax5 (j := (5 : Int32)) (own_hin (i := 5) Sx5 rfl (by omega) (by omega)) (g := (mkF m 107 #[.val (.long p1), .second, .val (.long p2), .second, .val (.int p3), .val (.int p4), .val (.int p5), .val (.int (1 : Int32)), .val (.long (p1 - (p1 / (9000000 : Int64)) * (9000000 : Int64))), .second, .unset, .unset, .unset, .unset, .unset] [(.long (3125 : Int64)), (.int (5 : Int32)), (.ref b19), (.ref b19)])) rfl rfl (hb hby at_107)
    refine Ends.of st25 ?_
    have N25 := Fr.snoc X25 N24 ga
    have V6 := put5 _ _ _ 5 W25 (by decide) (by omega)
    have K6 : Keep h0 h25 [] := K5.wr W25 (Or.inr (Nat.le_of_eq g19.symm))
    obtain ⟨cx6, Ax6, Sx6, -, put6⟩ := V6.op
    refine Ends.of (F' := T25.setTop (mkF m 114 #[.val (.long p1), .second, .val (.long p2), .second, .val (.int p3), .val (.int p4), .val (.int p5), .val (.int (1 : Int32)), .val (.long (p1 - (p1 / (9000000 : Int64)) * (9000000 : Int64))), .second, .unset, .unset, .unset, .unset, .unset] [(.long (15625 : Int64)), (.int (6 : Int32)), (.ref b19), (.ref b19)])) (fun _ kt => ?_) ?_
    · show Steps p.tables e below (T25.setTop (mkF m 108 #[.val (.long p1), .second, .val (.long p2), .second, .val (.int p3), .val (.int p4), .val (.int p5), .val (.int (1 : Int32)), .val (.long (p1 - (p1 / (9000000 : Int64)) * (9000000 : Int64))), .second, .unset, .unset, .unset, .unset, .unset] [(.ref b19)])) _
      refine XS.dup X25.here hx rfl (hb hby at_108) rfl rfl ?_
      show Steps p.tables e below (T25.setTop (mkF m 109 #[.val (.long p1), .second, .val (.long p2), .second, .val (.int p3), .val (.int p4), .val (.int p5), .val (.int (1 : Int32)), .val (.long (p1 - (p1 / (9000000 : Int64)) * (9000000 : Int64))), .second, .unset, .unset, .unset, .unset, .unset] [(.ref b19), (.ref b19)])) _
      refine XS.bipush X25.here hx rfl (hb hby at_109) ?_
      show Steps p.tables e below (T25.setTop (mkF m 111 #[.val (.long p1), .second, .val (.long p2), .second, .val (.int p3), .val (.int p4), .val (.int p5), .val (.int (1 : Int32)), .val (.long (p1 - (p1 / (9000000 : Int64)) * (9000000 : Int64))), .second, .unset, .unset, .unset, .unset, .unset] [(.int (6 : Int32)), (.ref b19), (.ref b19)])) _
      refine X25.ldc2Long hx hown (mvT hZ (hw _ (List.mem_of_getElem? (i := 55) rfl))) (g := (mkF m 111 #[.val (.long p1), .second, .val (.long p2), .second, .val (.int p3), .val (.int p4), .val (.int p5), .val (.int (1 : Int32)), .val (.long (p1 - (p1 / (9000000 : Int64)) * (9000000 : Int64))), .second, .unset, .unset, .unset, .unset, .unset] [(.int (6 : Int32)), (.ref b19), (.ref b19)])) rfl (hb hby at_111) _ ?_
      exact kt
    obtain ⟨T26, h26, X26, e26, W26, st26⟩ := stJ X25 hx hZ e25 Ax6 (j := (6 : Int32)) (own_hin (i := 6) Sx6 rfl (by omega) (by omega)) (g := (mkF m 114 #[.val (.long p1), .second, .val (.long p2), .second, .val (.int p3), .val (.int p4), .val (.int p5), .val (.int (1 : Int32)), .val (.long (p1 - (p1 / (9000000 : Int64)) * (9000000 : Int64))), .second, .unset, .unset, .unset, .unset, .unset] [(.long (15625 : Int64)), (.int (6 : Int32)), (.ref b19), (.ref b19)])) rfl rfl (hb hby at_114)
    refine Ends.of st26 ?_
    have N26 := Fr.snoc X26 N25 ga
    have V7 := put6 _ _ _ 6 W26 (by decide) (by omega)
    have K7 : Keep h0 h26 [] := K6.wr W26 (Or.inr (Nat.le_of_eq g19.symm))
    obtain ⟨cx7, Ax7, Sx7, -, put7⟩ := V7.op
    refine Ends.of (F' := T26.setTop (mkF m 121 #[.val (.long p1), .second, .val (.long p2), .second, .val (.int p3), .val (.int p4), .val (.int p5), .val (.int (1 : Int32)), .val (.long (p1 - (p1 / (9000000 : Int64)) * (9000000 : Int64))), .second, .unset, .unset, .unset, .unset, .unset] [(.long (78125 : Int64)), (.int (7 : Int32)), (.ref b19), (.ref b19)])) (fun _ kt => ?_) ?_
    · show Steps p.tables e below (T26.setTop (mkF m 115 #[.val (.long p1), .second, .val (.long p2), .second, .val (.int p3), .val (.int p4), .val (.int p5), .val (.int (1 : Int32)), .val (.long (p1 - (p1 / (9000000 : Int64)) * (9000000 : Int64))), .second, .unset, .unset, .unset, .unset, .unset] [(.ref b19)])) _
      refine XS.dup X26.here hx rfl (hb hby at_115) rfl rfl ?_
      show Steps p.tables e below (T26.setTop (mkF m 116 #[.val (.long p1), .second, .val (.long p2), .second, .val (.int p3), .val (.int p4), .val (.int p5), .val (.int (1 : Int32)), .val (.long (p1 - (p1 / (9000000 : Int64)) * (9000000 : Int64))), .second, .unset, .unset, .unset, .unset, .unset] [(.ref b19), (.ref b19)])) _
      refine XS.bipush X26.here hx rfl (hb hby at_116) ?_
      show Steps p.tables e below (T26.setTop (mkF m 118 #[.val (.long p1), .second, .val (.long p2), .second, .val (.int p3), .val (.int p4), .val (.int p5), .val (.int (1 : Int32)), .val (.long (p1 - (p1 / (9000000 : Int64)) * (9000000 : Int64))), .second, .unset, .unset, .unset, .unset, .unset] [(.int (7 : Int32)), (.ref b19), (.ref b19)])) _
      refine X26.ldc2Long hx hown (mvT hZ (hw _ (List.mem_of_getElem? (i := 56) rfl))) (g := (mkF m 118 #[.val (.long p1), .second, .val (.long p2), .second, .val (.int p3), .val (.int p4), .val (.int p5), .val (.int (1 : Int32)), .val (.long (p1 - (p1 / (9000000 : Int64)) * (9000000 : Int64))), .second, .unset, .unset, .unset, .unset, .unset] [(.int (7 : Int32)), (.ref b19), (.ref b19)])) rfl (hb hby at_118) _ ?_
      exact kt
    obtain ⟨T27, h27, X27, e27, W27, st27⟩ := stJ X26 hx hZ e26 Ax7 (j := (7 : Int32)) (own_hin (i := 7) Sx7 rfl (by omega) (by omega)) (g := (mkF m 121 #[.val (.long p1), .second, .val (.long p2), .second, .val (.int p3), .val (.int p4), .val (.int p5), .val (.int (1 : Int32)), .val (.long (p1 - (p1 / (9000000 : Int64)) * (9000000 : Int64))), .second, .unset, .unset, .unset, .unset, .unset] [(.long (78125 : Int64)), (.int (7 : Int32)), (.ref b19), (.ref b19)])) rfl rfl (hb hby at_121)
    refine Ends.of st27 ?_
    have N27 := Fr.snoc X27 N26 ga
    have V8 := put7 _ _ _ 7 W27 (by decide) (by omega)
    have K8 : Keep h0 h27 [] := K7.wr W27 (Or.inr (Nat.le_of_eq g19.symm))
    obtain ⟨cx8, Ax8, Sx8, -, put8⟩ := V8.op
    refine Ends.of (F' := T27.setTop (mkF m 128 #[.val (.long p1), .second, .val (.long p2), .second, .val (.int p3), .val (.int p4), .val (.int p5), .val (.int (1 : Int32)), .val (.long (p1 - (p1 / (9000000 : Int64)) * (9000000 : Int64))), .second, .unset, .unset, .unset, .unset, .unset] [(.long (390625 : Int64)), (.int (8 : Int32)), (.ref b19), (.ref b19)])) (fun _ kt => ?_) ?_
    · show Steps p.tables e below (T27.setTop (mkF m 122 #[.val (.long p1), .second, .val (.long p2), .second, .val (.int p3), .val (.int p4), .val (.int p5), .val (.int (1 : Int32)), .val (.long (p1 - (p1 / (9000000 : Int64)) * (9000000 : Int64))), .second, .unset, .unset, .unset, .unset, .unset] [(.ref b19)])) _
      refine XS.dup X27.here hx rfl (hb hby at_122) rfl rfl ?_
      show Steps p.tables e below (T27.setTop (mkF m 123 #[.val (.long p1), .second, .val (.long p2), .second, .val (.int p3), .val (.int p4), .val (.int p5), .val (.int (1 : Int32)), .val (.long (p1 - (p1 / (9000000 : Int64)) * (9000000 : Int64))), .second, .unset, .unset, .unset, .unset, .unset] [(.ref b19), (.ref b19)])) _
      refine XS.bipush X27.here hx rfl (hb hby at_123) ?_
      show Steps p.tables e below (T27.setTop (mkF m 125 #[.val (.long p1), .second, .val (.long p2), .second, .val (.int p3), .val (.int p4), .val (.int p5), .val (.int (1 : Int32)), .val (.long (p1 - (p1 / (9000000 : Int64)) * (9000000 : Int64))), .second, .unset, .unset, .unset, .unset, .unset] [(.int (8 : Int32)), (.ref b19), (.ref b19)])) _
      refine X27.ldc2Long hx hown (mvT hZ (hw _ (List.mem_of_getElem? (i := 57) rfl))) (g := (mkF m 125 #[.val (.long p1), .second, .val (.long p2), .second, .val (.int p3), .val (.int p4), .val (.int p5), .val (.int (1 : Int32)), .val (.long (p1 - (p1 / (9000000 : Int64)) * (9000000 : Int64))), .second, .unset, .unset, .unset, .unset, .unset] [(.int (8 : Int32)), (.ref b19), (.ref b19)])) rfl (hb hby at_125) _ ?_
      exact kt
    obtain ⟨T28, h28, X28, e28, W28, st28⟩ := stJ X27 hx hZ e27 Ax8 (j := (8 : Int32)) (own_hin (i := 8) Sx8 rfl (by omega) (by omega)) (g := (mkF m 128 #[.val (.long p1), .second, .val (.long p2), .second, .val (.int p3), .val (.int p4), .val (.int p5), .val (.int (1 : Int32)), .val (.long (p1 - (p1 / (9000000 : Int64)) * (9000000 : Int64))), .second, .unset, .unset, .unset, .unset, .unset] [(.long (390625 : Int64)), (.int (8 : Int32)), (.ref b19), (.ref b19)])) rfl rfl (hb hby at_128)
    refine Ends.of st28 ?_
    have N28 := Fr.snoc X28 N27 ga
    have V9 := put8 _ _ _ 8 W28 (by decide) (by omega)
    have K9 : Keep h0 h28 [] := K8.wr W28 (Or.inr (Nat.le_of_eq g19.symm))
    obtain ⟨cx9, Ax9, Sx9, -, put9⟩ := V9.op
    refine Ends.of (F' := T28.setTop (mkF m 135 #[.val (.long p1), .second, .val (.long p2), .second, .val (.int p3), .val (.int p4), .val (.int p5), .val (.int (1 : Int32)), .val (.long (p1 - (p1 / (9000000 : Int64)) * (9000000 : Int64))), .second, .unset, .unset, .unset, .unset, .unset] [(.long (1953125 : Int64)), (.int (9 : Int32)), (.ref b19), (.ref b19)])) (fun _ kt => ?_) ?_
    · show Steps p.tables e below (T28.setTop (mkF m 129 #[.val (.long p1), .second, .val (.long p2), .second, .val (.int p3), .val (.int p4), .val (.int p5), .val (.int (1 : Int32)), .val (.long (p1 - (p1 / (9000000 : Int64)) * (9000000 : Int64))), .second, .unset, .unset, .unset, .unset, .unset] [(.ref b19)])) _
      refine XS.dup X28.here hx rfl (hb hby at_129) rfl rfl ?_
      show Steps p.tables e below (T28.setTop (mkF m 130 #[.val (.long p1), .second, .val (.long p2), .second, .val (.int p3), .val (.int p4), .val (.int p5), .val (.int (1 : Int32)), .val (.long (p1 - (p1 / (9000000 : Int64)) * (9000000 : Int64))), .second, .unset, .unset, .unset, .unset, .unset] [(.ref b19), (.ref b19)])) _
      refine XS.bipush X28.here hx rfl (hb hby at_130) ?_
      show Steps p.tables e below (T28.setTop (mkF m 132 #[.val (.long p1), .second, .val (.long p2), .second, .val (.int p3), .val (.int p4), .val (.int p5), .val (.int (1 : Int32)), .val (.long (p1 - (p1 / (9000000 : Int64)) * (9000000 : Int64))), .second, .unset, .unset, .unset, .unset, .unset] [(.int (9 : Int32)), (.ref b19), (.ref b19)])) _
      refine X28.ldc2Long hx hown (mvT hZ (hw _ (List.mem_of_getElem? (i := 58) rfl))) (g := (mkF m 132 #[.val (.long p1), .second, .val (.long p2), .second, .val (.int p3), .val (.int p4), .val (.int p5), .val (.int (1 : Int32)), .val (.long (p1 - (p1 / (9000000 : Int64)) * (9000000 : Int64))), .second, .unset, .unset, .unset, .unset, .unset] [(.int (9 : Int32)), (.ref b19), (.ref b19)])) rfl (hb hby at_132) _ ?_
      exact kt
    obtain ⟨T29, h29, X29, e29, W29, st29⟩ := stJ X28 hx hZ e28 Ax9 (j := (9 : Int32)) (own_hin (i := 9) Sx9 rfl (by omega) (by omega)) (g := (mkF m 135 #[.val (.long p1), .second, .val (.long p2), .second, .val (.int p3), .val (.int p4), .val (.int p5), .val (.int (1 : Int32)), .val (.long (p1 - (p1 / (9000000 : Int64)) * (9000000 : Int64))), .second, .unset, .unset, .unset, .unset, .unset] [(.long (1953125 : Int64)), (.int (9 : Int32)), (.ref b19), (.ref b19)])) rfl rfl (hb hby at_135)
    refine Ends.of st29 ?_
    have N29 := Fr.snoc X29 N28 ga
    have V10 := put9 _ _ _ 9 W29 (by decide) (by omega)
    have K10 : Keep h0 h29 [] := K9.wr W29 (Or.inr (Nat.le_of_eq g19.symm))
    have V : AryL Z h29 b19 10 pf := V10.congr (fun i hi => by
      rcases (by omega : i = 0 ∨ i = 1 ∨ i = 2 ∨ i = 3 ∨ i = 4 ∨ i = 5 ∨ i = 6 ∨ i = 7 ∨ i = 8 ∨ i = 9) with rfl | rfl | rfl | rfl | rfl | rfl | rfl | rfl | rfl | rfl <;> rfl)
    obtain ⟨cv, Av, Sv, Hv, -⟩ := V.op
    have Z9 : n0 ≤ h29.size := Nat.le_trans Z0 K10.1
    obtain ⟨i, hi, ei⟩ := own_m10 p3
    obtain ⟨u, hu, eu⟩ := own_m10 p4
    refine Ends.of (F' := T29.setTop (mkF m 147 #[.val (.long p1), .second, .val (.long p2), .second, .val (.int p3), .val (.int p4), .val (.int p5), .val (.int (1 : Int32)), .val (.long (p1 - (p1 / (9000000 : Int64)) * (9000000 : Int64))), .second, .val (.ref b19), .unset, .unset, .unset, .unset] [(.int ((p3 &&& (2147483647 : Int32)) % (10 : Int32))), (.long (1 : Int64))])) (fun _ kt => ?_) ?_
    · show Steps p.tables e below (T29.setTop (mkF m 136 #[.val (.long p1), .second, .val (.long p2), .second, .val (.int p3), .val (.int p4), .val (.int p5), .val (.int (1 : Int32)), .val (.long (p1 - (p1 / (9000000 : Int64)) * (9000000 : Int64))), .second, .unset, .unset, .unset, .unset, .unset] [(.ref b19)])) _
      refine XS.astore X29.here hx rfl (hb hby at_136) rfl rfl (l' := #[.val (.long p1), .second, .val (.long p2), .second, .val (.int p3), .val (.int p4), .val (.int p5), .val (.int (1 : Int32)), .val (.long (p1 - (p1 / (9000000 : Int64)) * (9000000 : Int64))), .second, .val (.ref b19), .unset, .unset, .unset, .unset]) rfl ?_
      show Steps p.tables e below (T29.setTop (mkF m 138 #[.val (.long p1), .second, .val (.long p2), .second, .val (.int p3), .val (.int p4), .val (.int p5), .val (.int (1 : Int32)), .val (.long (p1 - (p1 / (9000000 : Int64)) * (9000000 : Int64))), .second, .val (.ref b19), .unset, .unset, .unset, .unset] [])) _
      refine XS.lconst X29.here hx rfl (hb hby at_138) ?_
      show Steps p.tables e below (T29.setTop (mkF m 139 #[.val (.long p1), .second, .val (.long p2), .second, .val (.int p3), .val (.int p4), .val (.int p5), .val (.int (1 : Int32)), .val (.long (p1 - (p1 / (9000000 : Int64)) * (9000000 : Int64))), .second, .val (.ref b19), .unset, .unset, .unset, .unset] [(.long (1 : Int64))])) _
      refine XS.iload X29.here hx rfl (hb hby at_139) rfl ?_
      show Steps p.tables e below (T29.setTop (mkF m 141 #[.val (.long p1), .second, .val (.long p2), .second, .val (.int p3), .val (.int p4), .val (.int p5), .val (.int (1 : Int32)), .val (.long (p1 - (p1 / (9000000 : Int64)) * (9000000 : Int64))), .second, .val (.ref b19), .unset, .unset, .unset, .unset] [(.int p3), (.long (1 : Int64))])) _
      refine X29.ldcInt hx hown (mvT hZ (hw _ (List.mem_of_getElem? (i := 0) rfl))) (g := (mkF m 141 #[.val (.long p1), .second, .val (.long p2), .second, .val (.int p3), .val (.int p4), .val (.int p5), .val (.int (1 : Int32)), .val (.long (p1 - (p1 / (9000000 : Int64)) * (9000000 : Int64))), .second, .val (.ref b19), .unset, .unset, .unset, .unset] [(.int p3), (.long (1 : Int64))])) rfl (hb hby at_141) _ ?_
      show Steps p.tables e below (T29.setTop (mkF m 143 #[.val (.long p1), .second, .val (.long p2), .second, .val (.int p3), .val (.int p4), .val (.int p5), .val (.int (1 : Int32)), .val (.long (p1 - (p1 / (9000000 : Int64)) * (9000000 : Int64))), .second, .val (.ref b19), .unset, .unset, .unset, .unset] [(.int (2147483647 : Int32)), (.int p3), (.long (1 : Int64))])) _
      refine XS.iand X29.here hx rfl (hb hby at_143) rfl ?_
      show Steps p.tables e below (T29.setTop (mkF m 144 #[.val (.long p1), .second, .val (.long p2), .second, .val (.int p3), .val (.int p4), .val (.int p5), .val (.int (1 : Int32)), .val (.long (p1 - (p1 / (9000000 : Int64)) * (9000000 : Int64))), .second, .val (.ref b19), .unset, .unset, .unset, .unset] [(.int (p3 &&& (2147483647 : Int32))), (.long (1 : Int64))])) _
      refine XS.bipush X29.here hx rfl (hb hby at_144) ?_
      show Steps p.tables e below (T29.setTop (mkF m 146 #[.val (.long p1), .second, .val (.long p2), .second, .val (.int p3), .val (.int p4), .val (.int p5), .val (.int (1 : Int32)), .val (.long (p1 - (p1 / (9000000 : Int64)) * (9000000 : Int64))), .second, .val (.ref b19), .unset, .unset, .unset, .unset] [(.int (10 : Int32)), (.int (p3 &&& (2147483647 : Int32))), (.long (1 : Int64))])) _
      refine iremM (g := (mkF m 146 #[.val (.long p1), .second, .val (.long p2), .second, .val (.int p3), .val (.int p4), .val (.int p5), .val (.int (1 : Int32)), .val (.long (p1 - (p1 / (9000000 : Int64)) * (9000000 : Int64))), .second, .val (.ref b19), .unset, .unset, .unset, .unset] [(.int (10 : Int32)), (.int (p3 &&& (2147483647 : Int32))), (.long (1 : Int64))])) X29 hx rfl (hb hby at_146) rfl (by decide) ?_
      exact kt
    rw [ei]
    refine Ends.of (F' := T29.setTop (mkF m 158 #[.val (.long p1), .second, .val (.long p2), .second, .val (.int p3), .val (.int p4), .val (.int p5), .val (.int (1 : Int32)), .val (.long (p1 - (p1 / (9000000 : Int64)) * (9000000 : Int64))), .second, .val (.ref b19), .unset, .unset, .unset, .unset] [(.int ((p4 &&& (2147483647 : Int32)) % (10 : Int32))), (.ref b19), (.long ((1 : Int64) <<< ((Int32.ofNat i) &&& 0x3f).toInt64))])) (fun _ kt => ?_) ?_
    · show Steps p.tables e below (T29.setTop (mkF m 147 #[.val (.long p1), .second, .val (.long p2), .second, .val (.int p3), .val (.int p4), .val (.int p5), .val (.int (1 : Int32)), .val (.long (p1 - (p1 / (9000000 : Int64)) * (9000000 : Int64))), .second, .val (.ref b19), .unset, .unset, .unset, .unset] [(.int (Int32.ofNat i)), (.long (1 : Int64))])) _
      refine XS.lshl X29.here hx rfl (hb hby at_147) rfl ?_
      show Steps p.tables e below (T29.setTop (mkF m 148 #[.val (.long p1), .second, .val (.long p2), .second, .val (.int p3), .val (.int p4), .val (.int p5), .val (.int (1 : Int32)), .val (.long (p1 - (p1 / (9000000 : Int64)) * (9000000 : Int64))), .second, .val (.ref b19), .unset, .unset, .unset, .unset] [(.long ((1 : Int64) <<< ((Int32.ofNat i) &&& 0x3f).toInt64))])) _
      refine XS.aload X29.here hx rfl (hb hby at_148) rfl rfl ?_
      show Steps p.tables e below (T29.setTop (mkF m 150 #[.val (.long p1), .second, .val (.long p2), .second, .val (.int p3), .val (.int p4), .val (.int p5), .val (.int (1 : Int32)), .val (.long (p1 - (p1 / (9000000 : Int64)) * (9000000 : Int64))), .second, .val (.ref b19), .unset, .unset, .unset, .unset] [(.ref b19), (.long ((1 : Int64) <<< ((Int32.ofNat i) &&& 0x3f).toInt64))])) _
      refine XS.iload X29.here hx rfl (hb hby at_150) rfl ?_
      show Steps p.tables e below (T29.setTop (mkF m 152 #[.val (.long p1), .second, .val (.long p2), .second, .val (.int p3), .val (.int p4), .val (.int p5), .val (.int (1 : Int32)), .val (.long (p1 - (p1 / (9000000 : Int64)) * (9000000 : Int64))), .second, .val (.ref b19), .unset, .unset, .unset, .unset] [(.int p4), (.ref b19), (.long ((1 : Int64) <<< ((Int32.ofNat i) &&& 0x3f).toInt64))])) _
      refine X29.ldcInt hx hown (mvT hZ (hw _ (List.mem_of_getElem? (i := 0) rfl))) (g := (mkF m 152 #[.val (.long p1), .second, .val (.long p2), .second, .val (.int p3), .val (.int p4), .val (.int p5), .val (.int (1 : Int32)), .val (.long (p1 - (p1 / (9000000 : Int64)) * (9000000 : Int64))), .second, .val (.ref b19), .unset, .unset, .unset, .unset] [(.int p4), (.ref b19), (.long ((1 : Int64) <<< ((Int32.ofNat i) &&& 0x3f).toInt64))])) rfl (hb hby at_152) _ ?_
      show Steps p.tables e below (T29.setTop (mkF m 154 #[.val (.long p1), .second, .val (.long p2), .second, .val (.int p3), .val (.int p4), .val (.int p5), .val (.int (1 : Int32)), .val (.long (p1 - (p1 / (9000000 : Int64)) * (9000000 : Int64))), .second, .val (.ref b19), .unset, .unset, .unset, .unset] [(.int (2147483647 : Int32)), (.int p4), (.ref b19), (.long ((1 : Int64) <<< ((Int32.ofNat i) &&& 0x3f).toInt64))])) _
      refine XS.iand X29.here hx rfl (hb hby at_154) rfl ?_
      show Steps p.tables e below (T29.setTop (mkF m 155 #[.val (.long p1), .second, .val (.long p2), .second, .val (.int p3), .val (.int p4), .val (.int p5), .val (.int (1 : Int32)), .val (.long (p1 - (p1 / (9000000 : Int64)) * (9000000 : Int64))), .second, .val (.ref b19), .unset, .unset, .unset, .unset] [(.int (p4 &&& (2147483647 : Int32))), (.ref b19), (.long ((1 : Int64) <<< ((Int32.ofNat i) &&& 0x3f).toInt64))])) _
      refine XS.bipush X29.here hx rfl (hb hby at_155) ?_
      show Steps p.tables e below (T29.setTop (mkF m 157 #[.val (.long p1), .second, .val (.long p2), .second, .val (.int p3), .val (.int p4), .val (.int p5), .val (.int (1 : Int32)), .val (.long (p1 - (p1 / (9000000 : Int64)) * (9000000 : Int64))), .second, .val (.ref b19), .unset, .unset, .unset, .unset] [(.int (10 : Int32)), (.int (p4 &&& (2147483647 : Int32))), (.ref b19), (.long ((1 : Int64) <<< ((Int32.ofNat i) &&& 0x3f).toInt64))])) _
      refine iremM (g := (mkF m 157 #[.val (.long p1), .second, .val (.long p2), .second, .val (.int p3), .val (.int p4), .val (.int p5), .val (.int (1 : Int32)), .val (.long (p1 - (p1 / (9000000 : Int64)) * (9000000 : Int64))), .second, .val (.ref b19), .unset, .unset, .unset, .unset] [(.int (10 : Int32)), (.int (p4 &&& (2147483647 : Int32))), (.ref b19), (.long ((1 : Int64) <<< ((Int32.ofNat i) &&& 0x3f).toInt64))])) X29 hx rfl (hb hby at_157) rfl (by decide) ?_
      exact kt
    rw [eu]
    refine Ends.of (F' := T29.setTop (mkF m 162 #[.val (.long p1), .second, .val (.long p2), .second, .val (.int p3), .val (.int p4), .val (.int p5), .val (.int (1 : Int32)), .val (.long (p1 - (p1 / (9000000 : Int64)) * (9000000 : Int64))), .second, .val (.ref b19), .val (.long (((1 : Int64) <<< ((Int32.ofNat i) &&& 0x3f).toInt64) * (pf u))), .second, .unset, .unset] [])) (fun _ kt => ?_) ?_
    · show Steps p.tables e below (T29.setTop (mkF m 158 #[.val (.long p1), .second, .val (.long p2), .second, .val (.int p3), .val (.int p4), .val (.int p5), .val (.int (1 : Int32)), .val (.long (p1 - (p1 / (9000000 : Int64)) * (9000000 : Int64))), .second, .val (.ref b19), .unset, .unset, .unset, .unset] [(.int (Int32.ofNat u)), (.ref b19), (.long ((1 : Int64) <<< ((Int32.ofNat i) &&& 0x3f).toInt64))])) _
      refine X29.laload hx (j := (Int32.ofNat u)) (v := (.long (pf u))) (by rw [e29]; exact Av.1) (State.isArrayOf_alike hZ.alike Av.2.1) Av.2.2 (own_hin Sv rfl hu (by omega)) (own_hatL Hv rfl hu (by omega)) (g := (mkF m 158 #[.val (.long p1), .second, .val (.long p2), .second, .val (.int p3), .val (.int p4), .val (.int p5), .val (.int (1 : Int32)), .val (.long (p1 - (p1 / (9000000 : Int64)) * (9000000 : Int64))), .second, .val (.ref b19), .unset, .unset, .unset, .unset] [(.int (Int32.ofNat u)), (.ref b19), (.long ((1 : Int64) <<< ((Int32.ofNat i) &&& 0x3f).toInt64))])) rfl rfl (hb hby at_158) _ ?_
      show Steps p.tables e below (T29.setTop (mkF m 159 #[.val (.long p1), .second, .val (.long p2), .second, .val (.int p3), .val (.int p4), .val (.int p5), .val (.int (1 : Int32)), .val (.long (p1 - (p1 / (9000000 : Int64)) * (9000000 : Int64))), .second, .val (.ref b19), .unset, .unset, .unset, .unset] [(.long (pf u)), (.long ((1 : Int64) <<< ((Int32.ofNat i) &&& 0x3f).toInt64))])) _
      refine XS.lmul X29.here hx rfl (hb hby at_159) rfl ?_
      show Steps p.tables e below (T29.setTop (mkF m 160 #[.val (.long p1), .second, .val (.long p2), .second, .val (.int p3), .val (.int p4), .val (.int p5), .val (.int (1 : Int32)), .val (.long (p1 - (p1 / (9000000 : Int64)) * (9000000 : Int64))), .second, .val (.ref b19), .unset, .unset, .unset, .unset] [(.long (((1 : Int64) <<< ((Int32.ofNat i) &&& 0x3f).toInt64) * (pf u)))])) _
      refine XS.lstore X29.here hx rfl (hb hby at_160) rfl (l' := #[.val (.long p1), .second, .val (.long p2), .second, .val (.int p3), .val (.int p4), .val (.int p5), .val (.int (1 : Int32)), .val (.long (p1 - (p1 / (9000000 : Int64)) * (9000000 : Int64))), .second, .val (.ref b19), .val (.long (((1 : Int64) <<< ((Int32.ofNat i) &&& 0x3f).toInt64) * (pf u))), .second, .unset, .unset]) rfl ?_
      exact kt
    have hn := own_nn10 i u hi hu
    generalize (((1 : Int64) <<< ((Int32.ofNat i) &&& 0x3f).toInt64) * (pf u)) = n at hn ⊢
    have hk := own_k p1
    generalize (p1 - (p1 / (9000000 : Int64)) * (9000000 : Int64)) = k at hk ⊢
    obtain ⟨hq, hqn⟩ := own_m1 k n (1000000000 / n) hk.1 hk.2 hn.1 hn.2.1 hn.2.2
    have hnz183 : n ≠ 0 := fun q => by rw [q] at hn; exact absurd hn.1 (by decide)
    refine Ends.of (F' := T29.setTop (mkF m 166 #[.val (.long p1), .second, .val (.long p2), .second, .val (.int p3), .val (.int p4), .val (.int p5), .val (.int (1 : Int32)), .val (.long k), .second, .val (.ref b19), .val (.long n), .second, .unset, .unset] [(.long n), (.long k)])) (fun _ kt => ?_) ?_
    · show Steps p.tables e below (T29.setTop (mkF m 162 #[.val (.long p1), .second, .val (.long p2), .second, .val (.int p3), .val (.int p4), .val (.int p5), .val (.int (1 : Int32)), .val (.long k), .second, .val (.ref b19), .val (.long n), .second, .unset, .unset] [])) _
      refine XS.lload X29.here hx rfl (hb hby at_162) rfl ?_
      show Steps p.tables e below (T29.setTop (mkF m 164 #[.val (.long p1), .second, .val (.long p2), .second, .val (.int p3), .val (.int p4), .val (.int p5), .val (.int (1 : Int32)), .val (.long k), .second, .val (.ref b19), .val (.long n), .second, .unset, .unset] [(.long k)])) _
      refine XS.lload X29.here hx rfl (hb hby at_164) rfl ?_
      exact kt
    obtain ⟨_, _, ⟨T30, L30, k30, n30⟩, -, X30, ⟨Lc30, hQ30, l30, y30, z30⟩, st30⟩ := Jvm.LawKit.callS X29 hx (y := (⟨"com/example/coordinant/coordinant/tool/RunCountsPerSecondPinLaw", "make", "(JJ)Lcom/example/coordinant/coordinant/tool/Bank$RunCounts;"⟩ : MethodName)) hown (mvT hZ (hw _ (List.mem_of_getElem? (i := 1) rfl))) (mvT hZ (hw _ (List.mem_of_getElem? (i := 2) rfl))) (mvT hZ (hw _ (List.mem_of_getElem? (i := 3) rfl))) (mvT hZ (hw _ (List.mem_of_getElem? (i := 4) rfl))) (by decide) (backOf (W := 0) (mk l Z a0 hw [] k n h29 n0 Z9) hZ (hw _ (List.mem_of_getElem? (i := 4) rfl)) (hw _ (List.mem_of_getElem? (i := 3) rfl)) (by decide) (by decide)) (g := (mkF m 166 #[.val (.long p1), .second, .val (.long p2), .second, .val (.int p3), .val (.int p4), .val (.int p5), .val (.int (1 : Int32)), .val (.long k), .second, .val (.ref b19), .val (.long n), .second, .unset, .unset] [(.long n), (.long k)])) rfl (by rw [hml]; rfl) (argsL := [(.long k), (.long n)]) (rest := []) (lenOf pd_0 rfl) rfl (by show 2 * 0 + _ ≤ _; exact Nat.le_of_eq rfl) (hb hby at_166) (fun _ _ => ⟨rfl, e29, (by decide : 1 + 1 ≤ _), (by decide : 10 + 7 ≤ _)⟩)
    dsimp only [Pt.U, Pt.locs, Pt.cells, Pt.slots] at X30 l30 y30 z30 st30 hQ30
    subst l30 y30 z30
    obtain ⟨rfl, N30q, K30, Ex30, Fc30, Fn30⟩ := hQ30
    have N30 := Fr.app N29 N30q
    refine Ends.of st30 ?_
    have Zp : n0 ≤ T30.heap.size := Nat.le_trans Z9 K30.1
    obtain ⟨cq31, kq31, q31a, q31b, q31c⟩ := isOf hZ rfl Ex30
    obtain ⟨_, _, ⟨T31, L31, k31, n31⟩, -, X31, ⟨Lc31, hQ31, l31, y31, z31⟩, st31⟩ := X30.virtualBack hx (y := (⟨"com/example/coordinant/coordinant/tool/Bank$RunCounts", "perSecond", "()D"⟩ : MethodName)) (z := (⟨"com/example/coordinant/coordinant/tool/Bank$RunCounts", "perSecond", "()D"⟩ : MethodName)) hown (mvT hZ (hw _ (List.mem_of_getElem? (i := 34) rfl))) (mvT hZ (hw _ (List.mem_of_getElem? (i := 35) rfl))) (notFace_of_selects (args := #[]) (mvT hZ (hw _ (List.mem_of_getElem? (i := 37) rfl)))) (mvT hZ (hw _ (List.mem_of_getElem? (i := 37) rfl))) (mvT hZ (hw _ (List.mem_of_getElem? (i := 36) rfl))) (by decide) (backOf (W := 0) (per l Z a0 hw [] h29.size k n (FP.l2d (k * ((1000000000 : Int64) / n))) T30.heap n0 Zp Fc30 Fn30 (by rw [own_t2 n hn.1]; exact hq)) hZ (hw _ (List.mem_of_getElem? (i := 38) rfl)) (hw _ (List.mem_of_getElem? (i := 7) rfl)) (by decide) (by decide)) q31a q31c (g := (mkF m 169 #[.val (.long p1), .second, .val (.long p2), .second, .val (.int p3), .val (.int p4), .val (.int p5), .val (.int (1 : Int32)), .val (.long k), .second, .val (.ref b19), .val (.long n), .second, .unset, .unset] [(.ref h29.size)])) rfl (by rw [hml]; rfl) (Steps.refl _) (argsL := []) (rest := []) (lenOf pd_3 rfl) rfl (by show 2 * 0 + _ ≤ _; exact Nat.le_of_eq rfl) (hb hby at_169) (fun _ _ => ⟨rfl, rfl, (by decide : 2 + 0 ≤ _), (by decide : 17 + 0 ≤ _)⟩)
    dsimp only [Pt.U, Pt.locs, Pt.cells, Pt.slots] at X31 l31 y31 z31 st31 hQ31
    subst l31 y31 z31
    obtain ⟨rfl, N31q, e31⟩ := hQ31
    have N31 := Fr.app N30 N31q
    refine Ends.st st31 ?_
    refine Ends.of (F' := T31.setTop (mkF m 195 #[.val (.long p1), .second, .val (.long p2), .second, .val (.int p3), .val (.int p4), .val (.int p5), .val (.int (1 : Int32)), .val (.long k), .second, .val (.ref b19), .val (.long n), .second, .val (.double (FP.l2d (k * ((1000000000 : Int64) / n)))), .second] [(.int (1 : Int32))])) (fun _ kt => ?_) ?_
    · show Steps p.tables e below (T31.setTop (mkF m 172 #[.val (.long p1), .second, .val (.long p2), .second, .val (.int p3), .val (.int p4), .val (.int p5), .val (.int (1 : Int32)), .val (.long k), .second, .val (.ref b19), .val (.long n), .second, .unset, .unset] [(.double (FP.l2d (k * ((1000000000 : Int64) / n))))])) _
      refine XS.dstore X31.here hx rfl (hb hby at_172) rfl (l' := #[.val (.long p1), .second, .val (.long p2), .second, .val (.int p3), .val (.int p4), .val (.int p5), .val (.int (1 : Int32)), .val (.long k), .second, .val (.ref b19), .val (.long n), .second, .val (.double (FP.l2d (k * ((1000000000 : Int64) / n)))), .second]) rfl ?_
      show Steps p.tables e below (T31.setTop (mkF m 174 #[.val (.long p1), .second, .val (.long p2), .second, .val (.int p3), .val (.int p4), .val (.int p5), .val (.int (1 : Int32)), .val (.long k), .second, .val (.ref b19), .val (.long n), .second, .val (.double (FP.l2d (k * ((1000000000 : Int64) / n)))), .second] [])) _
      refine XS.dload X31.here hx rfl (hb hby at_174) rfl ?_
      show Steps p.tables e below (T31.setTop (mkF m 176 #[.val (.long p1), .second, .val (.long p2), .second, .val (.int p3), .val (.int p4), .val (.int p5), .val (.int (1 : Int32)), .val (.long k), .second, .val (.ref b19), .val (.long n), .second, .val (.double (FP.l2d (k * ((1000000000 : Int64) / n)))), .second] [(.double (FP.l2d (k * ((1000000000 : Int64) / n))))])) _
      refine XS.lload X31.here hx rfl (hb hby at_176) rfl ?_
      show Steps p.tables e below (T31.setTop (mkF m 178 #[.val (.long p1), .second, .val (.long p2), .second, .val (.int p3), .val (.int p4), .val (.int p5), .val (.int (1 : Int32)), .val (.long k), .second, .val (.ref b19), .val (.long n), .second, .val (.double (FP.l2d (k * ((1000000000 : Int64) / n)))), .second] [(.long k), (.double (FP.l2d (k * ((1000000000 : Int64) / n))))])) _
      refine X31.ldc2Long hx hown (mvT hZ (hw _ (List.mem_of_getElem? (i := 59) rfl))) (g := (mkF m 178 #[.val (.long p1), .second, .val (.long p2), .second, .val (.int p3), .val (.int p4), .val (.int p5), .val (.int (1 : Int32)), .val (.long k), .second, .val (.ref b19), .val (.long n), .second, .val (.double (FP.l2d (k * ((1000000000 : Int64) / n)))), .second] [(.long k), (.double (FP.l2d (k * ((1000000000 : Int64) / n))))])) rfl (hb hby at_178) _ ?_
      show Steps p.tables e below (T31.setTop (mkF m 181 #[.val (.long p1), .second, .val (.long p2), .second, .val (.int p3), .val (.int p4), .val (.int p5), .val (.int (1 : Int32)), .val (.long k), .second, .val (.ref b19), .val (.long n), .second, .val (.double (FP.l2d (k * ((1000000000 : Int64) / n)))), .second] [(.long (1000000000 : Int64)), (.long k), (.double (FP.l2d (k * ((1000000000 : Int64) / n))))])) _
      refine XS.lload X31.here hx rfl (hb hby at_181) rfl ?_
      show Steps p.tables e below (T31.setTop (mkF m 183 #[.val (.long p1), .second, .val (.long p2), .second, .val (.int p3), .val (.int p4), .val (.int p5), .val (.int (1 : Int32)), .val (.long k), .second, .val (.ref b19), .val (.long n), .second, .val (.double (FP.l2d (k * ((1000000000 : Int64) / n)))), .second] [(.long n), (.long (1000000000 : Int64)), (.long k), (.double (FP.l2d (k * ((1000000000 : Int64) / n))))])) _
      refine XS.ldiv X31.here hx rfl (hb hby at_183) rfl hnz183 ?_
      show Steps p.tables e below (T31.setTop (mkF m 184 #[.val (.long p1), .second, .val (.long p2), .second, .val (.int p3), .val (.int p4), .val (.int p5), .val (.int (1 : Int32)), .val (.long k), .second, .val (.ref b19), .val (.long n), .second, .val (.double (FP.l2d (k * ((1000000000 : Int64) / n)))), .second] [(.long ((1000000000 : Int64) / n)), (.long k), (.double (FP.l2d (k * ((1000000000 : Int64) / n))))])) _
      refine XS.lmul X31.here hx rfl (hb hby at_184) rfl ?_
      show Steps p.tables e below (T31.setTop (mkF m 185 #[.val (.long p1), .second, .val (.long p2), .second, .val (.int p3), .val (.int p4), .val (.int p5), .val (.int (1 : Int32)), .val (.long k), .second, .val (.ref b19), .val (.long n), .second, .val (.double (FP.l2d (k * ((1000000000 : Int64) / n)))), .second] [(.long (k * ((1000000000 : Int64) / n))), (.double (FP.l2d (k * ((1000000000 : Int64) / n))))])) _
      refine XS.l2dS X31.here hx rfl (hb hby at_185) rfl rfl ?_
      show Steps p.tables e below (T31.setTop (mkF m 186 #[.val (.long p1), .second, .val (.long p2), .second, .val (.int p3), .val (.int p4), .val (.int p5), .val (.int (1 : Int32)), .val (.long k), .second, .val (.ref b19), .val (.long n), .second, .val (.double (FP.l2d (k * ((1000000000 : Int64) / n)))), .second] [(.double (FP.l2d (k * ((1000000000 : Int64) / n)))), (.double (FP.l2d (k * ((1000000000 : Int64) / n))))])) _
      refine XS.dcmpS X31.here hx rfl (hb hby at_186) rfl rfl ?_
      show Steps p.tables e below (T31.setTop (mkF m 187 #[.val (.long p1), .second, .val (.long p2), .second, .val (.int p3), .val (.int p4), .val (.int p5), .val (.int (1 : Int32)), .val (.long k), .second, .val (.ref b19), .val (.long n), .second, .val (.double (FP.l2d (k * ((1000000000 : Int64) / n)))), .second] [(.int (cmpValue (FP.dcmp (FP.l2d (k * ((1000000000 : Int64) / n))) (FP.l2d (k * ((1000000000 : Int64) / n)))) .l))])) _
      refine XS.ifNo X31.here hx rfl (hb hby at_187) rfl ((if0 _ _).trans (teq (dcmpV_self (own_nn64 hqn) .l)).2) ?_
      show Steps p.tables e below (T31.setTop (mkF m 190 #[.val (.long p1), .second, .val (.long p2), .second, .val (.int p3), .val (.int p4), .val (.int p5), .val (.int (1 : Int32)), .val (.long k), .second, .val (.ref b19), .val (.long n), .second, .val (.double (FP.l2d (k * ((1000000000 : Int64) / n)))), .second] [])) _
      refine XS.iconst X31.here hx rfl (hb hby at_190) ?_
      show Steps p.tables e below (T31.setTop (mkF m 191 #[.val (.long p1), .second, .val (.long p2), .second, .val (.int p3), .val (.int p4), .val (.int p5), .val (.int (1 : Int32)), .val (.long k), .second, .val (.ref b19), .val (.long n), .second, .val (.double (FP.l2d (k * ((1000000000 : Int64) / n)))), .second] [(.int (1 : Int32))])) _
      refine XS.goto X31.here hx rfl (pc0 := 191) (pc' := 195) rfl (hb hby at_191) (by decide) (by decide) ?_
      exact kt
    obtain ⟨fs, hr, hrun, hended, hW, hsame⟩ := X31.leave (v := some (.int (1 : Int32))) (fun h => by rw [Bd.returns] at h; cases h)
    exact ⟨_, _, retN X31 hx (t := .boolean) Bd.returns (by simp) (hb hby at_195) hr, hrun, hended, _, _, rfl, ⟨rfl, N31⟩, ⟨_, rfl⟩, hW, hsame.mono (by decide) (by decide)⟩
  · rw [hM]
    refine Ends.of (F' := s₁.setTop (mkF m 210 #[.val (.long p1), .second, .val (.long p2), .second, .val (.int p3), .val (.int p4), .val (.int p5), .val (.int (2 : Int32)), .val (.long ((p2 &&& (9223372036854775807 : Int64)) ||| (2 : Int64))), .second, .unset, .unset, .unset, .unset, .unset] [(.long ((p2 &&& (9223372036854775807 : Int64)) ||| (2 : Int64))), (.long p1)])) (fun _ kt => ?_) ?_
    · show Steps p.tables e below (s₁.setTop (mkF m 9 #[.val (.long p1), .second, .val (.long p2), .second, .val (.int p3), .val (.int p4), .val (.int p5), .val (.int (2 : Int32)), .unset, .unset, .unset, .unset, .unset, .unset, .unset] [])) _
      refine XS.iload X0.here hx rfl (hb hby at_9) rfl ?_
      show Steps p.tables e below (s₁.setTop (mkF m 11 #[.val (.long p1), .second, .val (.long p2), .second, .val (.int p3), .val (.int p4), .val (.int p5), .val (.int (2 : Int32)), .unset, .unset, .unset, .unset, .unset, .unset, .unset] [(.int (2 : Int32))])) _
      refine XS.ifYes X0.here hx rfl (pc0 := 11) (pc' := 57) rfl (hb hby at_11) rfl ((if0 _ _).trans (feq (by decide)).2) (by decide) (by decide) ?_
      show Steps p.tables e below (s₁.setTop (mkF m 57 #[.val (.long p1), .second, .val (.long p2), .second, .val (.int p3), .val (.int p4), .val (.int p5), .val (.int (2 : Int32)), .unset, .unset, .unset, .unset, .unset, .unset, .unset] [])) _
      refine XS.iload X0.here hx rfl (hb hby at_57) rfl ?_
      show Steps p.tables e below (s₁.setTop (mkF m 59 #[.val (.long p1), .second, .val (.long p2), .second, .val (.int p3), .val (.int p4), .val (.int p5), .val (.int (2 : Int32)), .unset, .unset, .unset, .unset, .unset, .unset, .unset] [(.int (2 : Int32))])) _
      refine XS.iconst X0.here hx rfl (hb hby at_59) ?_
      show Steps p.tables e below (s₁.setTop (mkF m 60 #[.val (.long p1), .second, .val (.long p2), .second, .val (.int p3), .val (.int p4), .val (.int p5), .val (.int (2 : Int32)), .unset, .unset, .unset, .unset, .unset, .unset, .unset] [(.int (1 : Int32)), (.int (2 : Int32))])) _
      refine XS.icmpYes X0.here hx rfl (pc0 := 60) (pc' := 196) rfl (hb hby at_60) rfl (feq (by decide)).2 (by decide) (by decide) ?_
      show Steps p.tables e below (s₁.setTop (mkF m 196 #[.val (.long p1), .second, .val (.long p2), .second, .val (.int p3), .val (.int p4), .val (.int p5), .val (.int (2 : Int32)), .unset, .unset, .unset, .unset, .unset, .unset, .unset] [])) _
      refine XS.lloadN X0.here hx rfl (hb hby at_196) rfl ?_
      show Steps p.tables e below (s₁.setTop (mkF m 197 #[.val (.long p1), .second, .val (.long p2), .second, .val (.int p3), .val (.int p4), .val (.int p5), .val (.int (2 : Int32)), .unset, .unset, .unset, .unset, .unset, .unset, .unset] [(.long p2)])) _
      refine X0.ldc2Long hx hown (mvT hZ (hw _ (List.mem_of_getElem? (i := 45) rfl))) (g := (mkF m 197 #[.val (.long p1), .second, .val (.long p2), .second, .val (.int p3), .val (.int p4), .val (.int p5), .val (.int (2 : Int32)), .unset, .unset, .unset, .unset, .unset, .unset, .unset] [(.long p2)])) rfl (hb hby at_197) _ ?_
      show Steps p.tables e below (s₁.setTop (mkF m 200 #[.val (.long p1), .second, .val (.long p2), .second, .val (.int p3), .val (.int p4), .val (.int p5), .val (.int (2 : Int32)), .unset, .unset, .unset, .unset, .unset, .unset, .unset] [(.long (9223372036854775807 : Int64)), (.long p2)])) _
      refine XS.land X0.here hx rfl (hb hby at_200) rfl ?_
      show Steps p.tables e below (s₁.setTop (mkF m 201 #[.val (.long p1), .second, .val (.long p2), .second, .val (.int p3), .val (.int p4), .val (.int p5), .val (.int (2 : Int32)), .unset, .unset, .unset, .unset, .unset, .unset, .unset] [(.long (p2 &&& (9223372036854775807 : Int64)))])) _
      refine X0.ldc2Long hx hown (mvT hZ (hw _ (List.mem_of_getElem? (i := 46) rfl))) (g := (mkF m 201 #[.val (.long p1), .second, .val (.long p2), .second, .val (.int p3), .val (.int p4), .val (.int p5), .val (.int (2 : Int32)), .unset, .unset, .unset, .unset, .unset, .unset, .unset] [(.long (p2 &&& (9223372036854775807 : Int64)))])) rfl (hb hby at_201) _ ?_
      show Steps p.tables e below (s₁.setTop (mkF m 204 #[.val (.long p1), .second, .val (.long p2), .second, .val (.int p3), .val (.int p4), .val (.int p5), .val (.int (2 : Int32)), .unset, .unset, .unset, .unset, .unset, .unset, .unset] [(.long (2 : Int64)), (.long (p2 &&& (9223372036854775807 : Int64)))])) _
      refine XS.lor X0.here hx rfl (hb hby at_204) rfl ?_
      show Steps p.tables e below (s₁.setTop (mkF m 205 #[.val (.long p1), .second, .val (.long p2), .second, .val (.int p3), .val (.int p4), .val (.int p5), .val (.int (2 : Int32)), .unset, .unset, .unset, .unset, .unset, .unset, .unset] [(.long ((p2 &&& (9223372036854775807 : Int64)) ||| (2 : Int64)))])) _
      refine XS.lstore X0.here hx rfl (hb hby at_205) rfl (l' := #[.val (.long p1), .second, .val (.long p2), .second, .val (.int p3), .val (.int p4), .val (.int p5), .val (.int (2 : Int32)), .val (.long ((p2 &&& (9223372036854775807 : Int64)) ||| (2 : Int64))), .second, .unset, .unset, .unset, .unset, .unset]) rfl ?_
      show Steps p.tables e below (s₁.setTop (mkF m 207 #[.val (.long p1), .second, .val (.long p2), .second, .val (.int p3), .val (.int p4), .val (.int p5), .val (.int (2 : Int32)), .val (.long ((p2 &&& (9223372036854775807 : Int64)) ||| (2 : Int64))), .second, .unset, .unset, .unset, .unset, .unset] [])) _
      refine XS.lloadN X0.here hx rfl (hb hby at_207) rfl ?_
      show Steps p.tables e below (s₁.setTop (mkF m 208 #[.val (.long p1), .second, .val (.long p2), .second, .val (.int p3), .val (.int p4), .val (.int p5), .val (.int (2 : Int32)), .val (.long ((p2 &&& (9223372036854775807 : Int64)) ||| (2 : Int64))), .second, .unset, .unset, .unset, .unset, .unset] [(.long p1)])) _
      refine XS.lload X0.here hx rfl (hb hby at_208) rfl ?_
      exact kt
    have hn := own_or2 p2
    generalize ((p2 &&& (9223372036854775807 : Int64)) ||| (2 : Int64)) = n at hn ⊢
    obtain ⟨X, eX⟩ : ∃ X, FP.dmul (FP.l2d p1) (4741671816366391296 : UInt64) = X := ⟨_, rfl⟩
    obtain ⟨R, eR⟩ : ∃ R, FP.ddiv X (FP.l2d n) = R := ⟨_, rfl⟩
    obtain ⟨⟨nd, nt⟩, hp, hm⟩ := own_m2f p1 n hn X R eX eR
    obtain ⟨_, _, ⟨T32, L32, k32, n32⟩, -, X32, ⟨Lc32, hQ32, l32, y32, z32⟩, st32⟩ := Jvm.LawKit.callS X0 hx (y := (⟨"com/example/coordinant/coordinant/tool/RunCountsPerSecondPinLaw", "make", "(JJ)Lcom/example/coordinant/coordinant/tool/Bank$RunCounts;"⟩ : MethodName)) hown (mvT hZ (hw _ (List.mem_of_getElem? (i := 1) rfl))) (mvT hZ (hw _ (List.mem_of_getElem? (i := 2) rfl))) (mvT hZ (hw _ (List.mem_of_getElem? (i := 3) rfl))) (mvT hZ (hw _ (List.mem_of_getElem? (i := 4) rfl))) (by decide) (backOf (W := 0) (mk l Z a0 hw [] p1 n h0 n0 Z0) hZ (hw _ (List.mem_of_getElem? (i := 4) rfl)) (hw _ (List.mem_of_getElem? (i := 3) rfl)) (by decide) (by decide)) (g := (mkF m 210 #[.val (.long p1), .second, .val (.long p2), .second, .val (.int p3), .val (.int p4), .val (.int p5), .val (.int (2 : Int32)), .val (.long n), .second, .unset, .unset, .unset, .unset, .unset] [(.long n), (.long p1)])) rfl (by rw [hml]; rfl) (argsL := [(.long p1), (.long n)]) (rest := []) (lenOf pd_0 rfl) rfl (by show 2 * 0 + _ ≤ _; exact Nat.le_of_eq rfl) (hb hby at_210) (fun _ _ => ⟨rfl, e0, (by decide : 0 + 1 ≤ _), (by decide : 0 + 7 ≤ _)⟩)
    dsimp only [Pt.U, Pt.locs, Pt.cells, Pt.slots] at X32 l32 y32 z32 st32 hQ32
    subst l32 y32 z32
    obtain ⟨rfl, N32q, K32, Ex32, Fc32, Fn32⟩ := hQ32
    have N32 := Fr.app N0 N32q
    refine Ends.of st32 ?_
    have Zp : n0 ≤ T32.heap.size := Nat.le_trans Z0 K32.1
    obtain ⟨cq33, kq33, q33a, q33b, q33c⟩ := isOf hZ rfl Ex32
    obtain ⟨_, _, ⟨T33, L33, k33, n33⟩, -, X33, ⟨Lc33, hQ33, l33, y33, z33⟩, st33⟩ := X32.virtualBack hx (y := (⟨"com/example/coordinant/coordinant/tool/Bank$RunCounts", "perSecond", "()D"⟩ : MethodName)) (z := (⟨"com/example/coordinant/coordinant/tool/Bank$RunCounts", "perSecond", "()D"⟩ : MethodName)) hown (mvT hZ (hw _ (List.mem_of_getElem? (i := 34) rfl))) (mvT hZ (hw _ (List.mem_of_getElem? (i := 35) rfl))) (notFace_of_selects (args := #[]) (mvT hZ (hw _ (List.mem_of_getElem? (i := 37) rfl)))) (mvT hZ (hw _ (List.mem_of_getElem? (i := 37) rfl))) (mvT hZ (hw _ (List.mem_of_getElem? (i := 36) rfl))) (by decide) (backOf (W := 0) (per l Z a0 hw [] h0.size p1 n R T32.heap n0 Zp Fc32 Fn32 (by rw [own_t2 n (by omega), eX]; exact eR)) hZ (hw _ (List.mem_of_getElem? (i := 38) rfl)) (hw _ (List.mem_of_getElem? (i := 7) rfl)) (by decide) (by decide)) q33a q33c (g := (mkF m 213 #[.val (.long p1), .second, .val (.long p2), .second, .val (.int p3), .val (.int p4), .val (.int p5), .val (.int (2 : Int32)), .val (.long n), .second, .unset, .unset, .unset, .unset, .unset] [(.ref h0.size)])) rfl (by rw [hml]; rfl) (Steps.refl _) (argsL := []) (rest := []) (lenOf pd_3 rfl) rfl (by show 2 * 0 + _ ≤ _; exact Nat.le_of_eq rfl) (hb hby at_213) (fun _ _ => ⟨rfl, rfl, (by decide : 1 + 0 ≤ _), (by decide : 7 + 0 ≤ _)⟩)
    dsimp only [Pt.U, Pt.locs, Pt.cells, Pt.slots] at X33 l33 y33 z33 st33 hQ33
    subst l33 y33 z33
    obtain ⟨rfl, N33q, e33⟩ := hQ33
    have N33 := Fr.app N32 N33q
    refine Ends.st st33 ?_
    refine Ends.of (F' := T33.setTop (mkF m 229 #[.val (.long p1), .second, .val (.long p2), .second, .val (.int p3), .val (.int p4), .val (.int p5), .val (.int (2 : Int32)), .val (.long n), .second, .val (.double R), .second, .val (.double X), .second, .unset] [(.int (lcmpW p1 (0 : Int64)))])) (fun _ kt => ?_) ?_
    · show Steps p.tables e below (T33.setTop (mkF m 216 #[.val (.long p1), .second, .val (.long p2), .second, .val (.int p3), .val (.int p4), .val (.int p5), .val (.int (2 : Int32)), .val (.long n), .second, .unset, .unset, .unset, .unset, .unset] [(.double R)])) _
      refine XS.dstore X33.here hx rfl (hb hby at_216) rfl (l' := #[.val (.long p1), .second, .val (.long p2), .second, .val (.int p3), .val (.int p4), .val (.int p5), .val (.int (2 : Int32)), .val (.long n), .second, .val (.double R), .second, .unset, .unset, .unset]) rfl ?_
      show Steps p.tables e below (T33.setTop (mkF m 218 #[.val (.long p1), .second, .val (.long p2), .second, .val (.int p3), .val (.int p4), .val (.int p5), .val (.int (2 : Int32)), .val (.long n), .second, .val (.double R), .second, .unset, .unset, .unset] [])) _
      refine XS.lloadN X33.here hx rfl (hb hby at_218) rfl ?_
      show Steps p.tables e below (T33.setTop (mkF m 219 #[.val (.long p1), .second, .val (.long p2), .second, .val (.int p3), .val (.int p4), .val (.int p5), .val (.int (2 : Int32)), .val (.long n), .second, .val (.double R), .second, .unset, .unset, .unset] [(.long p1)])) _
      refine XS.l2dS X33.here hx rfl (hb hby at_219) rfl rfl ?_
      show Steps p.tables e below (T33.setTop (mkF m 220 #[.val (.long p1), .second, .val (.long p2), .second, .val (.int p3), .val (.int p4), .val (.int p5), .val (.int (2 : Int32)), .val (.long n), .second, .val (.double R), .second, .unset, .unset, .unset] [(.double (FP.l2d p1))])) _
      refine X33.ldc2DoubleC hx hown (own_mvC hZ (hw _ (List.mem_of_getElem? (i := 44) rfl))) (g := (mkF m 220 #[.val (.long p1), .second, .val (.long p2), .second, .val (.int p3), .val (.int p4), .val (.int p5), .val (.int (2 : Int32)), .val (.long n), .second, .val (.double R), .second, .unset, .unset, .unset] [(.double (FP.l2d p1))])) rfl (hb hby at_220) _ ?_
      show Steps p.tables e below (T33.setTop (mkF m 223 #[.val (.long p1), .second, .val (.long p2), .second, .val (.int p3), .val (.int p4), .val (.int p5), .val (.int (2 : Int32)), .val (.long n), .second, .val (.double R), .second, .unset, .unset, .unset] [(.double (4741671816366391296 : UInt64)), (.double (FP.l2d p1))])) _
      refine XS.dmulS X33.here hx rfl (hb hby at_223) rfl (own_nn64 (own_nx p1)) eX ?_
      show Steps p.tables e below (T33.setTop (mkF m 224 #[.val (.long p1), .second, .val (.long p2), .second, .val (.int p3), .val (.int p4), .val (.int p5), .val (.int (2 : Int32)), .val (.long n), .second, .val (.double R), .second, .unset, .unset, .unset] [(.double X)])) _
      refine XS.dstore X33.here hx rfl (hb hby at_224) rfl (l' := #[.val (.long p1), .second, .val (.long p2), .second, .val (.int p3), .val (.int p4), .val (.int p5), .val (.int (2 : Int32)), .val (.long n), .second, .val (.double R), .second, .val (.double X), .second, .unset]) rfl ?_
      show Steps p.tables e below (T33.setTop (mkF m 226 #[.val (.long p1), .second, .val (.long p2), .second, .val (.int p3), .val (.int p4), .val (.int p5), .val (.int (2 : Int32)), .val (.long n), .second, .val (.double R), .second, .val (.double X), .second, .unset] [])) _
      refine XS.lloadN X33.here hx rfl (hb hby at_226) rfl ?_
      show Steps p.tables e below (T33.setTop (mkF m 227 #[.val (.long p1), .second, .val (.long p2), .second, .val (.int p3), .val (.int p4), .val (.int p5), .val (.int (2 : Int32)), .val (.long n), .second, .val (.double R), .second, .val (.double X), .second, .unset] [(.long p1)])) _
      refine XS.lconst X33.here hx rfl (hb hby at_227) ?_
      show Steps p.tables e below (T33.setTop (mkF m 228 #[.val (.long p1), .second, .val (.long p2), .second, .val (.int p3), .val (.int p4), .val (.int p5), .val (.int (2 : Int32)), .val (.long n), .second, .val (.double R), .second, .val (.double X), .second, .unset] [(.long (0 : Int64)), (.long p1)])) _
      refine XS.lcmp X33.here hx rfl (hb hby at_228) rfl ?_
      exact kt
    by_cases h0c : p1 < (0 : Int64)
    · refine Ends.of (F' := T33.setTop (mkF m 305 #[.val (.long p1), .second, .val (.long p2), .second, .val (.int p3), .val (.int p4), .val (.int p5), .val (.int (2 : Int32)), .val (.long n), .second, .val (.double R), .second, .val (.double X), .second, .unset] [(.int (1 : Int32))])) (fun _ kt => ?_) ?_
      · show Steps p.tables e below (T33.setTop (mkF m 229 #[.val (.long p1), .second, .val (.long p2), .second, .val (.int p3), .val (.int p4), .val (.int p5), .val (.int (2 : Int32)), .val (.long n), .second, .val (.double R), .second, .val (.double X), .second, .unset] [(.int (lcmpW p1 (0 : Int64)))])) _
        refine XS.ifYes X33.here hx rfl (pc0 := 229) (pc' := 269) rfl (hb hby at_229) rfl ((if0 _ _).trans (tlt ((lw_lt _ _).mpr h0c)).1) (by decide) (by decide) ?_
        show Steps p.tables e below (T33.setTop (mkF m 269 #[.val (.long p1), .second, .val (.long p2), .second, .val (.int p3), .val (.int p4), .val (.int p5), .val (.int (2 : Int32)), .val (.long n), .second, .val (.double R), .second, .val (.double X), .second, .unset] [])) _
        refine XS.dload X33.here hx rfl (hb hby at_269) rfl ?_
        show Steps p.tables e below (T33.setTop (mkF m 271 #[.val (.long p1), .second, .val (.long p2), .second, .val (.int p3), .val (.int p4), .val (.int p5), .val (.int (2 : Int32)), .val (.long n), .second, .val (.double R), .second, .val (.double X), .second, .unset] [(.double R)])) _
        refine XS.dconst0 X33.here hx rfl (hb hby at_271) (v := 0) rfl ?_
        show Steps p.tables e below (T33.setTop (mkF m 272 #[.val (.long p1), .second, .val (.long p2), .second, .val (.int p3), .val (.int p4), .val (.int p5), .val (.int (2 : Int32)), .val (.long n), .second, .val (.double R), .second, .val (.double X), .second, .unset] [(.double (0 : UInt64)), (.double R)])) _
        refine XS.dcmpS X33.here hx rfl (hb hby at_272) rfl rfl ?_
        show Steps p.tables e below (T33.setTop (mkF m 273 #[.val (.long p1), .second, .val (.long p2), .second, .val (.int p3), .val (.int p4), .val (.int p5), .val (.int (2 : Int32)), .val (.long n), .second, .val (.double R), .second, .val (.double X), .second, .unset] [(.int (cmpValue (FP.dcmp R (0 : UInt64)) .g))])) _
        refine XS.ifNo X33.here hx rfl (hb hby at_273) rfl ((if0 _ _).trans (flt (hm h0c).1).2.2.1) ?_
        show Steps p.tables e below (T33.setTop (mkF m 276 #[.val (.long p1), .second, .val (.long p2), .second, .val (.int p3), .val (.int p4), .val (.int p5), .val (.int (2 : Int32)), .val (.long n), .second, .val (.double R), .second, .val (.double X), .second, .unset] [])) _
        refine XS.dload X33.here hx rfl (hb hby at_276) rfl ?_
        show Steps p.tables e below (T33.setTop (mkF m 278 #[.val (.long p1), .second, .val (.long p2), .second, .val (.int p3), .val (.int p4), .val (.int p5), .val (.int (2 : Int32)), .val (.long n), .second, .val (.double R), .second, .val (.double X), .second, .unset] [(.double R)])) _
        refine X33.ldc2DoubleC hx hown (own_mvC hZ (hw _ (List.mem_of_getElem? (i := 47) rfl))) (g := (mkF m 278 #[.val (.long p1), .second, .val (.long p2), .second, .val (.int p3), .val (.int p4), .val (.int p5), .val (.int (2 : Int32)), .val (.long n), .second, .val (.double R), .second, .val (.double X), .second, .unset] [(.double R)])) rfl (hb hby at_278) _ ?_
        show Steps p.tables e below (T33.setTop (mkF m 281 #[.val (.long p1), .second, .val (.long p2), .second, .val (.int p3), .val (.int p4), .val (.int p5), .val (.int (2 : Int32)), .val (.long n), .second, .val (.double R), .second, .val (.double X), .second, .unset] [(.double (4611686018427387904 : UInt64)), (.double R)])) _
        refine XS.dmulS X33.here hx rfl (hb hby at_281) rfl nd rfl ?_
        show Steps p.tables e below (T33.setTop (mkF m 282 #[.val (.long p1), .second, .val (.long p2), .second, .val (.int p3), .val (.int p4), .val (.int p5), .val (.int (2 : Int32)), .val (.long n), .second, .val (.double R), .second, .val (.double X), .second, .unset] [(.double (FP.dmul R (4611686018427387904 : UInt64)))])) _
        refine XS.dload X33.here hx rfl (hb hby at_282) rfl ?_
        show Steps p.tables e below (T33.setTop (mkF m 284 #[.val (.long p1), .second, .val (.long p2), .second, .val (.int p3), .val (.int p4), .val (.int p5), .val (.int (2 : Int32)), .val (.long n), .second, .val (.double R), .second, .val (.double X), .second, .unset] [(.double X), (.double (FP.dmul R (4611686018427387904 : UInt64)))])) _
        refine XS.dcmpS X33.here hx rfl (hb hby at_284) rfl rfl ?_
        show Steps p.tables e below (T33.setTop (mkF m 285 #[.val (.long p1), .second, .val (.long p2), .second, .val (.int p3), .val (.int p4), .val (.int p5), .val (.int (2 : Int32)), .val (.long n), .second, .val (.double R), .second, .val (.double X), .second, .unset] [(.int (cmpValue (FP.dcmp (FP.dmul R (4611686018427387904 : UInt64)) X) .l))])) _
        refine XS.ifNo X33.here hx rfl (hb hby at_285) rfl ((if0 _ _).trans (flt (hm h0c).2.1).1) ?_
        show Steps p.tables e below (T33.setTop (mkF m 288 #[.val (.long p1), .second, .val (.long p2), .second, .val (.int p3), .val (.int p4), .val (.int p5), .val (.int (2 : Int32)), .val (.long n), .second, .val (.double R), .second, .val (.double X), .second, .unset] [])) _
        refine XS.dload X33.here hx rfl (hb hby at_288) rfl ?_
        show Steps p.tables e below (T33.setTop (mkF m 290 #[.val (.long p1), .second, .val (.long p2), .second, .val (.int p3), .val (.int p4), .val (.int p5), .val (.int (2 : Int32)), .val (.long n), .second, .val (.double R), .second, .val (.double X), .second, .unset] [(.double R)])) _
        refine XS.dload X33.here hx rfl (hb hby at_290) rfl ?_
        show Steps p.tables e below (T33.setTop (mkF m 292 #[.val (.long p1), .second, .val (.long p2), .second, .val (.int p3), .val (.int p4), .val (.int p5), .val (.int (2 : Int32)), .val (.long n), .second, .val (.double R), .second, .val (.double X), .second, .unset] [(.double X), (.double R)])) _
        refine X33.ldc2DoubleC hx hown (own_mvC hZ (hw _ (List.mem_of_getElem? (i := 48) rfl))) (g := (mkF m 292 #[.val (.long p1), .second, .val (.long p2), .second, .val (.int p3), .val (.int p4), .val (.int p5), .val (.int (2 : Int32)), .val (.long n), .second, .val (.double R), .second, .val (.double X), .second, .unset] [(.double X), (.double R)])) rfl (hb hby at_292) _ ?_
        show Steps p.tables e below (T33.setTop (mkF m 295 #[.val (.long p1), .second, .val (.long p2), .second, .val (.int p3), .val (.int p4), .val (.int p5), .val (.int (2 : Int32)), .val (.long n), .second, .val (.double R), .second, .val (.double X), .second, .unset] [(.double (4890909195324358656 : UInt64)), (.double X), (.double R)])) _
        refine XS.ddivS X33.here hx rfl (hb hby at_295) rfl nt rfl ?_
        show Steps p.tables e below (T33.setTop (mkF m 296 #[.val (.long p1), .second, .val (.long p2), .second, .val (.int p3), .val (.int p4), .val (.int p5), .val (.int (2 : Int32)), .val (.long n), .second, .val (.double R), .second, .val (.double X), .second, .unset] [(.double (FP.ddiv X (4890909195324358656 : UInt64))), (.double R)])) _
        refine XS.dcmpS X33.here hx rfl (hb hby at_296) rfl rfl ?_
        show Steps p.tables e below (T33.setTop (mkF m 297 #[.val (.long p1), .second, .val (.long p2), .second, .val (.int p3), .val (.int p4), .val (.int p5), .val (.int (2 : Int32)), .val (.long n), .second, .val (.double R), .second, .val (.double X), .second, .unset] [(.int (cmpValue (FP.dcmp R (FP.ddiv X (4890909195324358656 : UInt64))) .g))])) _
        refine XS.ifNo X33.here hx rfl (hb hby at_297) rfl ((if0 _ _).trans (flt (hm h0c).2.2).2.2.1) ?_
        show Steps p.tables e below (T33.setTop (mkF m 300 #[.val (.long p1), .second, .val (.long p2), .second, .val (.int p3), .val (.int p4), .val (.int p5), .val (.int (2 : Int32)), .val (.long n), .second, .val (.double R), .second, .val (.double X), .second, .unset] [])) _
        refine XS.iconst X33.here hx rfl (hb hby at_300) ?_
        show Steps p.tables e below (T33.setTop (mkF m 301 #[.val (.long p1), .second, .val (.long p2), .second, .val (.int p3), .val (.int p4), .val (.int p5), .val (.int (2 : Int32)), .val (.long n), .second, .val (.double R), .second, .val (.double X), .second, .unset] [(.int (1 : Int32))])) _
        refine XS.goto X33.here hx rfl (pc0 := 301) (pc' := 305) rfl (hb hby at_301) (by decide) (by decide) ?_
        exact kt
      obtain ⟨fs, hr, hrun, hended, hW, hsame⟩ := X33.leave (v := some (.int (1 : Int32))) (fun h => by rw [Bd.returns] at h; cases h)
      exact ⟨_, _, retN X33 hx (t := .boolean) Bd.returns (by simp) (hb hby at_305) hr, hrun, hended, _, _, rfl, ⟨rfl, N33⟩, ⟨_, rfl⟩, hW, hsame.mono (by decide) (by decide)⟩
    · refine Ends.of (F' := T33.setTop (mkF m 268 #[.val (.long p1), .second, .val (.long p2), .second, .val (.int p3), .val (.int p4), .val (.int p5), .val (.int (2 : Int32)), .val (.long n), .second, .val (.double R), .second, .val (.double X), .second, .unset] [(.int (1 : Int32))])) (fun _ kt => ?_) ?_
      · show Steps p.tables e below (T33.setTop (mkF m 229 #[.val (.long p1), .second, .val (.long p2), .second, .val (.int p3), .val (.int p4), .val (.int p5), .val (.int (2 : Int32)), .val (.long n), .second, .val (.double R), .second, .val (.double X), .second, .unset] [(.int (lcmpW p1 (0 : Int64)))])) _
        refine XS.ifNo X33.here hx rfl (hb hby at_229) rfl ((if0 _ _).trans (flt (mt (lw_lt _ _).mp h0c)).1) ?_
        show Steps p.tables e below (T33.setTop (mkF m 232 #[.val (.long p1), .second, .val (.long p2), .second, .val (.int p3), .val (.int p4), .val (.int p5), .val (.int (2 : Int32)), .val (.long n), .second, .val (.double R), .second, .val (.double X), .second, .unset] [])) _
        refine XS.dconst0 X33.here hx rfl (hb hby at_232) (v := 0) rfl ?_
        show Steps p.tables e below (T33.setTop (mkF m 233 #[.val (.long p1), .second, .val (.long p2), .second, .val (.int p3), .val (.int p4), .val (.int p5), .val (.int (2 : Int32)), .val (.long n), .second, .val (.double R), .second, .val (.double X), .second, .unset] [(.double (0 : UInt64))])) _
        refine XS.dload X33.here hx rfl (hb hby at_233) rfl ?_
        show Steps p.tables e below (T33.setTop (mkF m 235 #[.val (.long p1), .second, .val (.long p2), .second, .val (.int p3), .val (.int p4), .val (.int p5), .val (.int (2 : Int32)), .val (.long n), .second, .val (.double R), .second, .val (.double X), .second, .unset] [(.double R), (.double (0 : UInt64))])) _
        refine XS.dcmpS X33.here hx rfl (hb hby at_235) rfl rfl ?_
        show Steps p.tables e below (T33.setTop (mkF m 236 #[.val (.long p1), .second, .val (.long p2), .second, .val (.int p3), .val (.int p4), .val (.int p5), .val (.int (2 : Int32)), .val (.long n), .second, .val (.double R), .second, .val (.double X), .second, .unset] [(.int (cmpValue (FP.dcmp (0 : UInt64) R) .g))])) _
        refine XS.ifNo X33.here hx rfl (hb hby at_236) rfl ((if0 _ _).trans (flt (hp h0c).1).2.2.1) ?_
        show Steps p.tables e below (T33.setTop (mkF m 239 #[.val (.long p1), .second, .val (.long p2), .second, .val (.int p3), .val (.int p4), .val (.int p5), .val (.int (2 : Int32)), .val (.long n), .second, .val (.double R), .second, .val (.double X), .second, .unset] [])) _
        refine XS.dload X33.here hx rfl (hb hby at_239) rfl ?_
        show Steps p.tables e below (T33.setTop (mkF m 241 #[.val (.long p1), .second, .val (.long p2), .second, .val (.int p3), .val (.int p4), .val (.int p5), .val (.int (2 : Int32)), .val (.long n), .second, .val (.double R), .second, .val (.double X), .second, .unset] [(.double R)])) _
        refine X33.ldc2DoubleC hx hown (own_mvC hZ (hw _ (List.mem_of_getElem? (i := 47) rfl))) (g := (mkF m 241 #[.val (.long p1), .second, .val (.long p2), .second, .val (.int p3), .val (.int p4), .val (.int p5), .val (.int (2 : Int32)), .val (.long n), .second, .val (.double R), .second, .val (.double X), .second, .unset] [(.double R)])) rfl (hb hby at_241) _ ?_
        show Steps p.tables e below (T33.setTop (mkF m 244 #[.val (.long p1), .second, .val (.long p2), .second, .val (.int p3), .val (.int p4), .val (.int p5), .val (.int (2 : Int32)), .val (.long n), .second, .val (.double R), .second, .val (.double X), .second, .unset] [(.double (4611686018427387904 : UInt64)), (.double R)])) _
        refine XS.dmulS X33.here hx rfl (hb hby at_244) rfl nd rfl ?_
        show Steps p.tables e below (T33.setTop (mkF m 245 #[.val (.long p1), .second, .val (.long p2), .second, .val (.int p3), .val (.int p4), .val (.int p5), .val (.int (2 : Int32)), .val (.long n), .second, .val (.double R), .second, .val (.double X), .second, .unset] [(.double (FP.dmul R (4611686018427387904 : UInt64)))])) _
        refine XS.dload X33.here hx rfl (hb hby at_245) rfl ?_
        show Steps p.tables e below (T33.setTop (mkF m 247 #[.val (.long p1), .second, .val (.long p2), .second, .val (.int p3), .val (.int p4), .val (.int p5), .val (.int (2 : Int32)), .val (.long n), .second, .val (.double R), .second, .val (.double X), .second, .unset] [(.double X), (.double (FP.dmul R (4611686018427387904 : UInt64)))])) _
        refine XS.dcmpS X33.here hx rfl (hb hby at_247) rfl rfl ?_
        show Steps p.tables e below (T33.setTop (mkF m 248 #[.val (.long p1), .second, .val (.long p2), .second, .val (.int p3), .val (.int p4), .val (.int p5), .val (.int (2 : Int32)), .val (.long n), .second, .val (.double R), .second, .val (.double X), .second, .unset] [(.int (cmpValue (FP.dcmp (FP.dmul R (4611686018427387904 : UInt64)) X) .g))])) _
        refine XS.ifNo X33.here hx rfl (hb hby at_248) rfl ((if0 _ _).trans (flt (hp h0c).2.1).2.2.1) ?_
        show Steps p.tables e below (T33.setTop (mkF m 251 #[.val (.long p1), .second, .val (.long p2), .second, .val (.int p3), .val (.int p4), .val (.int p5), .val (.int (2 : Int32)), .val (.long n), .second, .val (.double R), .second, .val (.double X), .second, .unset] [])) _
        refine XS.dload X33.here hx rfl (hb hby at_251) rfl ?_
        show Steps p.tables e below (T33.setTop (mkF m 253 #[.val (.long p1), .second, .val (.long p2), .second, .val (.int p3), .val (.int p4), .val (.int p5), .val (.int (2 : Int32)), .val (.long n), .second, .val (.double R), .second, .val (.double X), .second, .unset] [(.double R)])) _
        refine XS.dload X33.here hx rfl (hb hby at_253) rfl ?_
        show Steps p.tables e below (T33.setTop (mkF m 255 #[.val (.long p1), .second, .val (.long p2), .second, .val (.int p3), .val (.int p4), .val (.int p5), .val (.int (2 : Int32)), .val (.long n), .second, .val (.double R), .second, .val (.double X), .second, .unset] [(.double X), (.double R)])) _
        refine X33.ldc2DoubleC hx hown (own_mvC hZ (hw _ (List.mem_of_getElem? (i := 48) rfl))) (g := (mkF m 255 #[.val (.long p1), .second, .val (.long p2), .second, .val (.int p3), .val (.int p4), .val (.int p5), .val (.int (2 : Int32)), .val (.long n), .second, .val (.double R), .second, .val (.double X), .second, .unset] [(.double X), (.double R)])) rfl (hb hby at_255) _ ?_
        show Steps p.tables e below (T33.setTop (mkF m 258 #[.val (.long p1), .second, .val (.long p2), .second, .val (.int p3), .val (.int p4), .val (.int p5), .val (.int (2 : Int32)), .val (.long n), .second, .val (.double R), .second, .val (.double X), .second, .unset] [(.double (4890909195324358656 : UInt64)), (.double X), (.double R)])) _
        refine XS.ddivS X33.here hx rfl (hb hby at_258) rfl nt rfl ?_
        show Steps p.tables e below (T33.setTop (mkF m 259 #[.val (.long p1), .second, .val (.long p2), .second, .val (.int p3), .val (.int p4), .val (.int p5), .val (.int (2 : Int32)), .val (.long n), .second, .val (.double R), .second, .val (.double X), .second, .unset] [(.double (FP.ddiv X (4890909195324358656 : UInt64))), (.double R)])) _
        refine XS.dcmpS X33.here hx rfl (hb hby at_259) rfl rfl ?_
        show Steps p.tables e below (T33.setTop (mkF m 260 #[.val (.long p1), .second, .val (.long p2), .second, .val (.int p3), .val (.int p4), .val (.int p5), .val (.int (2 : Int32)), .val (.long n), .second, .val (.double R), .second, .val (.double X), .second, .unset] [(.int (cmpValue (FP.dcmp R (FP.ddiv X (4890909195324358656 : UInt64))) .l))])) _
        refine XS.ifNo X33.here hx rfl (hb hby at_260) rfl ((if0 _ _).trans (flt (hp h0c).2.2).1) ?_
        show Steps p.tables e below (T33.setTop (mkF m 263 #[.val (.long p1), .second, .val (.long p2), .second, .val (.int p3), .val (.int p4), .val (.int p5), .val (.int (2 : Int32)), .val (.long n), .second, .val (.double R), .second, .val (.double X), .second, .unset] [])) _
        refine XS.iconst X33.here hx rfl (hb hby at_263) ?_
        show Steps p.tables e below (T33.setTop (mkF m 264 #[.val (.long p1), .second, .val (.long p2), .second, .val (.int p3), .val (.int p4), .val (.int p5), .val (.int (2 : Int32)), .val (.long n), .second, .val (.double R), .second, .val (.double X), .second, .unset] [(.int (1 : Int32))])) _
        refine XS.goto X33.here hx rfl (pc0 := 264) (pc' := 268) rfl (hb hby at_264) (by decide) (by decide) ?_
        exact kt
      obtain ⟨fs, hr, hrun, hended, hW, hsame⟩ := X33.leave (v := some (.int (1 : Int32))) (fun h => by rw [Bd.returns] at h; cases h)
      exact ⟨_, _, retN X33 hx (t := .boolean) Bd.returns (by simp) (hb hby at_268) hr, hrun, hended, _, _, rfl, ⟨rfl, N33⟩, ⟨_, rfl⟩, hW, hsame.mono (by decide) (by decide)⟩
set_option maxRecDepth 65536 in
set_option maxHeartbeats 40000000 in
theorem comes_1 {Post : Tables → Env → Array Value → State → Outcome → State → Prop} (hpost : ∀ tb e args s v u, (limb_1_1.after args s (.returned v) u = true ∧ limb_1_2.after args s (.returned v) u = true ∧ True) → FrameEnd s (.returned v) u (Jvm.fieldLocs frame_1_writes args s ++ Jvm.arrayLocs frame_1_arrays args s ++ Jvm.staticLocs frame_1_statics s) 16 128 → Post tb e args s (.returned v) u) :
    ArmFor flags0 classFile x code maxLocals ret World_1 tables_1 room_1 Calls_1 rest_1 Pre_1 Post := by
  intro l hfl _ _ p e ha hc hk s m args below hf hA hF happ hP
  obtain ⟨hcalls, hrest, hpre⟩ := hP
  obtain ⟨-, -, -, hnamed, -, -, -, hat⟩ := (Spec.applies_iff hf).mp happ
  obtain ⟨hg, hn⟩ := and_e (Cond.before_iff.mp (show (Jvm.Cond.and given_1 narrow_1).before args s = true from hpre))
  obtain ⟨g0, gt0⟩ := and_e hg
  obtain ⟨gv0, gt1⟩ := and_e gt0
  obtain ⟨gv1, gt2⟩ := and_e gt1
  obtain ⟨gv2, gt3⟩ := and_e gt2
  obtain ⟨gv3, gt4⟩ := and_e gt3
  obtain ⟨w0, w1, w2, w3, w4, rfl⟩ : ∃ w0 w1 w2 w3 w4 : Value, args = #[w0, w1, w2, w3, w4] := by
    have hs : args.size = 5 := by simpa [Cond.value, given_1] using g0
    obtain ⟨L⟩ := args
    match L, hs with
    | [w0, w1, w2, w3, w4], _ => exact ⟨w0, w1, w2, w3, w4, rfl⟩
  have hw := fun d (hd : d ∈ tables_1) => atoms_spec (ws := Jvm.Cond.code x code maxLocals ret :: tables_1) hat d (List.mem_cons_of_mem _ hd)
  have hfit : Fit s := fun {y c} hc i hi => by
    obtain ⟨ha, rfl⟩ := Array.getElem?_eq_some_iff.mp hc
    have q := List.all_eq_true.mp ((Array.all_eq_true_iff_forall_mem.mp hF) _ (Array.getElem_mem ha)) i (List.mem_range.mpr hi)
    simpa [Array.getElem?_eq_getElem hi] using q
  obtain ⟨i0, ei0⟩ := isL_v gv0
  obtain rfl : w0 = (.long i0) := Option.some.inj ei0
  obtain ⟨i1, ei1⟩ := isL_v gv1
  obtain rfl : w1 = (.long i1) := Option.some.inj ei1
  obtain ⟨i2, ei2⟩ := is_v gv2
  obtain rfl : w2 = (.int i2) := Option.some.inj ei2
  obtain ⟨i3, ei3⟩ := is_v gv3
  obtain rfl : w3 = (.int i3) := Option.some.inj ei3
  obtain ⟨i4, ei4⟩ := is_v gt4
  obtain rfl : w4 = (.int i4) := Option.some.inj ei4
  obtain ⟨n, o, h1, h2, h3, _, L, rfl, ⟨rfl, N⟩, hq⟩ := rm0 l s _ hw tables_1 i0 i1 i2 i3 i4  s.heap s.heap.size (Nat.le_refl _)  p e ha hc hk s m _ below hf ((Spec.applies_iff_loose hf).mp happ).1 ⟨rfl, State.Warmed39.refl s, rfl⟩ trivial
  refine ⟨n, _, h1, h2, h3, hpost _ _ _ _ _ _ ⟨Cond.after_iff.mpr rfl, Cond.after_iff.mpr (eq_i res_at (Term.int_eval (1)) rfl), trivial⟩ ⟨hq.1, hq.2.1, (hq.2.2.sift fun y hy => Or.inr (N y hy)).mono (by decide) (by decide)⟩⟩
theorem main_1_1 : Claimed_1_1 := comes_1 fun _ _ _ _ _ _ h hF => ⟨h.1, hF⟩
theorem main_1_2 : Claimed_1_2 := comes_1 fun _ _ _ _ _ _ h hF => ⟨h.2.1, hF⟩
end Jvm.Pilot.@@N@@
namespace Jvm.Pilot.@@N@@
open Jvm Jvm.ClassFile Sem Op Lib Jvm.Free Jvm.Stand Jvm.Pilot.@@N@@.Jvm.D
/-! MADE BY PROGRAM (witnessworld.py) out of the Statement's table words and the real class files: 13 classes; the members and pool entries that the words name. The judged class is class 1, her method 2. -/
namespace start1
open Jvm.ClassFile
def u (s : String) : CpInfo := .utf8 (stringToUtf16 s)
/-- a pool by its gaps: so many unusable entries, then the entry; so many at the end -/
def gap : Nat → List CpInfo → List CpInfo
  | 0, r => r
  | n + 1, r => .unusable :: gap n r
def poolList (es : List (Nat × CpInfo)) (last : Nat) : List CpInfo := es.foldr (fun e r => gap e.1 (e.2 :: r)) (gap last [])
def pool (es : List (Nat × CpInfo)) (last : Nat) : Array CpInfo := ⟨poolList es last⟩
def fileOf (pool : Array CpInfo) (this : Nat) (attrs : Array Attribute := #[]) (ms : Array MethodInfo := #[]) (fl : Nat := 33) (sup : Nat := 0) (ifs : Array Nat := #[]) (fds : Array FieldInfo := #[]) : ClassFile where
  minorVersion := 0
  majorVersion := 65
  constantPool := pool
  accessFlags := fl
  thisClass := this
  superClass := sup
  interfaces := ifs
  fields := fds
  methods := ms
  attributes := attrs
def plain (name : String) (sup : Option ClassId) : Class where
  name := name
  kind := .ordinary
  loader := none
  accessFlags := 33
  super := sup
  interfaces := #[]
  cf := none
  fields := #[]
  methods := #[]
  instanceTypes := #[]
  staticTypes := #[]
  resolved := #[]
  callSites := []
  init := .initialized
  statics := none
  mirror := none

def pool0 : Array CpInfo := pool [(5, u "<init>"), (0, u "()V"), (1, .class_ 10), (1, u "java/lang/Object")] 113

def k0c0 : Code := { maxStack := 0, maxLocals := 1, code := object_method_1_code, exceptionTable := #[], attributes := #[] }
def k0m0 : Method := { name := "<init>", desc := "()V", sig := { parameters := [], returnType := none }, accessFlags := 1, code := some k0c0 }
/-- java/lang/Object -/
def k0 : Class := { plain "java/lang/Object" none with
  accessFlags := 33
  interfaces := #[]
  cf := some (fileOf pool0 8 #[] #[{ accessFlags := 1, nameIndex := 5, descriptorIndex := 6, attributes := #[] }] 33 0 #[] #[])
  fields := #[]
  methods := #[k0m0]
  instanceTypes := #[]
  staticTypes := #[]
  resolved := Array.replicate 124 none
  statics := none }

def pool1 : Array CpInfo := pool [(2, .class_ 4), (1, u "java/lang/Object"), (0, u "<init>"), (0, u "()V"), (0, .class_ 8), (0, u "com/example/coordinant/coordinant/tool/Bank$RunCounts"), (0, .long 5), (1, .methodref 7 12), (0, .nameAndType 5 13), (0, u "(JJJJJJJ)V"), (0, .integer 2147483647), (0, .methodref 16 17), (0, .class_ 18), (0, .nameAndType 19 20), (0, u "com/example/coordinant/coordinant/tool/RunCountsPerSecondPinLaw"), (0, u "make"), (0, u "(JJ)Lcom/example/coordinant/coordinant/tool/Bank$RunCounts;"), (0, .methodref 7 22), (0, .nameAndType 23 24), (0, u "perSecond"), (0, u "()D"), (0, .double 4741671816366391296), (1, .long 9000000), (1, .long 25), (1, .long 125), (1, .long 625), (1, .long 3125), (1, .long 15625), (1, .long 78125), (1, .long 390625), (1, .long 1953125), (1, .long 1000000000), (3, .long 9223372036854775807), (1, .long 2), (1, .double 4611686018427387904), (1, .double 4890909195324358656), (3, u "law"), (0, u "(JJIII)Z")] 9

def k1m0 : Method := { name := "<init>", desc := "()V", sig := { parameters := [], returnType := none }, accessFlags := 2, code := none }
def k1c1 : Code := { maxStack := 16, maxLocals := 4, code := method_2_code, exceptionTable := #[], attributes := #[] }
def k1m1 : Method := { name := "make", desc := "(JJ)Lcom/example/coordinant/coordinant/tool/Bank$RunCounts;", sig := { parameters := [.long, .long], returnType := some (.object "com/example/coordinant/coordinant/tool/Bank$RunCounts") }, accessFlags := 10, code := some k1c1 }
def k1c2 : Code := { maxStack := 8, maxLocals := 15, code := code, exceptionTable := #[], attributes := #[] }
def k1m2 : Method := { name := "law", desc := "(JJIII)Z", sig := { parameters := [.long, .long, .int, .int, .int], returnType := some .boolean }, accessFlags := 9, code := some k1c2 }
/-- com/example/coordinant/coordinant/tool/RunCountsPerSecondPinLaw -/
def k1 : Class := { plain "com/example/coordinant/coordinant/tool/RunCountsPerSecondPinLaw" (some 0) with
  accessFlags := 49
  interfaces := #[]
  cf := some (fileOf pool1 16 #[] #[{ accessFlags := 2, nameIndex := 5, descriptorIndex := 6, attributes := #[] }, { accessFlags := 10, nameIndex := 19, descriptorIndex := 20, attributes := #[] }, { accessFlags := 9, nameIndex := 59, descriptorIndex := 60, attributes := #[] }] 49 2 #[] #[])
  fields := #[]
  methods := #[k1m0, k1m1, k1m2]
  instanceTypes := #[]
  staticTypes := #[]
  resolved := Array.replicate 70 none
  statics := none }

def pool2 : Array CpInfo := pool [(1, .methodref 2 3), (0, .class_ 4), (0, .nameAndType 5 6), (0, u "java/lang/Object"), (0, u "<init>"), (0, u "()V"), (0, .class_ 8), (0, u "java/lang/Record")] 13

def k2c0 : Code := { maxStack := 1, maxLocals := 1, code := jdk_30_method_1_code, exceptionTable := #[], attributes := #[] }
def k2m0 : Method := { name := "<init>", desc := "()V", sig := { parameters := [], returnType := none }, accessFlags := 4, code := some k2c0 }
/-- java/lang/Record -/
def k2 : Class := { plain "java/lang/Record" (some 0) with
  accessFlags := 1057
  interfaces := #[]
  cf := some (fileOf pool2 7 #[] #[{ accessFlags := 4, nameIndex := 5, descriptorIndex := 6, attributes := #[] }] 1057 2 #[] #[])
  fields := #[]
  methods := #[k2m0]
  instanceTypes := #[]
  staticTypes := #[]
  resolved := Array.replicate 22 none
  statics := none }

def pool3 : Array CpInfo := pool [(1, .methodref 2 3), (0, .class_ 4), (0, .nameAndType 5 6), (0, u "java/lang/Record"), (0, u "<init>"), (0, u "()V"), (0, .fieldref 8 9), (0, .class_ 10), (0, .nameAndType 11 12), (0, u "com/example/coordinant/coordinant/tool/Bank$RunCounts"), (0, u "transfers"), (0, u "J"), (0, .fieldref 8 14), (0, .nameAndType 15 12), (0, u "committed"), (0, .fieldref 8 17), (0, .nameAndType 18 12), (0, u "aborted"), (0, .fieldref 8 20), (0, .nameAndType 21 12), (0, u "alternativesUsed"), (0, .fieldref 8 23), (0, .nameAndType 24 12), (0, u "audits"), (0, .fieldref 8 26), (0, .nameAndType 27 12), (0, u "inconsistent"), (0, .fieldref 8 29), (0, .nameAndType 30 12), (0, u "nanos"), (0, .double 4741671816366391296), (1, .methodref 34 35), (0, .class_ 36), (0, .nameAndType 37 38), (0, u "java/lang/Math"), (0, u "max"), (0, u "(JJ)J"), (12, u "(JJJJJJJ)V"), (4, u "()D"), (0, u "perSecond"), (7, .class_ 66), (0, u "com/example/coordinant/coordinant/tool/Bank")] 25

def k3c0 : Code := { maxStack := 3, maxLocals := 15, code := prog_83_method_1_code, exceptionTable := #[], attributes := #[] }
def k3m0 : Method := { name := "<init>", desc := "(JJJJJJJ)V", sig := { parameters := [.long, .long, .long, .long, .long, .long, .long], returnType := none }, accessFlags := 0, code := some k3c0 }
def k3c1 : Code := { maxStack := 6, maxLocals := 1, code := prog_83_method_3_code, exceptionTable := #[], attributes := #[] }
def k3m1 : Method := { name := "perSecond", desc := "()D", sig := { parameters := [], returnType := some .double }, accessFlags := 0, code := some k3c1 }
/-- com/example/coordinant/coordinant/tool/Bank$RunCounts -/
def k3 : Class := { plain "com/example/coordinant/coordinant/tool/Bank$RunCounts" (some 2) with
  accessFlags := 48
  interfaces := #[]
  cf := some (fileOf pool3 8 #[.nestHost 65] #[{ accessFlags := 0, nameIndex := 5, descriptorIndex := 51, attributes := #[] }, { accessFlags := 0, nameIndex := 57, descriptorIndex := 56, attributes := #[] }] 48 2 #[] #[{ accessFlags := 18, nameIndex := 11, descriptorIndex := 12, attributes := #[] }, { accessFlags := 18, nameIndex := 15, descriptorIndex := 12, attributes := #[] }, { accessFlags := 18, nameIndex := 18, descriptorIndex := 12, attributes := #[] }, { accessFlags := 18, nameIndex := 21, descriptorIndex := 12, attributes := #[] }, { accessFlags := 18, nameIndex := 24, descriptorIndex := 12, attributes := #[] }, { accessFlags := 18, nameIndex := 27, descriptorIndex := 12, attributes := #[] }, { accessFlags := 18, nameIndex := 30, descriptorIndex := 12, attributes := #[] }])
  fields := #[{ name := "transfers", type := .long, accessFlags := 18, slot := 0, constantValue := 0 }, { name := "committed", type := .long, accessFlags := 18, slot := 1, constantValue := 0 }, { name := "aborted", type := .long, accessFlags := 18, slot := 2, constantValue := 0 }, { name := "alternativesUsed", type := .long, accessFlags := 18, slot := 3, constantValue := 0 }, { name := "audits", type := .long, accessFlags := 18, slot := 4, constantValue := 0 }, { name := "inconsistent", type := .long, accessFlags := 18, slot := 5, constantValue := 0 }, { name := "nanos", type := .long, accessFlags := 18, slot := 6, constantValue := 0 }]
  methods := #[k3m0, k3m1]
  instanceTypes := #[.long, .long, .long, .long, .long, .long, .long]
  staticTypes := #[]
  resolved := Array.replicate 92 none
  statics := none }

def pool4 : Array CpInfo := pool [(1, .class_ 2), (0, u "java/lang/Math"), (1, .class_ 6), (1, u "java/lang/Object"), (0, u "<init>"), (0, u "()V"), (89, .class_ 100), (1, u "java/lang/Math$RandomNumberGeneratorHolder"), (20, u "(JJ)J"), (50, u "negativeZeroFloatBits"), (0, u "J"), (2, u "negativeZeroDoubleBits"), (21, u "max"), (46, u "$assertionsDisabled"), (0, u "Z"), (91, u "twoToTheDoubleScaleDown"), (0, u "D"), (4, u "twoToTheDoubleScaleUp"), (9, u "E"), (3, u "PI"), (2, u "TAU"), (2, u "DEGREES_TO_RADIANS"), (0, u "RADIANS_TO_DEGREES")] 94

def k4m0 : Method := { name := "<init>", desc := "()V", sig := { parameters := [], returnType := none }, accessFlags := 2, code := none }
def k4c1 : Code := { maxStack := 4, maxLocals := 4, code := jdk_29_method_66_code, exceptionTable := #[], attributes := #[] }
def k4m1 : Method := { name := "max", desc := "(JJ)J", sig := { parameters := [.long, .long], returnType := some .long }, accessFlags := 9, code := some k4c1 }
/-- java/lang/Math -/
def k4 : Class := { plain "java/lang/Math" (some 0) with
  accessFlags := 49
  interfaces := #[]
  cf := some (fileOf pool4 1 #[.nestMembers #[98]] #[{ accessFlags := 2, nameIndex := 7, descriptorIndex := 8, attributes := #[] }, { accessFlags := 9, nameIndex := 198, descriptorIndex := 121, attributes := #[] }] 49 4 #[] #[{ accessFlags := 25, nameIndex := 354, descriptorIndex := 339, attributes := #[] }, { accessFlags := 25, nameIndex := 358, descriptorIndex := 339, attributes := #[] }, { accessFlags := 25, nameIndex := 361, descriptorIndex := 339, attributes := #[] }, { accessFlags := 26, nameIndex := 364, descriptorIndex := 339, attributes := #[] }, { accessFlags := 26, nameIndex := 365, descriptorIndex := 339, attributes := #[] }, { accessFlags := 26, nameIndex := 172, descriptorIndex := 173, attributes := #[] }, { accessFlags := 26, nameIndex := 176, descriptorIndex := 173, attributes := #[] }, { accessFlags := 8, nameIndex := 344, descriptorIndex := 339, attributes := #[] }, { accessFlags := 8, nameIndex := 338, descriptorIndex := 339, attributes := #[] }, { accessFlags := 4120, nameIndex := 245, descriptorIndex := 246, attributes := #[] }])
  fields := #[{ name := "E", type := .double, accessFlags := 25, slot := 0, constantValue := 0 }, { name := "PI", type := .double, accessFlags := 25, slot := 1, constantValue := 0 }, { name := "TAU", type := .double, accessFlags := 25, slot := 2, constantValue := 0 }, { name := "DEGREES_TO_RADIANS", type := .double, accessFlags := 26, slot := 3, constantValue := 0 }, { name := "RADIANS_TO_DEGREES", type := .double, accessFlags := 26, slot := 4, constantValue := 0 }, { name := "negativeZeroFloatBits", type := .long, accessFlags := 26, slot := 5, constantValue := 0 }, { name := "negativeZeroDoubleBits", type := .long, accessFlags := 26, slot := 6, constantValue := 0 }, { name := "twoToTheDoubleScaleUp", type := .double, accessFlags := 8, slot := 7, constantValue := 0 }, { name := "twoToTheDoubleScaleDown", type := .double, accessFlags := 8, slot := 8, constantValue := 0 }, { name := "$assertionsDisabled", type := .boolean, accessFlags := 4120, slot := 9, constantValue := 0 }]
  methods := #[k4m0, k4m1]
  instanceTypes := #[]
  staticTypes := #[.double, .double, .double, .double, .double, .long, .long, .double, .double, .boolean]
  resolved := Array.replicate 460 none
  statics := none }

def pool5 : Array CpInfo := pool [(1, u "java/lang/Cloneable"), (0, .class_ 1), (0, u "java/lang/Object"), (0, .class_ 3)] 3

/-- java/lang/Cloneable -/
def k5 : Class := { plain "java/lang/Cloneable" (some 0) with
  accessFlags := 1537
  interfaces := #[]
  cf := some (fileOf pool5 2 #[] #[] 1537 4 #[] #[])
  fields := #[]
  methods := #[]
  instanceTypes := #[]
  staticTypes := #[]
  resolved := Array.replicate 8 none
  statics := none }

def pool6 : Array CpInfo := pool [(1, u "java/io/Serializable"), (0, .class_ 1), (0, u "java/lang/Object"), (0, .class_ 3)] 3

/-- java/io/Serializable -/
def k6 : Class := { plain "java/io/Serializable" (some 0) with
  accessFlags := 1537
  interfaces := #[]
  cf := some (fileOf pool6 2 #[] #[] 1537 4 #[] #[])
  fields := #[]
  methods := #[]
  instanceTypes := #[]
  staticTypes := #[]
  resolved := Array.replicate 8 none
  statics := none }

/-- the primitive byte -/
def k7 : Class := { plain "byte" none with kind := .primitive 'B', accessFlags := 0x411 }
/-- [B -/
def k8 : Class := { plain "[B" (some 0) with kind := .array 7 .byte, interfaces := #[5, 6], accessFlags := 1041 }

/-- the primitive int -/
def k9 : Class := { plain "int" none with kind := .primitive 'I', accessFlags := 0x411 }
/-- [I -/
def k10 : Class := { plain "[I" (some 0) with kind := .array 9 .int, interfaces := #[5, 6], accessFlags := 1041 }

/-- the primitive long -/
def k11 : Class := { plain "long" none with kind := .primitive 'J', accessFlags := 0x411 }
/-- [J -/
def k12 : Class := { plain "[J" (some 0) with kind := .array 11 .long, interfaces := #[5, 6], accessFlags := 1041 }

def heap : Heap := #[]
def classes : Array Class := #[k0, k1, k2, k3, k4, k5, k6, k7, k8, k9, k10, k11, k12]
def interned : List (Array UInt16 × Addr) := []
def slotsUsed : Nat := 0
def theMethod : MethodId := ⟨1, 2⟩
def args0 : Array Value := #[.long 7, .long 3, .int 2, .int 3, .int 1]
def aboutOver (below : List Frame) : State where
  vm := { classes := classes, interned := interned.toArray }
  heap := heap
  slotsUsed := slotsUsed
  threads := #[{ frames := .invoking theMethod args0 :: below }]
def below0 : List Frame := [.native { method := ⟨0, 0⟩, args := #[] }]
def about1 : State := aboutOver below0
def p0 : Program := .bare "" "" ""
def e0 : Env := launch0.env 0 0 0
theorem w_frames : about1.frames = Frame.invoking theMethod args0 :: below0 := rfl
set_option maxRecDepth 65536 in
theorem w_args : argsFit about1.vm theMethod args0 = true := by decide +kernel
set_option maxRecDepth 65536 in
theorem w_heap : heapFits about1 = true := by decide +kernel
set_option maxRecDepth 65536 in
theorem w_runnable : about1.curStatus? = some .runnable := by decide +kernel
set_option maxRecDepth 65536 in
theorem w_alone : about1.alone = true := by decide +kernel
set_option maxRecDepth 65536 in
theorem w_named : about1.methodNamed? x = some theMethod := by decide +kernel
set_option maxRecDepth 65536 in
theorem w_hears : about1.hears theMethod below0 = true := by decide +kernel
set_option maxRecDepth 65536 in
theorem w_ripe : about1.ripe theMethod args0 below0 = true := by decide +kernel
theorem w_running : about1.status = .running := rfl
set_option maxRecDepth 65536 in
theorem w_room : about1.hasRoom e0.platform room_1 = true :=
  launch0.hasRoom_least _ room_1 (by decide +kernel) (by decide +kernel) (by decide +kernel) (by decide +kernel) (by decide +kernel) (by decide +kernel)
theorem allAtoms_all (ts : List Jvm.Cond) (a : Array Jvm.Value) (st : Jvm.State) : (allAtoms ts).before a st = ts.all (fun c => c.before a st) := by
  induction ts with
  | nil => rfl
  | cons c t ih =>
    show (Jvm.Cond.and c (allAtoms t)).before a st = _
    rw [Jvm.Cond.before_and, ih, List.all_cons]
def words1 : List Jvm.Cond := Jvm.Cond.code x code maxLocals ret :: tables_1
/-- a 'code' word, met by the world's own term for the bytes: nothing is compared byte by byte -/
theorem code_word {y : MethodName} {bytes : ByteArray} {mx : Nat} {rt : Option FieldType} {a : Array Value} {s : State} {m : MethodId} {meth : Method} {c : Code} (h1 : s.methodNamed? y = some m) (h2 : s.vm.method? m = some meth) (h3 : meth.code = some c) (h4 : c.code = bytes)
    (h5 : (c.maxLocals == mx && c.exceptionTable.isEmpty && decide (c.maxStack ≤ mostOperands) && decide (meth.sig.returnType = rt) && !meth.locks && decide (parseMethodDescriptor y.desc = some meth.sig)) = true) : (Jvm.Cond.code y bytes mx rt).before a s = true := by
  simp only [Bool.and_eq_true, beq_iff_eq, Bool.not_eq_true', decide_eq_true_eq] at h5
  obtain ⟨⟨⟨⟨⟨g1, g2⟩, g3⟩, g4⟩, g5⟩, g6⟩ := h5
  simp [Cond.before, Cond.holds, Cond.value, h1, h2, h3, h4, g1, g2, g3, g4, g5, g6]
def isCode : Jvm.Cond → Bool
  | .code _ _ _ _ => true
  | _ => false
theorem all_split {L : List Jvm.Cond} {P : Jvm.Cond → Bool} (h1 : L.all (fun c => isCode c || P c) = true) (h2 : ∀ c ∈ L.filter isCode, P c = true) : L.all P = true := by
  refine List.all_eq_true.mpr fun c hc => ?_
  have h := List.all_eq_true.mp h1 c hc
  rcases Bool.eq_false_or_eq_true (isCode c) with hi | hi
  · exact h2 c (List.mem_filter.mpr ⟨hc, hi⟩)
  · simpa [hi] using h
set_option maxRecDepth 65536 in
theorem w_c0 : (Jvm.Cond.code x code maxLocals ret).before args0 about1 = true := code_word (m := ⟨1, 2⟩) (meth := k1m2) (c := k1c2) (by decide +kernel) rfl rfl rfl (by decide +kernel)
set_option maxRecDepth 65536 in
theorem w_c1 : (Jvm.Cond.code ({ cls := "com/example/coordinant/coordinant/tool/RunCountsPerSecondPinLaw", name := "make", desc := "(JJ)Lcom/example/coordinant/coordinant/tool/Bank$RunCounts;" } : Jvm.MethodName) method_2_code (4 : Nat) (Option.some (Jvm.ClassFile.FieldType.object "com/example/coordinant/coordinant/tool/Bank$RunCounts"))).before args0 about1 = true := code_word (m := ⟨1, 1⟩) (meth := k1m1) (c := k1c1) (by decide +kernel) rfl rfl rfl (by decide +kernel)
set_option maxRecDepth 65536 in
theorem w_c2 : (Jvm.Cond.code ({ cls := "com/example/coordinant/coordinant/tool/Bank$RunCounts", name := "<init>", desc := "(JJJJJJJ)V" } : Jvm.MethodName) prog_83_method_1_code (15 : Nat) (Option.none : Option Jvm.ClassFile.FieldType)).before args0 about1 = true := code_word (m := ⟨3, 0⟩) (meth := k3m0) (c := k3c0) (by decide +kernel) rfl rfl rfl (by decide +kernel)
set_option maxRecDepth 65536 in
theorem w_c3 : (Jvm.Cond.code ({ cls := "java/lang/Record", name := "<init>", desc := "()V" } : Jvm.MethodName) jdk_30_method_1_code (1 : Nat) (Option.none : Option Jvm.ClassFile.FieldType)).before args0 about1 = true := code_word (m := ⟨2, 0⟩) (meth := k2m0) (c := k2c0) (by decide +kernel) rfl rfl rfl (by decide +kernel)
set_option maxRecDepth 65536 in
theorem w_c4 : (Jvm.Cond.code ({ cls := "java/lang/Object", name := "<init>", desc := "()V" } : Jvm.MethodName) object_method_1_code (1 : Nat) (Option.none : Option Jvm.ClassFile.FieldType)).before args0 about1 = true := code_word (m := ⟨0, 0⟩) (meth := k0m0) (c := k0c0) (by decide +kernel) rfl rfl rfl (by decide +kernel)
set_option maxRecDepth 65536 in
theorem w_c5 : (Jvm.Cond.code ({ cls := "com/example/coordinant/coordinant/tool/Bank$RunCounts", name := "perSecond", desc := "()D" } : Jvm.MethodName) prog_83_method_3_code (1 : Nat) (Option.some Jvm.ClassFile.FieldType.double)).before args0 about1 = true := code_word (m := ⟨3, 1⟩) (meth := k3m1) (c := k3c1) (by decide +kernel) rfl rfl rfl (by decide +kernel)
set_option maxRecDepth 65536 in
theorem w_c6 : (Jvm.Cond.code ({ cls := "java/lang/Math", name := "max", desc := "(JJ)J" } : Jvm.MethodName) jdk_29_method_66_code (4 : Nat) (Option.some Jvm.ClassFile.FieldType.long)).before args0 about1 = true := code_word (m := ⟨4, 1⟩) (meth := k4m1) (c := k4c1) (by decide +kernel) rfl rfl rfl (by decide +kernel)
def codes1 : List Jvm.Cond := [Jvm.Cond.code x code maxLocals ret, Jvm.Cond.code ({ cls := "com/example/coordinant/coordinant/tool/RunCountsPerSecondPinLaw", name := "make", desc := "(JJ)Lcom/example/coordinant/coordinant/tool/Bank$RunCounts;" } : Jvm.MethodName) method_2_code (4 : Nat) (Option.some (Jvm.ClassFile.FieldType.object "com/example/coordinant/coordinant/tool/Bank$RunCounts")), Jvm.Cond.code ({ cls := "com/example/coordinant/coordinant/tool/Bank$RunCounts", name := "<init>", desc := "(JJJJJJJ)V" } : Jvm.MethodName) prog_83_method_1_code (15 : Nat) (Option.none : Option Jvm.ClassFile.FieldType), Jvm.Cond.code ({ cls := "java/lang/Record", name := "<init>", desc := "()V" } : Jvm.MethodName) jdk_30_method_1_code (1 : Nat) (Option.none : Option Jvm.ClassFile.FieldType), Jvm.Cond.code ({ cls := "java/lang/Object", name := "<init>", desc := "()V" } : Jvm.MethodName) object_method_1_code (1 : Nat) (Option.none : Option Jvm.ClassFile.FieldType), Jvm.Cond.code ({ cls := "com/example/coordinant/coordinant/tool/Bank$RunCounts", name := "perSecond", desc := "()D" } : Jvm.MethodName) prog_83_method_3_code (1 : Nat) (Option.some Jvm.ClassFile.FieldType.double), Jvm.Cond.code ({ cls := "java/lang/Math", name := "max", desc := "(JJ)J" } : Jvm.MethodName) jdk_29_method_66_code (4 : Nat) (Option.some Jvm.ClassFile.FieldType.long)]
set_option maxRecDepth 65536 in
theorem codes_eq : words1.filter isCode = codes1 := rfl
theorem w_codes : ∀ c ∈ words1.filter isCode, c.before args0 about1 = true := by
  rw [codes_eq]
  intro c hc
  simp only [codes1, List.mem_cons, List.not_mem_nil, or_false] at hc
  rcases hc with rfl | rfl | rfl | rfl | rfl | rfl | rfl
  · exact w_c0
  · exact w_c1
  · exact w_c2
  · exact w_c3
  · exact w_c4
  · exact w_c5
  · exact w_c6
set_option maxRecDepth 65536 in
theorem w_t1 : (words1.take 24).all (fun c => isCode c || c.before args0 about1) = true := by decide +kernel
set_option maxRecDepth 65536 in
theorem w_t2 : ((words1.drop 24).take 24).all (fun c => isCode c || c.before args0 about1) = true := by decide +kernel
set_option maxRecDepth 65536 in
theorem w_t3 : ((words1.drop 24).drop 24).all (fun c => isCode c || c.before args0 about1) = true := by decide +kernel
theorem w_tables : (allAtoms (Jvm.Cond.code x code maxLocals ret :: tables_1)).before args0 about1 = true := by
  rw [allAtoms_all]
  show words1.all (fun c => c.before args0 about1) = true
  refine all_split ?_ w_codes
  rw [← List.take_append_drop 24 words1, List.all_append, w_t1, ← List.take_append_drop 24 (words1.drop 24), List.all_append, w_t2, w_t3]
  rfl
set_option maxRecDepth 65536 in
theorem w_case : (Jvm.Cond.and given_1 narrow_1).before args0 about1 = true := by decide +kernel
theorem w_applies : (headSpec (Jvm.Cond.code x code maxLocals ret :: tables_1) room_1).applies x e0.platform about1 = true :=
  (Spec.applies_iff w_frames).mpr ⟨w_running, w_runnable, w_alone, w_named, w_hears, w_ripe, w_room, w_tables⟩
theorem atStart : AtStart classFile x code maxLocals ret World_1 tables_1 room_1 Calls_1 rest_1 Pre_1 launch0 p0 e0 about1 theMethod args0 below0 :=
  ⟨lists_1, trivial, launch0.admits_env _ _ _, launch0.least_env, fairChoices_fair.cas, fairChoices_fair.clock, w_frames, w_args, w_heap, w_applies, trivial, trivial, w_case⟩
end start1
theorem witness_1 : WitnessClaimed_1 := ⟨start1.p0, start1.e0, start1.about1, start1.theMethod, start1.args0, start1.below0, start1.atStart⟩
end Jvm.Pilot.@@N@@
